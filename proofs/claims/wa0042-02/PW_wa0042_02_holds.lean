import PyProof.Rows.All
import PyProof.EnumStmt
import PyProof.EnumMake
import PyProof.RangeFor
import PyProof.ZipIter
import PyProof.Rows.Range3
import KE.KCallOwn
import KE.KFromBytes
import KE.KSuper
import Wide.FinOn
import OpenK.AllK
import Wide.All
import PySem.Challenge.RW_wa0042_02
open PySem PySem.W PyProof.Rows
set_option Elab.async false
set_option maxRecDepth 100000
namespace Mine.Internal
section
variable {β:Type}{r:β}
theorem nos{C:Prop}(h:none=some r):C:=nomatch h
noncomputable def grd(c:Prop) [Decidable c] (x:Option β):Option β:=if c then x else none
theorem ite_some{c:Prop} [Decidable c] {x y:Option β}(h:(if c then x else y)=some r):(c∧x=some r)∨(¬ c∧y=some r):=by
 split at h
 ·exact .inl ⟨‹_›,h⟩
 ·exact .inr ⟨‹_›,h⟩
theorem grd_some{c:Prop} [Decidable c] {x:Option β}(h:grd c x=some r):c∧x=some r:=
 (ite_some h).elim id fun h=>nomatch h.2
theorem bQ{c:Prop} [Decidable c] {x:Option β}(h:(if c then none else x)=some r):¬ c∧x=some r:=
 (ite_some h).elim (fun h=>nomatch h.2) id
theorem cV{C:Prop}{c:Prop} [Decidable c] {x:Option β}(h:grd c x=some r)(q:c→x=some r→C):C:=q (grd_some h).1 (grd_some h).2
noncomputable def opt{α:Type}(o:Option α)(f:α→Option β):Option β:=match o with
 |some a=>f a
 |none=>none
theorem aA{α:Type}{o:Option α}{f:α→Option β}(h:opt o f=some r):∃a,o=some a∧f a=some r:=by
 cases o with
 |none=>cases h
 |some a=>exact⟨a,rfl,h⟩
theorem aY{C:Prop}{α:Type}{o:Option α}{f:α→Option β}(h:opt o f=some r)(q:∀a,o=some a→f a=some r→C):C:=by
 cases o with
 |none=>exact nos h
 |some a=>exact q a rfl h
end
noncomputable def fX{α β:Type}(o:Option α)(b:β)(f:α→β):β:=match o with
 |some a=>f a
 |none=>b
theorem jG{α:Type}{o:Option α}{f:α→Bool}(h:fX o false f=true):∃a,o=some a∧f a=true:=by
 cases o with
 |some a=>exact⟨a,rfl,h⟩
 |none=>exact Bool.noConfusion h
noncomputable def bF{γ:Type}(e:Expr)(z:γ)(cst:Const→γ:=fun _=>z)(nam:Str→Pos→γ:=fun _ _=>z)(bin:Expr→Expr→γ:=fun _ _=>z)(un:UnaryOp→Expr→γ:=fun _ _=>z)(ife:γ:=z)(bo:BoolOp→List Expr→γ:=fun _ _=>z)
  (cmp:Expr→List CmpOp→List Expr→γ:=fun _ _ _=>z) (tup:List Expr→γ:=fun _=>z) (dic:List (Option Expr)→List Expr→Pos→γ:=fun _ _ _=>z) (sub:Expr→Expr→γ:=fun _ _=>z) (call:Expr→List Expr→List Keyword→γ:=fun _ _ _=>z)
  (lc:Expr→List Comprehension→Scope→γ:=fun _ _ _=>z) (att:Expr→Str→Pos→γ:=fun _ _ _=>z) (sli:Option Expr→Option Expr→Option Expr→γ:=fun _ _ _=>z):γ:=match e with
 |.Constant c _ _=>cst c
 |.Name x p=>nam x p
 |.BinOp l _ r _=>bin l r
 |.UnaryOp op x _=>un op x
 |.IfExp _ _ _ _=>ife
 |.BoolOp op vs _=>bo op vs
 |.Compare l ops rs _=>cmp l ops rs
 |.Tuple es _ _=>tup es
 |.List _ _=>z
 |.Dict ks vs p=>dic ks vs p
 |.Subscript v i _=>sub v i
 |.Call f args kws _=>call f args kws
 |.ListComp elt gens scope _=>lc elt gens scope
 |.Attribute o m p=>att o m p
 |.Slice lo hi st _=>sli lo hi st
 |_=>z
noncomputable def eJ{γ:Type}(s:Stmt)(z:γ)(asg:List Expr→Expr→Pos→γ:=fun _ _ _=>z)(iff:Expr→List Stmt→List Stmt→γ:=fun _ _ _=>z)(ret:Option Expr→γ:=fun _=>z)(fr:Expr→Expr→List Stmt→γ:=fun _ _ _=>z)
  (wh:Expr→List Stmt→γ:=fun _ _=>z) (fd:Str→Arguments→List Stmt→Scope→γ:=fun _ _ _ _=>z) (cd:List Stmt→γ:=fun _=>z):γ:=match s with
 |.Assign ts v p=>asg ts v p
 |.AugAssign _ _ _ _=>z
 |.If t a b _=>iff t a b
 |.Return v _=>ret v
 |.Expr _ _=>z
 |.Assert _ _ _=>z
 |.Break _=>z
 |.Delete _ _=>z
 |.For t it body _ _=>fr t it body
 |.While t body _ _=>wh t body
 |.FunctionDef n a b _ _ _ sc _ _ _=>fd n a b sc
 |.ClassDef _ _ _ b _ _ _ _ _ _ _=>cd b
 |_=>z
section
variable {α:Type}{M:Model}{A:Around}{E:Value→Shared→Prop}{s:Shared}{c:Prop} [Decidable c] {a b:Sem α}{Q:α→Shared→Prop}
theorem if_t(hc:c)(h:wpAny M A a Q E s):wpAny M A (if c then a else b) Q E s:=by rw[if_pos hc];exact h
theorem if_f(hc:¬ c)(h:wpAny M A b Q E s):wpAny M A (if c then a else b) Q E s:=by rw[if_neg hc];exact h
end
noncomputable def kget:List (Nat×Obj)→Nat→Option Obj
 |[],_=>none
 |p::l,b=>match Nat.beq p.1 b with
  |true=>some p.2
  |false=>kget l b
noncomputable def kset:List (Nat×Obj)→Nat→Obj→List (Nat×Obj)
 |[],_,_=>[]
 |p::l,b,o=>match Nat.beq p.1 b with
  |true=>(b,o)::l
  |false=>p::kset l b o
theorem cP0(a b:Nat):Nat.beq a b=decide (a=b):=BT.beq_eq a b
theorem bV(p:Nat×Obj)(l:List (Nat×Obj))(b:Nat):kget (p::l) b=if p.1=b then some p.2 else kget l b:=by
 show (match Nat.beq p.1 b with | true=>some p.2 | false=>kget l b)=_
 rw[cP0]
 by_cases h:p.1=b<;>simp[h]
theorem iE(a:Nat)(o:Obj):∀(l:List (Nat×Obj)) (b:Nat),kget (kset l a o) b=if a=b then (kget l a).map (fun _=>o) else kget l b
 |[],b=>by simp[kset,kget]
 |p::l,b=>by
  have e:kset (p::l) a o=if p.1=a then (a,o)::l else p::kset l a o:=by
   show (match Nat.beq p.1 a with | true=>(a,o)::l | false=>p::kset l a o)=_
   rw[cP0]
   by_cases h:p.1=a<;>simp[h]
  rw[e]
  by_cases h:p.1=a
  ·subst h
   rw[if_pos rfl,bV,bV,bV]
   by_cases q:p.1=b<;>simp[q]
  ·rw[if_neg h,bV,bV,bV,iE a o l b]
   by_cases q:a=b
   ·subst q;simp[h]
   ·by_cases r:p.1=b<;>simp[q,r]
structure KS where
 kn:List (Nat×Obj)
 n:Nat
 t:Nat
structure KOk (k:KS) (s:Shared):Prop where
 size:s.heap.objs.size=k.n
 toks:s.toks=k.t
 kn:∀a o,kget k.kn a=some o→s.heap.get? a=some o
structure KFr (k:KS) (s s':Shared):Prop where
 gens:s'.gens=s.gens
 drawn:s'.drawn=s.drawn
 os:s'.os=s.os
 keep:∀b o,kget k.kn b=none→s.heap.get? b=some o→s'.heap.get? b=some o
theorem KFr.refl(k:KS)(s:Shared):KFr k s s:=⟨rfl,rfl,rfl,fun _ _ _ e=>e⟩
noncomputable def uF(c:Code):Bool:=
 !((PySem.W.Fast.tw15578638425004381011 ⟨.pure (.again c),c,default,[]⟩&&!PySem.W.Fast.tw8446751554062831747 ⟨.pure (.again c),c,default,[]⟩) || PySem.W.Fast.tw6516510885911402389 ⟨.pure (.again c),c,default,[]⟩)
theorem hA0(c:Code):uF c=c.quiet:=by
 unfold uF Code.quiet Thread.loud
 rw[← PySem.W.Fast.te15578638425004381011,← PySem.W.Fast.te8446751554062831747,← PySem.W.Fast.te6516510885911402389]
noncomputable def bT0{β:Type}(b:Bool)(x:Option β):Option β:=match b with
 |true=>none
 |false=>x
noncomputable def goIf{β:Type}(b:Bool)(x:Option β):Option β:=match b with
 |true=>x
 |false=>none
section
variable (den:Code→Sem Fin)(prog:Program)(P:Params)
noncomputable abbrev aL0:=(α:Type)→Ctx→Pos→KS→Sem α→Option (Except Value α×Pos×KS)
noncomputable def zQ(ih:aL0):Nat→Ctx→Pos→KS→Option (Result×KS)
 |0,_,_,_=>none
 |m+1,Γ,p,S=>opt (ih Fin Γ p S (den Γ.code)) fun x=>match x.1 with
   |.ok fin=>match fin with
    |.done f=>some (.ok f,x.2.2)
    |.again c=>goIf (uF c) (zQ ih m (Γ.goto c) x.2.1 x.2.2)
   |.error e=>some (.error e,x.2.2)
noncomputable def jF0(fuel:Nat)(ih:aL0):aL0:=fun α Γ p S t=>match S with
 |⟨kn,n,tk⟩=>match t with
  |.pure a=>some (.ok a,p,⟨kn,n,tk⟩)
  |.raise e=>some (.error e,p,⟨kn,n,tk⟩)
  |.rule _ k=>ih α Γ p ⟨kn,n,tk⟩ (k ())
  |.at p' k=>ih α Γ p' ⟨kn,n,tk⟩ (k ())
  |.point _ k=>ih α Γ p ⟨kn,n,tk⟩ (k ())
  |.load a _ k=>opt (kget kn a) fun o=>ih α Γ p ⟨kn,n,tk⟩ (k o)
  |.loadIfAlive a k=>opt (kget kn a) fun o=>ih α Γ p ⟨kn,n,tk⟩ (k (some o))
  |.update a _ f k=>opt (kget kn a) fun o=>bT0 (f o).isFreed (ih α Γ p ⟨kset kn a (f o),n,tk⟩ (k ()))
  |.alloc o k=>bT0 o.isFreed (ih α Γ p ⟨(n,o)::kn,n+1,tk⟩ (k n))
  |.fresh k=>ih α Γ p ⟨kn,n,tk+1⟩ (k tk)
  |.ask k=>ih α Γ p ⟨kn,n,tk⟩ (k ⟨prog,P⟩)
  |.handled own k=>ih α Γ p ⟨kn,n,tk⟩ (k (if own then Γ.own else Γ.handled))
  |.stack k=>ih α Γ p ⟨kn,n,tk⟩ (k ((Γ.code,p)::Γ.below))
  |.call c h _ _ k=>opt (zQ den ih fuel (Γ.enter c h p) p ⟨kn,n,tk⟩) fun x=>ih α Γ p x.2 (k x.1)
  |_=>none
noncomputable def bs:Nat→aL0
 |0=>fun _ _ _ _ _=>none
 |n+1=>jF0 den prog P n (bs n)
end
theorem KOk.step_alloc{k:KS}{s:Shared}(K:KOk k s){o:Obj}(ho:o.isFreed=false):KOk ⟨(k.n,o)::k.kn,k.n+1,k.t⟩ { s with heap:=s.heap.push o }:=by
 refine⟨by show (s.heap.push o).objs.size=_;rw[Heap.size_push,K.size],K.toks,fun a o' e=>?_⟩
 dsimp only at e
 rw[bV]at e
 by_cases h:k.n=a
 ·rw[if_pos h]at e;cases e
  have:s.heap.objs.size=a:=K.size.trans h
  subst this
  exact Heap.get?_push_size _ ho
 ·rw[if_neg h]at e
  exact Heap.get?_push_of_some _ (K.kn a o' e)
theorem KFr.step_alloc{k:KS}{s s':Shared}(K:KOk k s){o:Obj}(F:KFr ⟨(k.n,o)::k.kn,k.n+1,k.t⟩ { s with heap:=s.heap.push o } s'):KFr k s s':=by
 refine⟨F.gens,F.drawn,F.os,fun b o' e h=>F.keep b o' ?_ (Heap.get?_push_of_some _ h)⟩
 have hb:b < k.n:=K.size▸Heap.lt_size h
 show kget ((k.n,o)::k.kn) b=none
 rw[bV,if_neg (by show ¬ k.n=b;lia)]
 exact e
theorem KOk.step_update{k:KS}{s:Shared}(K:KOk k s){a:Nat}{o:Obj}{f:Obj→Obj}(h:kget k.kn a=some o)(hf:(f o).isFreed=false):KOk ⟨kset k.kn a (f o),k.n,k.t⟩ { s with heap:=s.heap.update a f }:=by
 refine⟨by show (s.heap.update a f).objs.size=_;rw[Heap.size_after_update,K.size],K.toks,fun b o' e=>?_⟩
 dsimp only at e
 rw[iE]at e
 by_cases hb:a=b
 ·subst hb
  rw[if_pos rfl,h]at e
  cases e
  exact Heap.get?_update_self f (K.kn _ _ h) hf
 ·rw[if_neg hb]at e
  exact (Heap.get?_update_other _ f hb).trans (K.kn b o' e)
theorem KFr.step_update{k:KS}{s s':Shared}{a:Nat}{o:Obj}{f:Obj→Obj}(h:kget k.kn a=some o)(F:KFr ⟨kset k.kn a (f o),k.n,k.t⟩ { s with heap:=s.heap.update a f } s'):KFr k s s':=by
 refine⟨F.gens,F.drawn,F.os,fun b o' e hb=>?_⟩
 have hab:a≠b:=by rintro rfl;rw[h]at e;cases e
 refine F.keep b o' ?_ ((Heap.get?_update_other _ f hab).trans hb)
 show kget (kset k.kn a (f o)) b=none
 rw[iE,if_neg hab]
 exact e
theorem KFr.trans{k k':KS}{s s' s'':Shared}(hk:∀b,b < k.n→kget k.kn b=none→kget k'.kn b=none)(K:KOk k s)(F:KFr k s s')(G:KFr k' s' s''):KFr k s s'':=
 ⟨G.gens.trans F.gens,G.drawn.trans F.drawn,G.os.trans F.os,fun b o e h=>G.keep b o (hk b (K.size▸Heap.lt_size h) e) (F.keep b o e h)⟩
noncomputable def KMono(S S':KS):Prop:=(∀b,b < S.n→kget S.kn b=none→kget S'.kn b=none)∧S.n≤S'.n
theorem KMono.refl(S:KS):KMono S S:=⟨fun _ _ e=>e,Nat.le_refl _⟩
theorem KMono.trans{S T U:KS}(h:KMono S T)(g:KMono T U):KMono S U:=⟨fun b hb e=>g.1 b (Nat.lt_of_lt_of_le hb h.2) (h.1 b hb e),Nat.le_trans h.2 g.2⟩
section
variable {M:Model}
noncomputable def Post{α:Type}(r:Except Value α)(Q:α→Pos→Shared→Prop)(E:Value→Pos→Shared→Prop)(p':Pos)(s':Shared):Prop:=match r with | .ok a=>Q a p' s' | .error e=>E e p' s'
structure BsOut (M:Model) {α:Type} (Γ:Ctx) (p:Pos) (S S':KS) (t:Sem α) (r:Except Value α) (p':Pos):Prop where
 mono:KMono S S'
 run:∀(s:Shared) (Q:α→Pos→Shared→Prop) (E:Value→Pos→Shared→Prop),KOk S s→(∀s',KOk S' s'→KFr S s s'→Post r Q E p' s')→Sem.wp M Γ t Q E p s
structure BcOut (M:Model) (Γ:Ctx) (p:Pos) (S S':KS) (r:Result):Prop where
 mono:KMono S S'
 run:∀(s:Shared) (R:Result→Shared→Prop),KOk S s→(∀s',KOk S' s'→KFr S s s'→R r s')→wpCode M Γ R p s
noncomputable def oS(M:Model)(ih:aL0):Prop:=∀{α:Type} {Γ:Ctx} {p:Pos} {S S':KS} {t:Sem α} {r:Except Value α} {p':Pos},ih α Γ p S t=some (r,p',S')→BsOut M Γ p S S' t r p'
theorem eK0{β:Type}{b:Bool}{x:Option β}{r:β}(h:goIf b x=some r):b=true∧x=some r:=by
 cases b with
 |true=>exact⟨rfl,h⟩
 |false=>cases h
theorem nX{β:Type}{b:Bool}{x:Option β}{r:β}(h:bT0 b x=some r):b=false∧x=some r:=by
 cases b with
 |true=>cases h
 |false=>exact⟨rfl,h⟩
section
variable {α:Type}{Γ:Ctx}{p p':Pos}{S S' S₁:KS}{r:Except Value α}
theorem bc_again{c:Code}{q:Pos}{r:Result}(hq:uF c=true)(h:BsOut M Γ p S S₁ (M.den Γ.code) (.ok (.again c)) q)(g:BcOut M (Γ.goto c) q S₁ S' r):BcOut M Γ p S S' r:=
 ⟨h.mono.trans g.mono,fun s R K hR=>(wpCode_iff_wp ..).mpr (h.run s _ _ K fun s' K' F=>⟨(hA0 _).symm.trans hq,g.run s' R K' fun s'' K'' F'=>hR s'' K'' (F.trans h.mono.1 K F')⟩)⟩
theorem bc_done{f:Flow}{q:Pos}(h:BsOut M Γ p S S' (M.den Γ.code) (.ok (.done f)) q):BcOut M Γ p S S' (.ok f):=
 ⟨h.mono,fun s R K hR=>(wpCode_iff_wp ..).mpr (h.run s _ _ K fun s' K' F=>hR s' K' F)⟩
theorem bc_err{e:Value}{q:Pos}(h:BsOut M Γ p S S' (M.den Γ.code) (.error e) q):BcOut M Γ p S S' (.error e):=
 ⟨h.mono,fun s R K hR=>(wpCode_iff_wp ..).mpr (h.run s _ _ K fun s' K' F=>hR s' K' F)⟩
theorem nJ{ih:aL0}(H:oS M ih):∀(m:Nat) {Γ:Ctx} {p:Pos} {S S':KS} {r:Result},zQ M.den ih m Γ p S=some (r,S')→BcOut M Γ p S S' r
 |0,_,_,_,_,_,h=>nos h
 |m+1,Γ,p,S,S',r,h=>by
  obtain⟨⟨r₁,q,S₁⟩,e,h⟩:=aA h
  have g:=H e
  cases r₁ with
  |error x=>
   obtain⟨e1,e2⟩:=Prod.mk.inj (Option.some.inj h)
   subst e1 e2
   exact bc_err g
  |ok fin=>cases fin with
   |done f=>
    obtain⟨e1,e2⟩:=Prod.mk.inj (Option.some.inj h)
    subst e1 e2
    exact bc_done g
   |again c=>
    obtain⟨hq,h⟩:=eK0 h
    exact bc_again hq g (nJ H m h)
theorem bs_load{a:Nat}{o:Obj}{part:Option Value}{k:Obj→Sem α}(e:kget S.kn a=some o)(h:BsOut M Γ p S S' (k o) r p'):BsOut M Γ p S S' (.load a part k) r p':=
 ⟨h.mono,fun s Q E K hR=>⟨o,K.kn a o e,h.run s Q E K hR⟩⟩
theorem lK0{a:Nat}{o:Obj}{k:Option Obj→Sem α}(e:kget S.kn a=some o)(h:BsOut M Γ p S S' (k (some o)) r p'):BsOut M Γ p S S' (.loadIfAlive a k) r p':=
 ⟨h.mono,fun s Q E K hR=>by
  show Sem.wp M Γ (k (s.heap.get? a)) Q E p s
  rw[K.kn a o e]
  exact h.run s Q E K hR⟩
theorem eG0{a:Nat}{o:Obj}{part:Option Value}{f:Obj→Obj}{k:Unit→Sem α}(e:kget S.kn a=some o)(hf:(f o).isFreed=false)(h:BsOut M Γ p ⟨kset S.kn a (f o),S.n,S.t⟩ S' (k ()) r p'):BsOut M Γ p S S' (.update a part f k) r p':=by
 refine⟨⟨fun b hb eb=>h.mono.1 b hb ?_,h.mono.2⟩,fun s Q E K hR=>⟨?_,h.run _ Q E (K.step_update e hf) fun s' K' F=>hR s' K' (F.step_update e)⟩⟩
 ·show kget (kset S.kn a (f o)) b=none
  rw[iE,if_neg (fun e'=>by subst e';exact nos (eb.symm.trans e))]
  exact eb
 ·rw[K.kn a o e];rfl
theorem hX0{o:Obj}{k:Addr→Sem α}(hf:o.isFreed=false)(h:BsOut M Γ p ⟨(S.n,o)::S.kn,S.n+1,S.t⟩ S' (k S.n) r p'):BsOut M Γ p S S' (.alloc o k) r p':=by
 refine⟨⟨fun b hb eb=>h.mono.1 b (Nat.lt_succ_of_lt hb) ?_,Nat.le_of_succ_le h.mono.2⟩,fun s Q E K hR=>?_⟩
 ·show kget ((S.n,o)::S.kn) b=none
  rw[bV,if_neg fun e:S.n=b=>Nat.lt_irrefl b (e▸hb)]
  exact eb
 ·show Sem.wp M Γ (k s.heap.objs.size) Q E p _
  rw[K.size]
  exact h.run _ Q E (K.step_alloc hf) fun s' K' F=>hR s' K' (F.step_alloc K)
theorem lC0{k:Nat→Sem α}(h:BsOut M Γ p ⟨S.kn,S.n,S.t+1⟩ S' (k S.t) r p'):BsOut M Γ p S S' (.fresh k) r p':=by
 refine⟨h.mono,fun s Q E K hR=>?_⟩
 show Sem.wp M Γ (k s.toks) Q E p _
 rw[K.toks]
 exact h.run _ Q E ⟨K.size,rfl,K.kn⟩ fun s' K' F=>hR s' K' ⟨F.gens,F.drawn,F.os,F.keep⟩
theorem bs_call{c:Code}{hd g l}{k:Result→Sem α}{r₁:Result}(g₁:BcOut M (Γ.enter c hd p) p S S₁ r₁)(h:BsOut M Γ p S₁ S' (k r₁) r p'):BsOut M Γ p S S' (.call c hd g l k) r p':=
 ⟨g₁.mono.trans h.mono,fun s Q E K hR=>g₁.run s _ K fun s' K' F=>h.run s' Q E K' fun s'' K'' F'=>hR s'' K'' (F.trans g₁.mono.1 K F')⟩
end
theorem xE{ih:aL0}(H:oS M ih)(fuel:Nat):oS M (jF0 M.den M.prog M.w.params fuel ih):=by
 intro α Γ p S S' t r p' h
 obtain⟨kn,n,tk⟩:=S
 cases t with
 |pure a=>obtain⟨rfl,e⟩:=Prod.mk.inj (Option.some.inj h);obtain⟨rfl,rfl⟩:=Prod.mk.inj e;exact⟨.refl _,fun s Q E K hR=>hR s K (KFr.refl _ _)⟩
 |raise e=>obtain⟨rfl,e⟩:=Prod.mk.inj (Option.some.inj h);obtain⟨rfl,rfl⟩:=Prod.mk.inj e;exact⟨.refl _,fun s Q E K hR=>hR s K (KFr.refl _ _)⟩
 |rule _ k=>have g:=H (t:=k ()) h;exact⟨g.mono,g.run⟩
 | «at» q k=>have g:=H (t:=k ()) h;exact⟨g.mono,g.run⟩
 |point _ k=>have g:=H (t:=k ()) h;exact⟨g.mono,g.run⟩
 |load a part k=>obtain⟨o,e,h⟩:=aA h;exact bs_load e (H h)
 |loadIfAlive a k=>obtain⟨o,e,h⟩:=aA h;exact lK0 e (H h)
 |update a part f k=>obtain⟨o,e,h⟩:=aA h;obtain⟨hf,h⟩:=nX h;exact eG0 e hf (H h)
 |alloc o k=>obtain⟨hf,h⟩:=nX h;exact hX0 hf (H h)
 |fresh k=>exact lC0 (H h)
 |ask k=>have g:=H (t:=k ⟨M.prog,M.w.params⟩) h;exact⟨g.mono,g.run⟩
 |handled own k=>have g:=H (t:=k (if own then Γ.own else Γ.handled)) h;exact⟨g.mono,g.run⟩
 |stack k=>have g:=H (t:=k ((Γ.code,p)::Γ.below)) h;exact⟨g.mono,g.run⟩
 |call c hd g l k=>obtain⟨⟨r₁,S₁⟩,e,h⟩:=aA h;exact bs_call (nJ H _ e) (H h)
 |_=>exact nos h
theorem cQ0(M:Model):∀n,oS M (bs M.den M.prog M.w.params n)
 |0=>fun h=>nos h
 |n+1=>xE (cQ0 M n) n
end
noncomputable def IDict(h:Heap)(d:Addr)(es:Array DictEntry):Prop:=∃o ep,h.get? d=some o∧o.ExactDict∧o.data=.dict es ep
theorem IDict.keep{h h':Heap}{d:Addr}{es:Array DictEntry}(x:IDict h d es)(k:∀o,h.get? d=some o→h'.get? d=some o):IDict h' d es:=
 let ⟨o,ep,e,r⟩:=x;⟨o,ep,k o e,r⟩
noncomputable def bY(p:Int×Str)(e:DictEntry):Prop:=∃t u,e=⟨hashInt p.1,.int p.1 t,.str p.2 u⟩
theorem tD{ps:List (Int×Str)}{l:List DictEntry}(x:Paired bY ps l):∀e∈l,∃k t,e.key=.int k t∧e.hash=hashInt k:=by
 induction x with
 |nil=>intro e h;cases h
 |cons h _ ih=>
  intro e he
  rcases List.mem_cons.mp he with rfl | he
  ·obtain⟨t,u,rfl⟩:=h;exact⟨_,_,rfl,rfl⟩
  ·exact ih e he
theorem bR0{ps:List (Int×Str)}{l:List DictEntry}{k:Int}(x:Paired bY ps l)(hk:k∉ps.map Prod.fst):∀e∈l,Value.isInt k e.key=false:=by
 induction x with
 |nil=>intro e h;cases h
 |cons h _ ih=>
  intro e he
  rw[List.map_cons,List.mem_cons,not_or]at hk
  rcases List.mem_cons.mp he with rfl | he
  ·obtain⟨t,u,rfl⟩:=h
   show (_==k)=false
   exact beq_eq_false_iff_ne.mpr (Ne.symm hk.1)
  ·exact ih hk.2 e he
theorem Paired.app{α β:Type}{F:α→β→Prop}{a b:List α}{c d:List β}(x:Paired F a c)(y:Paired F b d):Paired F (a++b) (c++d):=by
 induction x with
 |nil=>exact y
 |cons h _ ih=>exact .cons h ih
theorem Paired.at{α β:Type}{F:α→β→Prop}{a:List α}{b:List β}(x:Paired F a b):∀(i:Nat) (h:i < b.length),∃q,a[i]?=some q∧F q b[i]:=by
 induction x with
 |nil=>intro i h;cases h
 |@cons p q l m hpq _ ih=>
  intro i h
  cases i with
  |zero=>exact⟨p,rfl,hpq⟩
  |succ i=>exact ih i (Nat.lt_of_succ_lt_succ h)
section
variable {prog:Program}{w:World}{A:Around}{E:Value→Shared→Prop}{s:Shared}
theorem gS{d:Addr}{es:Array DictEntry}{ps:List (Int×Str)}{k:Int}{t:Tok}{Q:Option Nat→Shared→Prop}(hm:IDict s.heap d es)(he:Paired bY ps es.toList)(hk:k∉ps.map Prod.fst)
  (h:Q none s):wpAny (model prog w) A (dictFind d (.int k t) (hashInt k)) Q E s:=by
 obtain⟨o,ep,ho,hc,hd⟩:=hm
 refine wpAny_dictFind_int ho hd (fun e hm=>tD he e (Array.mem_toList_iff.mpr hm)) ?_
 rw[Array.findIdx?_eq_none_iff.mpr fun e hm=>bR0 he hk e (Array.mem_toList_iff.mpr hm)]
 exact h
theorem yW{d:Addr}{es:Array DictEntry}{ps:List (Int×Str)}{p:Int×Str}{part:Option Value}{t u:Tok}{Q:Unit→Shared→Prop}(hm:IDict s.heap d es)(he:Paired bY ps es.toList)(hz:ps.length≤100000)
  (h:∀h',IDict h' d (es.push ⟨hashInt p.1,.int p.1 t,.str p.2 u⟩)→Paired bY (ps++[p]) (es.push ⟨hashInt p.1,.int p.1 t,.str p.2 u⟩).toList→Heap.SameBut d s.heap h'→Q () { s with heap:=h' }):
  wpAny (model prog w) A (updateDictKeys d (·.push ⟨hashInt p.1,.int p.1 t,.str p.2 u⟩) part) Q E s:=by
 obtain⟨o,ep,ho,hc,hd⟩:=hm
 have hl:es.size=ps.length:=by rw[← Array.length_toList,he.length]
 refine wpAny_updateDictKeys (hz:=by rw[hl];exact Nat.le_trans hz (by decide)) ho hd (h _ ⟨_,ep+1,Heap.get?_update_self _ ho (Obj.isFreed_of_dict (Obj.data_mapDictKeys hd _)),hc.mapDictKeys _,Obj.data_mapDictKeys hd _⟩ ?_ (Heap.SameBut.update ..))
 rw[Array.toList_push]
 exact Paired.app he (.cons ⟨t,u,rfl⟩ .nil)
theorem rV{d:Addr}{es:Array DictEntry}{ps:List (Int×Str)}{p:Int×Str}{t u:Tok}{Q:Unit→Shared→Prop}(hm:IDict s.heap d es)(he:Paired bY ps es.toList)(hk:p.1∉ps.map Prod.fst)(hz:ps.length≤100000)
  (h:∀h' tk es',IDict h' d es'→Paired bY (ps++[p]) es'.toList→Heap.SameBut d s.heap h'→Q () { s with heap:=h',toks:=tk }):
  wpAny (model prog w) A (dictSet d (.int p.1 t) (.str p.2 u)) Q E s:=by
 unfold dictSet
 try with_reducible refine wpAny_holding ?_
 refine wpAny_bind (wpAny_pyHash_int ?_)
 unfold dictSetHashed
 try with_reducible refine wpAny_holding ?_
 refine wpAny_bind (gS (s:={ s with toks:=s.toks+1 }) hm he hk ?_)
 exact wpAny_bind (wpAny_rule (yW (s:={ s with toks:=s.toks+1 }) hm he hz fun h' a b c=>h h' _ _ a b c))
noncomputable def Gives(p:Int×Str)(x:Sem Value×Sem Value):Prop:=
 (∀(M:Model) (A:Around) (E:Value→Shared→Prop) (s:Shared) (Q:Value→Shared→Prop),(∀t tk,Q (.int p.1 t) { s with toks:=tk })→wpAny M A x.1 Q E s)∧
 (∀(M:Model) (A:Around) (E:Value→Shared→Prop) (s:Shared) (Q:Value→Shared→Prop),(∀t tk,Q (.str p.2 t) { s with toks:=tk })→wpAny M A x.2 Q E s)
theorem oJ:∀{ps:List (Int×Str)} {pairs:List (Sem Value×Sem Value)} (_:Paired Gives ps pairs) (s:Shared) (Q:List (Value×Value)→Shared→Prop)
  (_:∀vs tk,Paired (fun (p:Int×Str) (v:Value×Value)=>∃t u,v=(.int p.1 t,.str p.2 u)) ps vs→Q vs { s with toks:=tk }),wpAny (model prog w) A (evalPairs pairs) Q E s:=by
 intro ps pairs hg
 induction hg with
 |nil=>intro s Q hQ;unfold evalPairs;exact wpAny_pure (hQ [] s.toks .nil)
 |cons h _ ih=>
  intro s Q hQ
  unfold evalPairs
  refine wpAny_bind (h.1 _ _ _ _ _ fun t tk=>?_)
  refine wpAny_bind (wpAny_holding (h.2 _ _ _ _ _ fun u tk'=>?_))
  refine wpAny_bind (wpAny_holding (ih _ _ fun vs tk'' hv=>?_))
  exact wpAny_pure (hQ _ _ (.cons ⟨t,u,rfl⟩ hv))
noncomputable def SI(s:Shared)(ps todo:List (Int×Str))(s':Shared):Prop:=∃h' tk es done,s'={ s with heap:=h',toks:=tk }∧ps=done++todo∧IDict h' s.heap.objs.size es∧Paired bY done es.toList∧h'.objs.size=s.heap.objs.size+1∧∀b o,s.heap.get? b=some o→h'.get? b=some o
theorem SI.tok{ps todo:List (Int×Str)}{s':Shared}(I:SI s ps todo s')(tk:Nat):SI s ps todo { s' with toks:=tk }:=by
 obtain⟨h',t,es,done,rfl,r⟩:=I
 exact⟨h',tk,es,done,rfl,r⟩
theorem vX{ps done todo:List (Int×Str)}{p:Int×Str}(hnd:(ps.map Prod.fst).Nodup)(e:ps=done++p::todo):p.1∉done.map Prod.fst:=fun hm=>by
 rw[e,List.map_append,List.nodup_append]at hnd
 exact hnd.2.2 _ hm _ List.mem_cons_self rfl
theorem SI.turn{ps todo:List (Int×Str)}{p:Int×Str}{s':Shared}{t u:Tok}{Q:Unit→Shared→Prop}(hnd:(ps.map Prod.fst).Nodup)(hz:ps.length≤100000)(I:SI s ps (p::todo) s')(q:∀s'',SI s ps todo s''→Q () s''):
  wpAny (model prog w) A (dictSet s.heap.objs.size (.int p.1 t) (.str p.2 u)) Q E s':=by
 obtain⟨h',tk,es,done,rfl,hps,hI,hE,hs,hk⟩:=I
 have hz':done.length≤100000:=by
  rw[hps,List.length_append]at hz
  exact Nat.le_trans (Nat.le_add_right _ _) hz
 refine rV (s:={ s with heap:=h',toks:=tk }) hI hE (vX hnd hps) hz' fun h'' tk'' es' hI' hE' hsb=>q _ ⟨h'',tk'',es',_,rfl,?_,hI',hE',hsb.1.trans hs,fun b o hb=>(hsb.2 b (Nat.ne_of_lt (Heap.lt_size hb))).trans (hk b o hb)⟩
 rw[hps,List.append_assoc]
 rfl
noncomputable abbrev IsPair(p:Int×Str)(v:Value×Value):Prop:=∃t u,v=(.int p.1 t,.str p.2 u)
theorem iO{ps:List (Int×Str)}{pairs:List (Sem Value×Sem Value)}{Q:Addr→Shared→Prop}(hg:Paired Gives ps pairs)(hnd:(ps.map Prod.fst).Nodup)(hz:ps.length≤100000)
  (hQ:∀h' tk es,IDict h' s.heap.objs.size es→Paired bY ps es.toList→h'.objs.size=s.heap.objs.size+1→(∀b o,s.heap.get? b=some o→h'.get? b=some o)→Q s.heap.objs.size { s with heap:=h',toks:=tk }):
  wpAny (model prog w) A (subDict pairs) Q E s:=by
 unfold subDict
 refine wpAny_bind (wpAny_alloc ?_)
 refine wpAny_bind (wpAny_holding ?_)
 have I0:SI s ps ps { s with heap:=s.heap.push { cls:=.type "dict",data:=.dict #[] } }:=⟨_,s.toks,#[],[],rfl,rfl,⟨_,0,Heap.get?_push_size _ rfl,⟨rfl,rfl,rfl⟩,rfl⟩,.nil,Heap.size_push ..,fun b o hb=>Heap.get?_push_of_some _ hb⟩
 have fin:∀s',SI s ps [] s'→Q s.heap.objs.size s':=fun s' I=>by
  obtain⟨h',tk,es,done,rfl,hps,hI,hE,hs,hk⟩:=I
  rw[List.append_nil]at hps
  exact hQ h' tk es hI (hps▸hE) hs hk
 refine wpAny_ite ?_
 split
 ·refine wpAny_bind (oJ hg _ _ fun vs tk hv=>?_)
  refine wpAny_holding (wpAny_bind ?_)
  refine wpAny_forIn_list _ (fun rest _ s'=>∃todo,Paired IsPair todo rest∧SI s ps todo s') _ ?_ ?_ _ _ ⟨ps,hv,I0.tok tk⟩
  ·intro x rest b s' h
   obtain⟨todo,hr,I⟩:=h
   cases hr with
   |cons hx hr=>
    obtain⟨t,u,rfl⟩:=hx
    exact wpAny_bind (I.turn hnd hz fun s'' I'=>wpAny_pure ⟨_,hr,I'⟩)
  ·intro b s' h
   obtain⟨todo,hr,I⟩:=h
   cases hr
   exact wpAny_pure (wpAny_pure (fin s' I))
 ·refine wpAny_bind (wpAny_rule (wpAny_bind ?_))
  refine wpAny_forIn_list _ (fun rest _ s'=>∃todo,Paired Gives todo rest∧SI s ps todo s') _ ?_ ?_ _ _ ⟨ps,hg,I0⟩
  ·intro x rest b s' h
   obtain⟨todo,hr,I⟩:=h
   cases hr with
   |cons hx hr=>
    exact wpAny_bind (hx.1 _ _ _ _ _ fun t tk₁=>wpAny_bind (wpAny_holding (hx.2 _ _ _ _ _ fun u tk₂=>wpAny_bind (wpAny_holding ((I.tok tk₂).turn hnd hz fun s'' I'=>wpAny_pure ⟨_,hr,I'⟩)))))
  ·intro b s' h
   obtain⟨todo,hr,I⟩:=h
   cases hr
   exact wpAny_pure (wpAny_pure (fin s' I))
noncomputable def MI(d:Addr)(s:Shared)(n:Nat)(ps qs:List (Int×Str))(rest:List Nat)(s':Shared):Prop:=∃h' es' i,s'={ s with heap:=h' }∧i≤n∧rest=List.range' i (n - i)∧IDict h' d es'∧Paired bY (ps++qs.take i) es'.toList∧Heap.SameBut d s.heap h'
theorem zM{i n x:Nat}{rest:List Nat}(_:i≤n)(h:x::rest=List.range' i (n - i)):x=i∧i < n∧rest=List.range' (i+1) (n - (i+1)):=by
 rcases Nat.lt_or_ge i n with hlt | hge
 ·obtain⟨k,hk⟩:∃k,n - i=k+1:=Nat.exists_eq_succ_of_ne_zero (Nat.sub_ne_zero_of_lt hlt)
  rw[hk,List.range'_succ]at h
  obtain⟨h1,h2⟩:=List.cons.inj h
  exact⟨h1,hlt,by rw[h2,Nat.sub_add_eq,hk];rfl⟩
 ·rw[Nat.sub_eq_zero_of_le hge,List.range'_zero]at h;cases h
theorem MI.turn{d:Addr}{n:Nat}{ps qs:List (Int×Str)}{x:Nat}{rest:List Nat}{s':Shared}(hn:n=qs.length)(hnd:((ps++qs).map Prod.fst).Nodup)(hz:(ps++qs).length≤100000)(I:MI d s n ps qs (x::rest) s'):
  ∃h' es' q,s'={ s with heap:=h' }∧x < n∧qs[x]?=some q∧Heap.SameBut d s.heap h'∧IDict h' d es'∧Paired bY (ps++qs.take x) es'.toList∧q.1∉(ps++qs.take x).map Prod.fst∧(ps++qs.take x).length≤100000∧
   ∀h'' es'',IDict h'' d es''→Paired bY (ps++qs.take x++[q]) es''.toList→Heap.SameBut d h' h''→MI d s n ps qs rest { s with heap:=h'' }:=by
 obtain⟨h',es',i,rfl,hi,hr,hI,hE',hs⟩:=I
 obtain⟨rfl,hlt,hr'⟩:=zM hi hr
 have hlq:x < qs.length:=hn▸hlt
 have hq:qs[x]?=some qs[x]:=List.getElem?_eq_getElem hlq
 have e:ps++qs=(ps++qs.take x)++qs[x]::qs.drop (x+1):=by rw[List.append_assoc,← List.drop_eq_getElem_cons hlq,List.take_append_drop]
 refine⟨h',es',qs[x],rfl,hlt,hq,hs,hI,hE',vX hnd e,?_,fun h'' es'' hI' hE'' hs''=>⟨h'',es'',x+1,rfl,hlt,hr',hI',?_,hs.trans hs''⟩⟩
 ·rw[List.length_append]at hz ⊢
  exact Nat.le_trans (Nat.add_le_add_left (List.length_take_le' ..) _) hz
 ·rw[show qs.take (x+1)=qs.take x++[qs[x]] by rw[List.take_add_one,hq];rfl,← List.append_assoc]
  exact hE''
theorem MI.fin{d:Addr}{n:Nat}{ps qs:List (Int×Str)}{s':Shared}(hn:n=qs.length)(I:MI d s n ps qs [] s'):∃h' es',s'={ s with heap:=h' }∧IDict h' d es'∧Paired bY (ps++qs) es'.toList∧Heap.SameBut d s.heap h':=by
 obtain⟨h',es',i,rfl,hi,hr,hI,hE',hs⟩:=I
 have h0:n - i=0:=by
  have:=congrArg List.length hr
  rw[List.length_range']at this
  exact this.symm
 have e:i=qs.length:=hn▸Nat.le_antisymm hi (Nat.le_of_sub_eq_zero h0)
 rw[e,List.take_length]at hE'
 exact⟨h',es',rfl,hI,hE',hs⟩
theorem xN{d a:Addr}{es fs:Array DictEntry}{ps qs:List (Int×Str)}{Q:Unit→Shared→Prop}(hd:IDict s.heap d es)(ha:IDict s.heap a fs)(hda:d≠a)(hsa:(a==sysModules)=false)(hE:Paired bY ps es.toList)(hF:Paired bY qs fs.toList)
  (hnd:((ps++qs).map Prod.fst).Nodup) (hz:(ps++qs).length≤100000) (hps:ps≠[])
  (hQ:∀h' es',IDict h' d es'→Paired bY (ps++qs) es'.toList→Heap.SameBut d s.heap h'→Q () { s with heap:=h' }):
  wpAny (model prog w) A (mergeMapping d (.ref a) false) Q E s:=by
 have typ:s.TypeIs (.ref a) "dict":=let ⟨o,_,ho,hc,_⟩:=ha;⟨o,ho,hc.1⟩
 have hne:es.isEmpty=false:=by
  cases h:es.isEmpty with
  |false=>rfl
  |true=>
   rw[Array.isEmpty_iff.mp h]at hE
   cases hE
   exact absurd rfl hps
 have hlen:fs.size=qs.length:=by rw[← Array.length_toList,hF.length]
 have M0:MI d s fs.size ps qs (List.range fs.size) s:=⟨s.heap,es,0,rfl,Nat.zero_le _,by rw[List.range_eq_range',Nat.sub_zero],hd,by rw[List.take_zero,List.append_nil];exact hE,Heap.SameBut.refl _ _⟩
 obtain⟨od,epd,hod,hcd,hdd⟩:=hd
 obtain⟨oa,epa,hoa,hca,hda'⟩:=ha
 unfold mergeMapping
 refine wpAny_bind (wpAny_isInstance typ F.sub_dict_dict ?_)
 refine if_t rfl ?_
 refine wpAny_bind (wpAny_specialOf typ F.slot_dict_iter.lookup (wpAny_bind (wpAny_pure ?_)))
 rw[beq_self_eq_true]
 dsimp only
 refine if_f (by rw[hsa];exact Bool.false_ne_true) ?_
 refine wpAny_bind (wpAny_dictEntries hod hdd ?_)
 refine if_f (by rw[hne];exact Bool.false_ne_true) ?_
 refine wpAny_bind (wpAny_dictEntries hoa hda' ?_)
 refine wpAny_bind (wpAny_dictEpoch hoa hda' (wpAny_bind ?_))
 refine wpAny_forIn_list _ (fun rest _ s'=>MI d s fs.size ps qs rest s') _ ?_ ?_ _ _ M0
 ·intro x rest b s' I
  obtain⟨h',es',q,rfl,hlt,hq,hs,hI,hE',hfr,hz',k⟩:=I.turn hlen hnd hz
  have hoa':h'.get? a=some oa:=(hs.2 a (Ne.symm hda)).trans hoa
  have hx:x < fs.toList.length:=by rw[Array.length_toList];exact hlt
  obtain⟨q',hq',t,u,he⟩:=Paired.at hF x hx
  obtain rfl:=Option.some.inj (hq.symm.trans hq')
  have hge:fs[x]?=some ⟨hashInt q.1,.int q.1 t,.str q.2 u⟩:=by rw[← he,← Array.getElem?_toList];exact List.getElem?_eq_getElem hx
  refine wpAny_bind (wpAny_dictEntries (s:={ s with heap:=h' }) hoa' hda' ?_)
  rw[hge]
  dsimp only
  refine wpAny_bind (wpAny_holding ?_)
  refine if_f Bool.false_ne_true ?_
  unfold dictPut
  refine wpAny_bind (gS (s:={ s with heap:=h' }) hI hE' hfr ?_)
  refine yW (s:={ s with heap:=h' }) (p:=q) hI hE' hz' fun h'' hI' hE'' hs''=>?_
  refine wpAny_bind (wpAny_dictEpoch (s:={ s with heap:=h'' }) ((hs''.2 a (Ne.symm hda)).trans hoa') hda' ?_)
  rw[if_neg (by simp -iota)]
  exact wpAny_pure (k h'' _ hI' hE'' hs'')
 ·intro b s' I
  obtain⟨h',es',rfl,hI,hE',hs⟩:=I.fin hlen
  exact wpAny_pure (hQ h' es' hI hE' hs)
end
structure MSt (n₀:Nat) (h₀:Heap) (c:Nat) (main:Option Addr) (done:List (Int×Str)) (h:Heap):Prop where
 size:h.objs.size=n₀+c
 keep:∀b o,h₀.get? b=some o→h.get? b=some o
 none:main=none→done=[]∧c=0
 some:∀d,main=some d→done≠[]∧n₀=d∧∃es,IDict h d es∧Paired bY done es.toList
noncomputable def uR(run:List (Sem Value×Sem Value))(main:Option Addr):Sem (Option Addr):=if run.isEmpty=true then pure main else match main with
   |none=>do
    let a ← subDict run
    pure (some a)
   |some d=>do
    let sub ← holding [Value.ref d] (subDict run)
    (holding [Value.ref d,Value.ref sub] (mergeMapping d (Value.ref sub) false)).onRaise fun x=>do
     let _ ← holding [Value.ref d,x] (runValue (Code.builtin "proto.let_go" { }))
     pure ()
    pure (some d)
section
variable {prog:Program}{w:World}{A:Around}{E:Value→Shared→Prop}{s:Shared}
theorem nY{n₀ c:Nat}{h₀:Heap}{main:Option Addr}{done cur:List (Int×Str)}{run:List (Sem Value×Sem Value)}{Q:Option Addr→Shared→Prop}(hM:MSt n₀ h₀ c main done s.heap)(hn:h₀.objs.size=n₀)(hg:Paired Gives cur run)(hnd:((done++cur).map Prod.fst).Nodup)(hz:(done++cur).length≤100000)
  (hr:run≠[]) (h1:sysModules < n₀) (hQ:∀d h' tk,MSt n₀ h₀ (c+1) (some d) (done++cur) h'→Q (some d) { s with heap:=h',toks:=tk }):
  wpAny (model prog w) A (uR run main) Q E s:=by
 have hcur:cur≠[]:=by rintro rfl;cases hg;exact hr rfl
 unfold uR
 rw[if_neg (by cases run with | nil=>exact absurd rfl hr | cons=>exact Bool.false_ne_true)]
 have hl:(done++cur).length=done.length+cur.length:=List.length_append
 have hndc:(cur.map Prod.fst).Nodup:=by rw[List.map_append,List.nodup_append]at hnd;exact hnd.2.1
 cases main with
 |none=>
  obtain⟨hd,hc⟩:=hM.none rfl
  subst hd
  subst hc
  refine wpAny_bind (iO hg hndc (by simpa using hz) fun h' tk es hI hE hs hk=>wpAny_pure (hQ _ h' tk ⟨by rw[hs,hM.size],fun b o e=>hk b o (hM.keep b o e),(fun e=>nomatch e),(fun d e=>?_)⟩))
  cases e
  exact⟨by simpa using hcur,by rw[hM.size];rfl,es,hI,by simpa using hE⟩
 |some d=>
  obtain⟨hdn,hnd',es,hI,hE⟩:=hM.some d rfl
  refine wpAny_bind (wpAny_holding (iO hg hndc (by lia) fun h' tk fs hI' hE' hs hk=>?_))
  have hdlt:d < s.heap.objs.size:=let ⟨_,_,e,_⟩:=hI;Heap.lt_size e
  refine wpAny_bind (wpAny_onRaise (wpAny_holding (xN (s:={ s with heap:=h',toks:=tk }) (hI.keep (hk d)) hI' (Nat.ne_of_lt hdlt) ?_ hE hE' hnd hz hdn fun h'' es' hI'' hE'' hsb=>?_)))
  ·exact beq_eq_false_iff_ne.mpr (Nat.ne_of_gt (Nat.lt_of_lt_of_le h1 (by rw[hM.size];exact Nat.le_add_right _ _)))
  ·refine wpAny_pure (hQ d h'' tk ⟨by rw[hsb.1];show h'.objs.size=_;rw[hs,hM.size];lia,fun b o e=>(hsb.2 b (Nat.ne_of_lt ?_)).trans (hk b o (hM.keep b o e)),(fun e=>nomatch e),(fun d' e=>?_)⟩)
   ·have:=Heap.lt_size e
    rw[hn]at this
    exact hnd'▸this
   ·cases e
    exact⟨by simp[hdn],hnd',es',hI'',hE''⟩
structure DI (s:Shared) (ps done cur todo:List (Int×Str)) (c:Nat) (main:Option Addr) (run:List (Sem Value×Sem Value)) (h':Heap):Prop where
 app:ps=done++cur++todo
 curG:Paired Gives cur run
 lt:cur.length < 17
 len:done.length=17 * c
 st:MSt s.heap.objs.size s.heap c main done h'
noncomputable def DInv(s:Shared)(ps:List (Int×Str))(rest:List (Option (Sem Value)×Sem Value))(b:Option Addr×List (Sem Value×Sem Value))(s':Shared):Prop:=
 ∃h' tk c done cur todo pr,s'={ s with heap:=h',toks:=tk }∧rest=List.map (fun (x:Sem Value×Sem Value)=>(some x.1,x.2)) pr∧Paired Gives todo pr∧DI s ps done cur todo c b.1 b.2 h'
theorem DI.step{ps done cur todo:List (Int×Str)}{p:Int×Str}{pp:Sem Value×Sem Value}{c:Nat}{main:Option Addr}{run:List (Sem Value×Sem Value)}{h':Heap}(D:DI s ps done cur (p::todo) c main run h')(hp:Gives p pp)(hnd:(ps.map Prod.fst).Nodup)(hz:ps.length≤100000):
  Paired Gives (cur++[p]) (run++[(pp.1,pp.2)])∧((done++(cur++[p])).map Prod.fst).Nodup∧(done++(cur++[p])).length≤100000∧(run++[(pp.1,pp.2)]).length=cur.length+1∧
  (cur.length+1=17→∀d h'',MSt s.heap.objs.size s.heap (c+1) (some d) (done++(cur++[p])) h''→DI s ps (done++(cur++[p])) [] todo (c+1) (some d) [] h'')∧
  (cur.length+1≠17→DI s ps done (cur++[p]) todo c main (run++[(pp.1,pp.2)]) h'):=by
 have hps':ps=done++(cur++[p])++todo:=by rw[D.app];simp
 have hg:Paired Gives (cur++[p]) (run++[(pp.1,pp.2)]):=Paired.app D.curG (.cons hp .nil)
 have hl:(cur++[p]).length=cur.length+1:=List.length_append
 refine⟨hg,?_,?_,hg.length.symm.trans hl,fun e d h'' M=>⟨by rw[List.append_nil];exact hps',.nil,by decide,?_,M⟩,fun e=>⟨hps',hg,?_,D.len,D.st⟩⟩
 ·rw[hps',List.map_append,List.nodup_append]at hnd
  exact hnd.1
 ·rw[hps',List.length_append]at hz
  exact Nat.le_trans (Nat.le_add_right _ _) hz
 ·rw[List.length_append,hl,D.len,e]
  exact (Nat.mul_succ 17 c).symm
 ·rw[hl]
  exact Nat.lt_of_le_of_ne (Nat.succ_le_of_lt D.lt) e
theorem rU{ps:List (Int×Str)}{pairs:List (Sem Value×Sem Value)}{Q:Value→Shared→Prop}(hg:Paired Gives ps pairs)(hnd:(ps.map Prod.fst).Nodup)(hz:ps.length≤100000)(hne:ps≠[])(h1:sysModules < s.heap.objs.size)
  (hQ:∀d h' tk es,IDict h' d es→Paired bY ps es.toList→h'.objs.size=s.heap.objs.size+(ps.length+16) / 17→s.heap.objs.size=d→(∀b o,s.heap.get? b=some o→h'.get? b=some o)→Q (.ref d) { s with heap:=h',toks:=tk }):
  wpAny (model prog w) A (dictDisplay (pairs.map fun x=>(some x.1,x.2))) Q E s:=by
 unfold dictDisplay
 extract_lets flush main run
 refine wpAny_bind ?_
 refine wpAny_forIn_list _ (fun rest b s'=>DInv s ps rest b s') _ ?_ ?_ _ _ ⟨s.heap,s.toks,0,[],[],ps,pairs,rfl,rfl,hg,rfl,.nil,by decide,rfl,⟨rfl,fun _ _ e=>e,(fun _=>⟨rfl,rfl⟩),(fun d e=>nomatch e)⟩⟩
 ·intro x rest b s' I
  obtain⟨h',tk,c,done,cur,todo,pr,rfl,hrest,hgt,D⟩:=I
  cases hgt with
  |nil=>cases hrest
  |@cons p pp todo' pr' hp hgt=>
   obtain⟨hx,hrest2⟩:=List.cons.inj hrest
   subst hx
   dsimp only
   obtain⟨hgc',hnd',hz',hlen,k1,k2⟩:=D.step hp hnd hz
   split
   ·rename_i h17
    refine wpAny_bind ((nY (s:={ s with heap:=h',toks:=tk }) (main:=b.1) D.st rfl hgc' hnd' hz' (by simp) h1 fun d h'' tk' hM'=>?_:wpAny _ _ (uR _ _) _ _ _))
    exact wpAny_pure ⟨h'',tk',c+1,_,[],todo',pr',rfl,hrest2,hgt,k1 (hlen▸eq_of_beq h17) d h'' hM'⟩
   ·rename_i h17
    exact wpAny_pure ⟨h',tk,c,done,_,todo',pr',rfl,hrest2,hgt,k2 fun e=>h17 (by rw[hlen,e];rfl)⟩
 ·intro b s' I
  obtain⟨h',tk,c,done,cur,todo,pr,rfl,hrest,hgt,D⟩:=I
  have hpr:pr=[]:=by cases pr with | nil=>rfl | cons=>cases hrest
  subst hpr
  cases hgt
  have hps:ps=done++cur:=D.app.trans (List.append_nil _)
  have hpl:ps.length=17 * c+cur.length:=by rw[hps,List.length_append,D.len]
  have hM:=D.st
  dsimp only
  by_cases hb:b.2=[]
  ·have hc0:cur=[]:=List.length_eq_zero_iff.mp (D.curG.length.trans (by rw[hb];rfl))
   rw[hc0,List.append_nil]at hps
   rw[hc0]at hpl
   refine wpAny_bind ?_
   show wpAny _ _ (flush b.2 b.1) _ _ _
   rw[hb]
   refine wpAny_pure ?_
   cases hm:b.1 with
   |none=>exact absurd (hps.trans (hM.none hm).1) hne
   |some d=>
    obtain⟨_,hd,es,hI,hE⟩:=hM.some d hm
    exact wpAny_pure (hQ d h' tk es hI (hps▸hE) (by rw[hM.size,hpl];show _=_+(17 * c+0+16) / 17;lia) hd hM.keep)
  ·have hcp:0 < cur.length:=by
    rw[D.curG.length]
    exact List.length_pos_iff.mpr hb
   have hlt:=D.lt
   refine wpAny_bind ((nY (s:={ s with heap:=h',toks:=tk }) (main:=b.1) hM rfl D.curG (by rw[← hps];exact hnd) (by rw[← hps];exact hz) hb h1 fun d h'' tk' hM'=>?_:wpAny _ _ (uR _ _) _ _ _))
   obtain⟨_,hd,es,hI,hE⟩:=hM'.some d rfl
   exact wpAny_pure (hQ d h'' tk' es hI (hps▸hE) (by rw[hM'.size,hpl];lia) hd hM'.keep)
end
noncomputable def Γq:Ctx:=⟨.builtin "claim.caller" {},none,none,[],none⟩
theorem gG{C:Prop}{a b:Shared}{t:Thread}{o:Outcome}(h:Step.go a t=.halt o b):C:=nomatch h
theorem fU{C:Prop}{a b:Shared}{m:String}{f:Flow}(h:Step.halt (.stuck m) a=.halt (.done f) b):C:=nomatch h
theorem tX{C:Prop}{a b:Shared}{m:String}{f:Flow}(h:Step.halt (.unsupported m) a=.halt (.done f) b):C:=nomatch h
theorem uP{den:Code→Sem Fin}{p:Program}{w:World}{heap:Heap}{gens drawn}{toks:Nat}{os:OsState}{s':Shared}{cur:Sem Fin}{code:Code}{pos:Pos}{stack:List Frame}{f:Flow}
  (h:step den p w ⟨heap,gens,drawn,toks,os⟩ ⟨cur,code,pos,stack⟩=.halt (.done f) s'):through ⟨cur,code,pos,stack⟩=true:=by
 cases cur with
 |pure fin=>cases fin with
  |done g=>cases stack with
   |nil=>rfl
   |cons fr r=>cases fr<;>exact gG h
  |again c=>exact gG h
 |raise e=>cases stack with
  |nil=>
   delta step finish at h
   dsimp only at h
   split at h<;>cases h
  |cons fr r=>cases fr<;>exact gG h
 |finish e=>
  delta step at h
  dsimp only at h
  split at h<;>cases h
 |load a q k=>
  delta step at h
  dsimp only at h
  generalize heap.get? a=o at h
  cases o with
  |none=>exact fU h
  |some x=>exact gG h
 |update a q g k=>
  delta step at h
  dsimp only at h
  split at h
  ·exact gG h
  ·exact fU h
 |choose src n k=>
  delta step at h
  dsimp only at h
  split at h
  ·exact fU h
  ·exact gG h
 |genState g k=>
  delta step at h
  dsimp only at h
  generalize gens[g]?=o at h
  cases o with
  |none=>exact fU h
  |some x=>exact gG h
 |resume g r l k=>
  delta step at h
  dsimp only at h
  generalize gens[g]?=o at h
  cases o with
  |none=>exact fU h
  |some x=>cases x with
   |fresh c=>cases r with
    |send v=>cases v<;>exact gG h
    |throw e=>exact gG h
   |_=>exact gG h
 | «yield» v g0 l kk=>
  delta step at h
  dsimp only at h
  generalize splitAtGen stack=o at h
  cases o with
  |none=>exact fU h
  |some x=>exact gG h
 |unsupported m=>exact tX h
 |register _ _=>exact tX h
 |fork _ _=>exact tX h
 |await _ _ _ _ _=>exact tX h
 |_=>exact gG h
theorem hM0{den:Code→Sem Fin}{p:Program}{w:World}{s s':Shared}{t:Thread}{f:Flow}(h:step den p w s t=.halt (.done f) s'):through t=true∧s'=s:=
 ⟨uP h,step_halt_same _ _ _ _ _ _ _ h⟩
theorem pF{den:Code→Sem Fin}{p:Program}{w:World}{f:Flow}:∀(n:Nat) (s s':Shared) (t:Thread),PySem.runN den p w n s t=.halted (.done f) s'→
  (∀k s₁ t₁,PySem.runN den p w k s t=.running s₁ t₁→t₁.calm=true)→s.asleep→
  ∃k t₁,schedN den p w k (.single s t)=.running (.single s' t₁)∧through t₁=true∧s'.heap.life=s.heap.life
 |0,_,_,_,h,_,_=>by simp -iota [PySem.runN]at h
 |n+1,s,s',t,h,hc,hz=>by
  have h0:=hc 0 s t rfl
  unfold PySem.runN at h
  cases hs:step den p w s t with
  |halt o s₁=>
   rw[hs]at h
   cases h
   obtain⟨a,rfl⟩:=hM0 hs
   exact⟨0,t,rfl,a,rfl⟩
  |go s₁ t₁=>
   rw[hs]at h
   have hl:=step_life den p w s s₁ t t₁ hs
   obtain⟨k,t₂,a,b,c⟩:=pF n s₁ s' t₁ h (fun k s₂ t₂ hk=>hc (k+1) s₂ t₂ (by unfold PySem.runN;rw[hs];exact hk)) (Shared.asleep_of_life hl hz)
   refine⟨k+1,t₂,?_,b,c.trans hl⟩
   have e:sstep den p w (.single s t)=.go (.single s₁ t₁):=by
    rcases sstep_single den p w s t h0 hz with e | e
    ·rw[e,hs];rfl
    ·rw[hs]at e;cases e
   simp -iota only[schedN,e]
   exact a
theorem fY0{p:Program}{w:World}{s:Shared}{t:Sem Fin}{R:Shared→Prop}(hz:s.asleep)
  (h:Sem.wp (model p w) Γq t (fun fin _ s'=>fin=.done (.ret .none)∧s'.gens=#[]∧R s') (fun _ _ _=>False) default s):
  ∃s',R s'∧s'.gens=#[]∧s'.heap.life=s.heap.life∧∃n t₁,schedN (denote table) p w n (.single s ⟨t,.builtin "claim.caller" {},default,[]⟩)=.running (.single s' t₁)∧through t₁=true:=by
 have h':=(wp_iff_halts (M:=model p w) (c:=.builtin "claim.caller" {}) t (fun r s'=>r=.ok (.ret .none)∧s'.gens=#[]∧R s') default s).mp (Sem.wp_mono _ _ _ (fun fin _ s' h=>by
  obtain⟨rfl,h2,h3⟩:=h
  exact⟨⟨rfl,h2,h3⟩,by rw[h2];simp -iota [leftWithCleanup]⟩) (fun _ _ _ (q:False)=>q.elim) _ _ h)
 obtain⟨n,r,s',hn,rfl,hg,hR⟩:=h'
 obtain⟨m,s'',hm,hf,hc⟩:=(halts_real_iff (M:=model p w) s'.forget).mpr ⟨n,s',hn,rfl⟩
 have e:s''=s':=Shared.eq_of_forget_eq hf hg
 subst e
 obtain⟨k,t₁,a,b,c⟩:=pF m s s'' _ hm hc hz
 exact⟨s'',hR,hg,c,k,t₁,a,b⟩
theorem xH{p:Program}(e:opening p=plainProg p.main.scope.names)(f:∀s,fenceModules? p s=some s)(w:World):
  (∃s,AfterRun (opening p) w s)∧∀s,AfterRun (opening p) w s→fenceModules? p s=some s∧s.asleep∧∃os,s=⟨boot_heap w.params,#[],boot_drawn,boot_toks,os⟩:=by
 have h:=boot_open (N:=600) e rfl f w
 obtain⟨⟨hp,gs,d,k,os⟩,h1,h2⟩:=Option.map_eq_some_iff.mp h
 obtain⟨s,h4,h5⟩:=Option.bind_eq_some_iff.mp h1
 rw[f s]at h5
 cases h5
 have h4':importEnds table (opening p) w 600 (start (opening p)).1 (start (opening p)).2=some ⟨hp,gs,d,k,os⟩:=by rw[table_eq_tree];exact h4
 have A:=AfterImport.of_importEnds h4'
 refine⟨⟨_,A⟩,fun s' hs'=>?_⟩
 obtain rfl:s'=_:=AfterImport.unique hs' A
 refine⟨f _,A.life,os,?_⟩
 obtain⟨rfl,rfl,rfl,rfl⟩:hp=boot_heap w.params∧gs=#[]∧d=boot_drawn∧k=boot_toks:=by simpa using h2
 rfl
noncomputable def yD:List Nat:=[0,1,2,4,5,6,7,8,9,10]
noncomputable def sA(P:Params):List (Option Obj):=[some (boot_o_0 P),some (boot_o_1 P),some (boot_o_2 P),some (boot_o_4 P),some (boot_o_5 P),some (boot_o_6 P),some (boot_o_7 P),some (boot_o_8 P),some (boot_o_9 P),some (boot_o_10 P)]
theorem wI{α β:Type}(f:α→β){a:α}:∀{l:List α},a∈l→(a,f a)∈l.zip (l.map f)
 |_::_,h=>(List.mem_cons.mp h).elim (fun e=>e▸List.mem_cons_self) fun h=>List.mem_cons_of_mem _ (wI f h)
theorem boot_get(P:Params)(b:Nat)(o:Obj)(h:(boot_heap P).get? b=some o):b=3∨(b,some o)∈yD.zip (sA P):=by
 have hb:=Heap.lt_size h
 have hs:(boot_heap P).objs.size=11:=by kernel_rfl!
 have e:yD.map (boot_heap P).get?=sA P:=by kernel_rfl!
 have hm:∀b < 11,b=3∨b∈yD:=by decide
 rw[← e,← h]
 exact (hm b (hs▸hb)).imp id fun h=>wI _ h
noncomputable def mQ{β:Type}(d:Data)(b:β)(f:Array DictEntry→β):β:=match d with
 |.dict es _=>f es
 |_=>b
theorem qM{d:Data}{f:Array DictEntry→Bool}(h:mQ d false f=true):∃es ep,d=.dict es ep∧f es=true:=by
 cases d with
 |dict es ep=>exact⟨es,ep,rfl,h⟩
 |_=>exact Bool.noConfusion h
noncomputable def qQ{β:Type}(v:Value)(f:Str→Option β):Option β:=match v with
 |.str x _=>f x
 |_=>none
theorem fK{β:Type}{r:β}{v:Value}{f:Str→Option β}(h:qQ v f=some r):∃x t,v=.str x t∧f x=some r:=by
 cases v with
 |str x t=>exact⟨x,t,rfl,h⟩
 |_=>exact nos h
noncomputable def strB(v:Value)(f:Str→Bool):Bool:=fX (qQ v some) false f
theorem vO{v:Value}{f:Str→Bool}(h:strB v f=true):∃x t,v=.str x t∧f x=true:=by
 obtain⟨x,e,h⟩:=jG h
 obtain⟨y,t,e,e'⟩:=fK e
 exact⟨y,t,e,(Option.some.inj e').symm▸h⟩
noncomputable def cH0(p:Program)(o:Option Obj):Bool:=fX o false fun ob=>mQ ob.data false fun es=>es.toList.all fun e=>strB e.key fun x=>startupNames.contains x || p.boundNames.contains x
noncomputable def glob(o:Option Obj)(x:Str):Option Value:=fX o none fun ob=>mQ ob.data none fun es=>(es.find? (·.key.isStr x)).map (·.val)
theorem cJ(h:Heap)(x:Str):globalOf h x=glob (h.get? 3) x:=by
 show _=fX (h.get? 3) none _
 unfold globalOf mainNs
 cases h.get? 3 with
 |none=>rfl
 |some ob=>rfl
noncomputable def wW(P:Params)(x:Str):Option Value:=glob (some (boot_o_3 P)) x
structure TopLook (p:Program) (P:Params) (h:Heap):Prop where
 old:yD.map h.get?=sA P
 names:cH0 p (h.get? 3)=true
 laid:laidNames.map (glob (h.get? 3))=laidNames.map (wW P)
 blt:glob (h.get? 3) "__builtins__"=some (.ref 4)
theorem bW0{α β:Type}{f:α→β}{l:List α}{m:List β}(h:l.map f=m)(i:Nat)(a:α)(ha:l[i]?=some a):m[i]?=some (f a):=by
 rw[← h,List.getElem?_map,ha];rfl
theorem vW{p:Program}{w:World}{os:OsState}{s₁:Shared}(T:TopLook p w.params s₁.heap)
  (hr:∃n t,schedN (denote table) p w n (.single ⟨boot_heap w.params,#[],boot_drawn,boot_toks,os⟩ (topStub p))=.running (.single s₁ t)∧through t=true)
  (hl:s₁.heap.life=(boot_heap w.params).life) (ho:s₁.os=os) (hg:s₁.gens=#[]):TopRan p w ⟨boot_heap w.params,#[],boot_drawn,boot_toks,os⟩ s₁:=by
 have g0:s₁.heap.get? 0=some (boot_o_0 w.params):=by have:=bW0 T.old 0 0 rfl;exact (Option.some.inj this).symm
 have g2:s₁.heap.get? 2=some (boot_o_2 w.params):=by have:=bW0 T.old 2 2 rfl;exact (Option.some.inj this).symm
 have g4:s₁.heap.get? 4=some (boot_o_4 w.params):=by have:=bW0 T.old 3 4 rfl;exact (Option.some.inj this).symm
 have st:∀k,staticOf s₁.heap k=none:=fun k=>by
  unfold staticOf
  rw[show cStatics=2 from rfl,g2]
  rfl
 have st0:∀k,staticOf (boot_heap w.params) k=none:=fun k=>by
  have:(boot_heap w.params).get? 2=some (boot_o_2 w.params):=by kernel_rfl!
  unfold staticOf
  rw[show cStatics=2 from rfl,this]
  rfl
 refine⟨hr,hl,Shared.rest_eq ho,fun b o hb hn=>?_,?_,?_,?_,?_,?_,?_,?_,?_⟩
 ·rcases boot_get _ _ _ hb with rfl | hm
  ·exact absurd (.inl rfl) hn
  ·rw[← T.old]at hm
   obtain⟨i,hi,e⟩:=List.getElem_of_mem hm
   simp only[List.getElem_zip,List.getElem_map,Prod.mk.injEq]at e
   obtain⟨rfl,e⟩:=e
   exact e
 ·intro key v hv
  rw[st]at hv;cases hv
 ·intro key
  left;rw[st];exact (st0 key).symm
 ·obtain⟨ob,hob,hn⟩:=jG T.names
  obtain⟨es,ep,hd,hn⟩:=qM hn
  exact⟨ob,es,ep,hob,hd,fun e he=>(vO (List.all_eq_true.mp hn e (Array.mem_toList_iff.mpr he))).imp fun x h=>h.imp fun t h=>h.1⟩
 ·intro x hx
  have ns:s₁.heap.isNs builtinsNs=true:=by
   unfold Heap.isNs
   rw[show builtinsNs=0 from rfl,g0]
   kernel_rfl!
  have ev:s₁.heap.bltView=bltViewBooted:=by
   unfold Heap.bltView Heap.nsPairs
   rw[show builtinsNs=0 from rfl,g0]
   kernel_rfl!
  exact (Pin.builtinOf_eq ns x).trans (Heap.of_bltView ns ev x hx)
 ·exact⟨4,_,(cJ _ _).trans T.blt,g4,rfl,rfl⟩
 ·rw[hg];intro g hm;simp at hm
 ·intro x v hv
  rw[cJ]at hv
  obtain⟨ob,hob,hn⟩:=jG T.names
  obtain⟨es,ep,hd,hn⟩:=qM hn
  rw[hob]at hv
  have hv:mQ ob.data none (fun es=>(es.find? (·.key.isStr x)).map (·.val))=some v:=hv
  rw[hd]at hv
  obtain⟨e,he,_⟩:=Option.map_eq_some_iff.mp (show (es.find? (·.key.isStr x)).map (·.val)=some v from hv)
  have h1:=Array.find?_some he
  obtain⟨y,t,hk,h2⟩:=vO (List.all_eq_true.mp hn e (Array.mem_toList_iff.mpr (Array.mem_of_find?_eq_some he)))
  rw[hk]at h1
  have:y=x:=by simpa [Value.isStr]using h1
  subst this
  simpa only[Bool.or_eq_true,List.contains_iff_mem]using h2
 ·intro x hx
  rw[cJ,cJ]
  have e3:(boot_heap w.params).get? 3=some (boot_o_3 w.params):=by kernel_rfl!
  show _=glob ((boot_heap w.params).get? 3) x
  rw[e3]
  obtain⟨i,hi,rfl⟩:=List.getElem_of_mem hx
  have:=congrArg (fun l=>l[i]?) T.laid
  simp only[List.getElem?_map,List.getElem?_eq_getElem hi,Option.map_some,Option.some.injEq]at this
  exact this
set_option maxHeartbeats 0
noncomputable def twD:Code→Sem Fin:=PySem.W.Fast.tw11892475500146522536 PySem.W.Fast.tw14364793385576792824
theorem twD_eq:twD=denote table:=by
 unfold twD
 rw[← PySem.W.Fast.te11892475500146522536,← PySem.W.Fast.te14364793385576792824,table_eq_tree]
noncomputable def KS0(P:Params):KS:=⟨[(3,boot_o_3 P),(0,boot_o_0 P),(1,boot_o_1 P),(2,boot_o_2 P),(4,boot_o_4 P),(5,boot_o_5 P),(6,boot_o_6 P),(7,boot_o_7 P),(8,boot_o_8 P),(9,boot_o_9 P),(10,boot_o_10 P)],11,boot_toks⟩
theorem yA{P:Nat→Obj→Prop}:∀{l:List (Nat×Obj)} {a:Nat} {o:Obj},(∀x∈l,P x.1 x.2)→kget l a=some o→P a o
 |[],_,_,_,h=>nos h
 |x::l,a,o,H,h=>by
  rw[bV]at h
  by_cases e:x.1=a
  ·rw[if_pos e]at h
   obtain rfl:=Option.some.inj h
   exact e▸H x List.mem_cons_self
  ·rw[if_neg e]at h
   exact yA (fun y hy=>H y (List.mem_cons_of_mem _ hy)) h
theorem KS0_ok(P:Params)(os:OsState):KOk (KS0 P) ⟨boot_heap P,#[],boot_drawn,boot_toks,os⟩:=by
 have e:(KS0 P).kn.map (fun x=>(boot_heap P).get? x.1)=(KS0 P).kn.map fun x=>some x.2:=by kernel_rfl!
 exact⟨by kernel_rfl!,rfl,fun a o h=>yA (P:=fun a o=>(boot_heap P).get? a=some o) (List.map_inj_left.mp e) h⟩
noncomputable def okB{α:Type}(f:α→Bool)(x:Option (Except Value α×Pos×KS)):Bool:=match x with
 |some (r,_,_)=>match r with
  |.ok a=>f a
  |.error _=>false
 |none=>false
noncomputable def kOf{α:Type}(x:Option (Except Value α×Pos×KS)):KS:=match x with
 |some (_,_,K)=>K
 |none=>⟨[],0,0⟩
theorem iW0{α:Type}{f:α→Bool}{x:Option (Except Value α×Pos×KS)}(h:okB f x=true):∃a p',x=some (.ok a,p',kOf x)∧f a=true:=by
 cases x with
 |none=>cases h
 |some y=>
  obtain⟨r,p',K⟩:=y
  cases r with
  |error _=>cases h
  |ok a=>exact⟨a,p',rfl,h⟩
noncomputable def jI(f:Flow):Bool:=match f with
 |.next=>true
 |_=>false
section
variable (p:Program)(w:World)
noncomputable def tyA(c:Value×Addr):Bool:=match c with
 |(v,a)=>match v with
  |.ref c=>Nat.beq c 13&&Nat.beq a 14
  |_=>false
noncomputable def treeA:Sem (Value×Addr):=PySem.W.Fast.tw17154629097778926822 p.main p.main.file none >>= fun code=>PySem.W.Fast.tw12822647523644345616 code mainNs mainNs builtinsNs >>= fun frame=>pure (code,frame)
noncomputable def envT:Env:={ scope:=p.main.scope,locals:=mainNs,globals:=mainNs,cells:=[],code:=.ref 13,frame:=some 14 }
noncomputable def runA:=bs twD p w.params 100000 (Value×Addr) Γq default (KS0 w.params) (treeA p)
noncomputable def kA:KS:=kOf (runA p w)
noncomputable def Γb(B:List Stmt)(p1:Pos):Ctx:=Γq.enter (.body B (envT p)) none p1
noncomputable def iP0(B G1:List Stmt):Sem Flow:=PySem.W.Fast.tw1066825118222455980 B (envT p) >>= fun _=>PySem.W.Fast.tw12563942051412417395 G1 (envT p)
noncomputable def runB(B G1:List Stmt)(p1:Pos):=bs twD p w.params 100000 Flow (Γb p B p1) p1 (kA p w) (iP0 p B G1)
noncomputable def kB(B G1:List Stmt)(p1:Pos):KS:=kOf (runB p w B G1 p1)
noncomputable def treeC(x:Str)(px:Pos)(d:Addr)(G2:List Stmt):Sem Flow:=standAt px >>= fun _=>bindName (envT p) x (.ref d) >>= fun _=>PySem.W.Fast.tw12563942051412417395 G2 (envT p)
noncomputable def runC(B G1:List Stmt)(x:Str)(px:Pos)(G2:List Stmt)(c:Nat)(p1 q:Pos)(tk:Nat):=
 bs twD p w.params 100000 Flow (Γb p B p1) q ⟨(kB p w B G1 p1).kn,(kB p w B G1 p1).n+c,tk⟩ (treeC p x px (kB p w B G1 p1).n G2)
noncomputable def kC(B G1:List Stmt)(x:Str)(px:Pos)(G2:List Stmt)(c:Nat)(p1 q:Pos)(tk:Nat):KS:=kOf (runC p w B G1 x px G2 c p1 q tk)
end
theorem zU{p:Program}{w:World}{α:Type}{Γ:Ctx}{q:Pos}{S:KS}{t:Sem α}{N:Nat}{f:α→Bool}(h:okB f (bs twD p w.params N α Γ q S t)=true):
  ((∀b,b < S.n→kget S.kn b=none→kget (kOf (bs twD p w.params N α Γ q S t)).kn b=none)∧S.n≤(kOf (bs twD p w.params N α Γ q S t)).n)∧
  ∀(s:Shared) (Q:α→Pos→Shared→Prop) (E:Value→Pos→Shared→Prop),KOk S s→(∀a q' s',f a=true→KOk (kOf (bs twD p w.params N α Γ q S t)) s'→KFr S s s'→Q a q' s')→Sem.wp (model p w) Γ t Q E q s:=by
 obtain⟨a,q',e,hf⟩:=iW0 h
 have g:oS (model p w) (bs (model p w).den (model p w).prog (model p w).w.params N):=cQ0 (model p w) N
 rw[show (model p w).den=twD from twD_eq.symm]at g
 have:=@g _ _ _ _ _ _ _ _ e
 exact⟨this.mono,fun s Q E K H=>this.run s Q E K fun s' K' F=>H a q' s' hf K' F⟩
theorem tE{M:Model}{Γ:Ctx}{env:Env}{Q:Flow→Pos→Shared→Prop}{E:Value→Pos→Shared→Prop}:∀(a b:List Stmt) (q:Pos) (s:Shared),Sem.wp M Γ (execs a env) (fun f q' s'=>match f with | .next=>Sem.wp M Γ (execs b env) Q E q' s' | f=>Q f q' s') E q s→Sem.wp M Γ (execs (a++b) env) Q E q s
 |[],b,q,s,h=>by
  rw[arm_execs_nil,Sem.wp_pure']at h
  exact h
 |st::a,b,q,s,h=>by
  rw[execs_cons,Sem.wp_bind']at h
  rw[List.cons_append,execs_cons,Sem.wp_bind']
  refine Sem.wp_mono _ _ _ (fun f q' s' h'=>?_) (fun _ _ _ h'=>h') _ _ h
  cases f with
  |next=>exact tE a b q' s' h'
  |_=>exact h'
noncomputable def uU(e:Expr):Option Const:=bF e none (cst:=some)
theorem lR{e:Expr}{c:Const}(h:uU e=some c):∃k p,e=.Constant c k p:=by
 cases e with
 |Constant d k p=>obtain rfl:=Option.some.inj h;exact⟨k,p,rfl⟩
 |_=>exact nos h
noncomputable def intC{β:Type}(c:Const)(f:Int→Option β):Option β:=match c with
 |.int i=>f i
 |_=>none
theorem hE0{β:Type}{r:β}{c:Const}{f:Int→Option β}(h:intC c f=some r):∃i,c=.int i∧f i=some r:=by
 cases c with
 |int i=>exact⟨i,rfl,h⟩
 |_=>exact nos h
noncomputable def strC{β:Type}(c:Const)(f:Str→Option β):Option β:=match c with
 |.str i=>f i
 |_=>none
theorem eT0{β:Type}{r:β}{c:Const}{f:Str→Option β}(h:strC c f=some r):∃i,c=.str i∧f i=some r:=by
 cases c with
 |str i=>exact⟨i,rfl,h⟩
 |_=>exact nos h
noncomputable def cO:List (Option Expr)→List Expr→Option (List (Int×Str))
 |[],[]=>some []
 |k::ks,v::vs=>opt k fun ke=>opt (uU ke) fun c=>intC c fun i=>opt (uU v) fun d=>strC d fun x=>opt (cO ks vs) fun r=>some ((i,x)::r)
 |_,_=>none
theorem fQ{env:Env}{dp:Pos}:∀{ks:List (Option Expr)} {vs:List Expr} {ps:List (Int×Str)},cO ks vs=some ps→
  ∃pairs,(evalEachOpt ks env).zip ((evalEach vs env).map fun v=>do let x ← v;standAt dp;pure x)=pairs.map (fun (x:Sem Value×Sem Value)=>(some x.1,x.2))∧Paired Gives ps pairs
 |[],[],_,h=>by
  obtain rfl:=Option.some.inj h
  exact⟨[],rfl,.nil⟩
 |k::ks,v::vs,ps,h=>by
  obtain⟨ke,e1,h⟩:=aA h
  obtain⟨c,e2,h⟩:=aA h
  obtain⟨i,e3,h⟩:=hE0 h
  obtain⟨d,e4,h⟩:=aA h
  obtain⟨x,e5,h⟩:=eT0 h
  obtain⟨r,e6,h⟩:=aA h
  obtain⟨k1,p1,e7⟩:=lR e2
  obtain⟨k2,p2,e8⟩:=lR e4
  obtain⟨pairs,e,g⟩:=fQ (env:=env) (dp:=dp) e6
  obtain rfl:=Option.some.inj h
  rw[e1,e7,e3,e8,e5]
  exact⟨(eval (.Constant (.int i) k1 p1) env,do let x ← eval (.Constant (.str x) k2 p2) env;standAt dp;pure x)::pairs,congrArg (_::·) e,.cons ⟨fun M A E s Q hQ=>wpAny_Constant_int (env:=env) (k:=k1) (pos:=p1) (hQ _ _),fun M A E s Q hQ=>wpAny_bind (wpAny_Constant_str (env:=env) (k:=k2) (pos:=p2) (wpAny_bind (wpAny_standAt (wpAny_pure (hQ _ _)))))⟩ g⟩
 |[],_::_,_,h=>nos h
 |_::_,[],_,h=>nos h
structure DictStmt where
 x:Str
 px:Pos
 keys:List (Option Expr)
 values:List Expr
 dp:Pos
 ap:Pos
noncomputable def DictStmt.stmt(d:DictStmt):Stmt:=.Assign [.Name d.x d.px] (.Dict d.keys d.values d.dp) d.ap
theorem sB{f:Flow}(h:jI f=true):f=.next:=by cases f<;>first | rfl | cases h
theorem top_wpP{p:Program}{w:World}{os:OsState}{P:Shared→Prop}(G1 G2:List Stmt)(d:DictStmt)(tbl:List (Int×Str))(n₀:Nat)
  (hB:behindTheImports p=G1++d.stmt::G2) (hc:cO d.keys d.values=some tbl) (hnd:(tbl.map Prod.fst).Nodup) (hz:tbl.length≤100000) (hne:tbl≠[])
  (eA:okB tyA (runA p w)=true)
  (eB:∀p1,okB jI (runB p w (behindTheImports p) G1 p1)=true) (eBn:∀p1,(kB p w (behindTheImports p) G1 p1).n=n₀) (eBk:∀p1,kget (kB p w (behindTheImports p) G1 p1).kn n₀=none) (hn₀:1 < n₀)
  (eC:∀p1 q tk,okB jI (runC p w (behindTheImports p) G1 d.x d.px G2 ((tbl.length+16) / 17) p1 q tk)=true)
  (hP:∀s' p1 q tk es,s'.gens=#[]→s'.os=os→KOk (kC p w (behindTheImports p) G1 d.x d.px G2 ((tbl.length+16) / 17) p1 q tk) s'→IDict s'.heap n₀ es→Paired bY tbl es.toList→P s'):
  Sem.wp (model p w) Γq (topStub p).cur (fun fin _ s'=>fin=.done (.ret .none)∧P s')
   (fun _ _ _=>False) default ⟨boot_heap w.params,#[],boot_drawn,boot_toks,os⟩:=by
 have hA:=zU eA
 show Sem.wp (model p w) Γq (moduleCode p.main >>= fun code=>newBodyFrame code mainNs mainNs >>= fun frame=>run (.body (behindTheImports p) { scope:=p.main.scope,locals:=mainNs,globals:=mainNs,cells:=[],code:=code,frame:=some frame }) >>= fun _=>(PySem.ret .none:Sem Fin)) _ _ _ _
 have e1:(moduleCode p.main >>= fun code=>newBodyFrame code mainNs mainNs >>= fun frame=>run (.body (behindTheImports p) { scope:=p.main.scope,locals:=mainNs,globals:=mainNs,cells:=[],code:=code,frame:=some frame }) >>= fun _=>(PySem.ret .none:Sem Fin))=
   treeA p >>= fun cf=>run (.body (behindTheImports p) { scope:=p.main.scope,locals:=mainNs,globals:=mainNs,cells:=[],code:=cf.1,frame:=some cf.2 }) >>= fun _=>(PySem.ret .none:Sem Fin):=by
  unfold treeA
  rw[← PySem.W.Fast.te17154629097778926822,← PySem.W.Fast.te12822647523644345616]
  simp -iota only[bind_assoc,pure_bind]
 rw[e1,Sem.wp_bind']
 refine hA.2 _ _ _ (KS0_ok _ _) fun cf p1 s1 hcf K1 F1=>?_
 obtain⟨cv,fr⟩:=cf
 have hcf':cv=.ref 13∧fr=14:=by
  unfold tyA at hcf
  split at hcf
  rename_i v a hva
  cases hva
  split at hcf
  ·rw[Bool.and_eq_true]at hcf
   exact⟨congrArg Value.ref (Nat.eq_of_beq_eq_true hcf.1),Nat.eq_of_beq_eq_true hcf.2⟩
  ·cases hcf
 obtain⟨rfl,rfl⟩:=hcf'
 rw[Sem.wp_bind',Sem.wp_run,wpCode_iff_wp]
 show Sem.wp (model p w) (Γb p (behindTheImports p) p1) (denote table (.body (behindTheImports p) (envT p))) _ _ p1 s1
 show Sem.wp (model p w) (Γb p (behindTheImports p) p1) (blockStart (behindTheImports p) (envT p) >>= fun _=>((execs (behindTheImports p) (envT p)).onRaise (leaving (envT p))) >>= fun f=>(pure (.done f):Sem Fin)) _ _ p1 s1
 have hBr:=zU (eB p1)
 have hCr:=fun q tk=>zU (eC p1 q tk)
 suffices H:Sem.wp (model p w) (Γb p (behindTheImports p) p1) (blockStart (behindTheImports p) (envT p) >>= fun _=>execs (behindTheImports p) (envT p))
   (fun f _ s'=>f=.next∧P s') (fun _ _ _=>False) p1 s1 by
  rw[Sem.wp_bind']at H ⊢
  refine Sem.wp_mono _ _ _ (fun _ q s h=>?_) (fun _ _ _ (x:False)=>x.elim) _ _ H
  rw[Sem.wp_bind',Sem.wp_onRaise]
  refine Sem.wp_mono _ _ _ (fun f q' s' h'=>?_) (fun _ _ _ (x:False)=>x.elim) _ _ h
  obtain⟨rfl,h1⟩:=h'
  exact⟨rfl,h1⟩
 rw[hB]
 rw[← hB]
 suffices H:Sem.wp (model p w) (Γb p (behindTheImports p) p1) (iP0 p (behindTheImports p) G1)
   (fun f q s'=>f=.next∧Sem.wp (model p w) (Γb p (behindTheImports p) p1) (execs (d.stmt::G2) (envT p)) (fun f _ s'=>f=.next∧P s') (fun _ _ _=>False) q s') (fun _ _ _=>False) p1 s1 by
  unfold iP0 at H
  rw[← PySem.W.Fast.te1066825118222455980,← PySem.W.Fast.te12563942051412417395,Sem.wp_bind']at H
  rw[Sem.wp_bind']
  refine Sem.wp_mono _ _ _ (fun _ q s h=>?_) (fun _ _ _ (x:False)=>x.elim) _ _ H
  have e:execs (behindTheImports p) (envT p)=execs (G1++d.stmt::G2) (envT p):=by rw[← hB]
  rw[e]
  refine tE _ _ _ _ (Sem.wp_mono _ _ _ (fun f q' s' h'=>?_) (fun _ _ _ (x:False)=>x.elim) _ _ h)
  obtain⟨rfl,h1⟩:=h'
  exact h1
 refine hBr.2 s1 _ _ K1 fun f q s2 hf K2 F2=>?_
 have hfn:f=.next:=sB hf
 refine⟨hfn,?_⟩
 have e3:exec d.stmt (envT p)=(do standAt d.ap;let v ← eval (.Dict d.keys d.values d.dp) (envT p);standAt d.px;bindName (envT p) d.x v;pure .next):=exec_Assign_Name _ _ _ _ _ rfl
 rw[execs_cons,e3]
 simp -iota only[Sem.wp_bind',Sem.wp_cmd_standAt]
 obtain⟨pairs,ep,gp⟩:=fQ (env:=envT p) (dp:=d.dp) hc
 have ed:eval (.Dict d.keys d.values d.dp) (envT p)=(do standAt d.dp;dictDisplay (pairs.map fun x=>(some x.1,x.2))):=by
  rw[arm_eval_Dict,ep]
 rw[ed,Sem.wp_bind',Sem.wp_cmd_standAt]
 have hΓ:(Γb p (behindTheImports p) p1).In ⟨none,100000,none,none,100000⟩:=by
  refine⟨rfl,?_,(fun l h=>by cases h),(fun l h=>by cases h),?_⟩
  ·show frameCount [(Code.builtin "claim.caller" {},p1)]+(Code.body (behindTheImports p) (envT p)).weight≤100000
   have h1:(Code.body (behindTheImports p) (envT p)).weight≤10:=by
    show (1+0+0+0)≤10
    decide
   have h2:frameCount [(Code.builtin "claim.caller" {},p1)]≤99990:=by
    rw[frameCount_cons]
    show (Code.builtin "claim.caller" {}).weight+0≤99990
    decide+kernel
   lia
  ·show (Code.body (behindTheImports p) (envT p)).cUnits+unitsOf [(Code.builtin "claim.caller" {},p1)]≤100000
   have h1:(Code.body (behindTheImports p) (envT p)).cUnits≤10:=by
    show (3:Nat)≤10
    decide
   have h2:unitsOf [(Code.builtin "claim.caller" {},p1)]≤99990:=by
    show (Code.builtin "claim.caller" {}).cUnits+0≤99990
    decide+kernel
   lia
 have hsz:s2.heap.objs.size=n₀:=K2.size.trans (eBn p1)
 refine Sem.wp_mono _ _ _ (fun v q' s' (h:∀q',_)=>h q') (fun _ _ _ x=>x) _ _ (rU (A:=⟨none,100000,none,none,100000⟩) (E:=fun _ _=>False) (s:=s2) gp hnd hz hne (by rw[hsz];exact hn₀) (fun dd h' tk es hI hE hs hd hk=>?_) _ _ hΓ)
 intro q'
 have hdd:dd=(kB p w (behindTheImports p) G1 p1).n:=hd.symm.trans K2.size
 subst hdd
 have K3:KOk ⟨(kB p w (behindTheImports p) G1 p1).kn,(kB p w (behindTheImports p) G1 p1).n+(tbl.length+16) / 17,tk⟩ { s2 with heap:=h',toks:=tk }:=
  ⟨by show h'.objs.size=_;rw[hs,hd],rfl,fun a o e=>hk a o (K2.kn a o e)⟩
 have H:=(hCr q' tk).2 { s2 with heap:=h',toks:=tk } (fun f _ s'=>f=Flow.next∧P s') (fun _ _ _=>False) K3 (fun f q'' s'' hf'' K4 F4=>?_)
 ·unfold treeC at H
  rw[← PySem.W.Fast.te12563942051412417395]at H
  simp -iota only[Sem.wp_bind',Sem.wp_cmd_standAt]at H
  simp -iota only[Sem.wp_pure']
  exact H
 ·have hfn'':f=.next:=sB hf''
  refine⟨hfn'',hP s'' p1 q' tk es (F4.gens.trans (F2.gens.trans F1.gens)) (F4.os.trans (F2.os.trans F1.os)) K4 ?_ hE⟩
  have:n₀=(kB p w (behindTheImports p) G1 p1).n:=(eBn p1).symm
  rw[this]
  refine hI.keep fun o e=>F4.keep _ o ?_ e
  show kget (kB p w (behindTheImports p) G1 p1).kn _=none
  rw[← this]
  exact eBk p1
theorem top_wp{p:Program}{w:World}{os:OsState}(G1 G2:List Stmt)(d:DictStmt)(tbl:List (Int×Str))(n₀:Nat)
  (hB:behindTheImports p=G1++d.stmt::G2) (hc:cO d.keys d.values=some tbl) (hnd:(tbl.map Prod.fst).Nodup) (hz:tbl.length≤100000) (hne:tbl≠[])
  (eA:okB tyA (runA p w)=true)
  (eB:∀p1,okB jI (runB p w (behindTheImports p) G1 p1)=true) (eBn:∀p1,(kB p w (behindTheImports p) G1 p1).n=n₀) (eBk:∀p1,kget (kB p w (behindTheImports p) G1 p1).kn n₀=none) (hn₀:1 < n₀)
  (eC:∀p1 q tk,okB jI (runC p w (behindTheImports p) G1 d.x d.px G2 ((tbl.length+16) / 17) p1 q tk)=true):
  Sem.wp (model p w) Γq (topStub p).cur (fun fin _ s'=>fin=.done (.ret .none)∧s'.gens=#[]∧(s'.os=os∧∃p1 q tk es,KOk (kC p w (behindTheImports p) G1 d.x d.px G2 ((tbl.length+16) / 17) p1 q tk) s'∧IDict s'.heap n₀ es∧Paired bY tbl es.toList))
   (fun _ _ _=>False) default ⟨boot_heap w.params,#[],boot_drawn,boot_toks,os⟩:=
 top_wpP G1 G2 d tbl n₀ hB hc hnd hz hne eA eB eBn eBk hn₀ eC fun _ p1 q tk es h1 h2 h3 h4 h5=>⟨h1,h2,p1,q,tk,es,h3,h4,h5⟩
inductive PV where
 |none
 |bool (b:Bool)
 |int (i:Int)
 |str (s:Str)
 |tup (xs:List PV)
 |lst (i:Nat)
inductive CD where
 |lst (xs:List PV)
 |acc (di:Nat) (xs:List PV)
 |dct (kvs:List (Str×PV))
 |ins (kvs:List (Str×PV))
 |hid
structure Cell where
 ver:Nat
 d:CD
noncomputable abbrev Sto:=List Cell
noncomputable abbrev LE:=List (Str×PV)
noncomputable abbrev Fn:=List PV→Sto→Option (PV×Sto)
structure Gl where
 fn:Str→Option Fn
 con:Str→Option PV
 set:Str→Option (Int→Bool):=fun _=>none
 tab:Str→Option (Int→Option Str):=fun _=>none
 meth:Str→Option Fn
 lenA:Fn
 strA:Fn
noncomputable def aC(σ:Sto)(i:Nat)(d:CD):Sto:=σ.modify i fun c=>⟨c.ver+1,d⟩
noncomputable def bM(σ:Sto)(i:Nat):Option (List PV):=match σ[i]? with
 |some c=>match c.d with
  |.lst xs=>some xs
  |_=>none
 |none=>none
noncomputable def hI0:Nat:=2 ^ 256
mutual
noncomputable def toD:Nat→Sto→PV→Option PyData
 |0,_,_=>none
 |n+1,σ,v=>match v with
  |.none=>some .none
  |.bool b=>some (.bool b)
  |.int i=>some (.int i)
  |.str x=>some (.str x)
  |.tup xs=>opt (jI0 n σ xs) fun ds=>some (.tuple ds)
  |.lst i=>opt (bM σ i) fun xs=>opt (jI0 n σ xs) fun ds=>some (.list ds)
noncomputable def jI0:Nat→Sto→List PV→Option (List PyData)
 |0,_,_=>none
 |n+1,σ,vs=>match vs with
  |[]=>some []
  |v::vs=>opt (toD n σ v) fun d=>opt (jI0 n σ vs) fun ds=>some (d::ds)
end
noncomputable def eqD(σ:Sto)(a b:PV):Option Bool:=opt (toD 100000 σ a) fun da=>opt (toD 100000 σ b) fun db=>grd (da.canLay0=true∧db.canLay0=true∧min da.depth db.depth≤8) (some (PyData.eqv da db))
noncomputable def eqV(σ:Sto)(a b:PV):Option Bool:=match a with
 |.int i=>match b with
  |.int j=>some (decide (i=j))
  |b=>eqD σ (.int i) b
 |.str s=>match b with
  |.str t=>some (decide (s=t))
  |b=>eqD σ (.str s) b
 |a=>eqD σ a b
inductive Fl where
 |nxt
 |brk
 |ret (v:PV)
structure Cx where
 names:List (Str×NameKind)
 le:LE
noncomputable def cX(l:LE)(n:Str)(v:PV):LE:=(n,v)::l.filter fun x=>!decide (x.1=n)
noncomputable def stores(cx:Cx)(n:Str):Bool:=match cx.names.lookup n with
 |some k=>match k with
  |.local=>true
  |.cell=>true
  |_=>false
 |none=>false
noncomputable def gH(cx:Cx)(n:Str)(v:PV):Option Cx:=if stores cx n then some ⟨cx.names,cX cx.le n v⟩ else none
noncomputable def uJ{β:Type}(e:Expr)(f:Str→Option β):Option β:=bF e none (nam:=fun g _=>f g)
theorem iV{β:Type}{r:β}{P:Expr→Prop}{e:Expr}{f:Str→Option β}(h:uJ e f=some r)(h1:∀g p,f g=some r→P (.Name g p)):P e:=by
 cases e with
 |Name g p=>exact h1 g p h
 |_=>exact nos h
noncomputable def eG(cx:Cx):List Expr→List PV→Option Cx
 |[],[]=>some cx
 |e::es,v::vs=>uJ e fun n=>opt (gH cx n v) fun cx'=>eG cx' es vs
 |_,_=>none
noncomputable def xK{β:Type}(v:PV)(f:List PV→Option β):Option β:=match v with
 |.tup i=>f i
 |_=>none
noncomputable def aH(cx:Cx)(t:Expr)(v:PV):Option Cx:=bF t none (nam:=fun n _=>gH cx n v) (tup:=fun es=>xK v fun vs=>eG cx es vs)
noncomputable def watch(σ:Sto)(w:Option (Nat×Nat)):Bool:=match w with
 |none=>true
 |some (i,v)=>match σ[i]? with
  |some c=>Nat.beq c.ver v
  |none=>false
noncomputable def onFree{β:Type}(k:NameKind)(o:Option β):Option β:=match k with
 |.free=>o
 |_=>none
theorem vQ{β:Type}{r:β}{k:NameKind}{o:Option β}(h:onFree k o=some r):k=.free∧o=some r:=by
 cases k with
 |free=>exact⟨rfl,h⟩
 |_=>exact nos h
noncomputable def onCel{β:Type}(k:NameKind)(o:Option β):Option β:=match k with
 |.cell=>o
 |_=>none
theorem zG{β:Type}{r:β}{k:NameKind}{o:Option β}(h:onCel k o=some r):k=.cell∧o=some r:=by
 cases k with
 |cell=>exact⟨rfl,h⟩
 |_=>exact nos h
noncomputable def jU0(cx:Cx)(x:Str×NameKind):Option (Str×PV):=onFree x.2 (opt (cx.names.lookup x.1) fun k=>onCel k ((cx.le.lookup x.1).map fun v=>(x.1,v)))
noncomputable def capt(cx:Cx)(cnames:List (Str×NameKind)):LE:=cnames.filterMap (jU0 cx)
noncomputable def strOk(s:Str):Option PV:=if s.length≤100000 then some (.str s) else none
noncomputable def isV(a b:PV):Option Bool:=match b with
 |.none=>match a with
  |.none=>some true
  |_=>some false
 |.bool y=>match a with
  |.bool x=>some (decide (x=y))
  |.none=>some false
  |.int _=>some false
  |.str _=>some false
  |_=>none
 |_=>none
noncomputable def eR:List PV→Option (List Str)
 |[]=>some []
 |v::vs=>match v with
  |.str s=>(eR vs).map (s::·)
  |_=>none
noncomputable def inV(a b:PV):Option Bool:=match a with
 |.str s=>match b with
  |.str t=>some (Txt.contains t s)
  |.tup ys=>opt (eR ys) fun ts=>some (ts.any fun t=>t==s)
  |_=>none
 |_=>none
noncomputable def xG(a b:PV)(f:Int→Int→Bool):Option Bool:=match a with
 |.int i=>match b with
  |.int j=>some (f i j)
  |_=>none
 |_=>none
noncomputable def aS0(op:CmpOp)(σ:Sto)(a b:PV):Option Bool:=match op with
 |.Eq=>eqV σ a b
 |.NotEq=>(eqV σ a b).map (!·)
 |.Is=>isV a b
 |.IsNot=>(isV a b).map (!·)
 |.In=>inV a b
 |.NotIn=>(inV a b).map (!·)
 |.Lt=>xG a b fun i j=>decide (i < j)
 |.LtE=>xG a b fun i j=>decide (i≤j)
 |.Gt=>xG a b fun i j=>decide (i > j)
 |.GtE=>xG a b fun i j=>decide (i≥j)
noncomputable def fY(xs:List PV)(lo hi st:Option Int):List PV:=
 (sliceRange (sliceBounds lo hi st xs.length).1 (sliceBounds lo hi st xs.length).2.1 (sliceBounds lo hi st xs.length).2.2).filterMap (xs[·]?)
noncomputable def signs(s:Str):List PV:=s.cps.toList.map fun c=>.str ⟨#[c]⟩
noncomputable def ranged(a b c:Int):Option (List PV):=
 if c≠0∧c.natAbs < 1073741824∧Builtin.Range.small a b c=true∧0≤Builtin.Range.rangeSize a b c∧(Builtin.Range.rangeSize a b c).toNat≤1000 then
  some ((List.range (Builtin.Range.rangeSize a b c).toNat).map fun (k:Nat)=>.int (a+c * (k:Int))) else none
noncomputable def itV(v:PV)(σ:Sto):Option (List PV×Option (Nat×Nat)×Sto):=match v with
 |.str s=>some (signs s,none,σ)
 |.tup xs=>some (xs,none,σ)
 |.lst i=>match σ[i]? with
  |some c=>match c.d with
   |.lst xs=>some (xs,some (i,c.ver),σ)
   |_=>none
  |none=>none
 |_=>none
noncomputable def enumed:Nat→List PV→List PV
 |_,[]=>[]
 |k,x::xs=>.tup [.int (k:Int),x]::enumed (k+1) xs
noncomputable def bX(x y:Str)(lo hi:Int):Int:=match Builtin.Str.occurrences x y (fromIndex x.length lo) (min (fromIndex x.length hi) x.length) 1 with
 |k::_=>(k:Int)
 |[]=> -1
noncomputable def aJ(x:Str)(lo hi st:Option Int):Str:=
 let picked:=Builtin.Str.strSliceIndices lo hi (st.getD 1) x.length
 if (st.getD 1==1&&picked.length==x.length)=true then x else ⟨(picked.filterMap (x.cps[·]?)).toArray⟩
noncomputable def sZ(v:PV):Option (Option Int):=match v with
 |.none=>some none
 |.int i=>some (some i)
 |_=>none
noncomputable def iL0(c:Const):Option PV:=match c with
 |.none=>some .none
 |.bool b=>some (.bool b)
 |.int i=>some (.int i)
 |.str s=>some (.str s)
 |_=>none
noncomputable def yL:CD→Nat
 |.lst _=>0
 |.acc _ _=>1
 |.dct _=>2
 |.ins _=>3
 |.hid=>4
noncomputable def aK(σ:Sto)(a:PV):Option Nat:=match a with
 |.lst i=>match σ[i]? with
  |some c=>some (yL c.d)
  |none=>none
 |_=>none
noncomputable def tG(d:CD):Bool:=match d with
 |.ins kvs=>match kvs with
  |[]=>false
  |p::l=>match l with
   |[]=>match p.2 with
    |.int _=>decide (p.1="_initial_size")
    |_=>false
   |_::_=>false
 |_=>false
noncomputable def xP(σ:Sto)(d:CD):Bool:=match d with
 |.acc di _=>fX σ[di]? false fun c=>tG c.d
 |_=>true
noncomputable def aI(σ:Sto)(a:PV):Bool:=match a with
 |.lst i=>fX σ[i]? true fun c=>xP σ c.d
 |_=>true
noncomputable def uI(o:Expr):Bool:=bF o true (call:=fun f a k=>bF f true (nam:=fun id _=>match a with
 |[]=>(match k with | []=>id !="super" | _=>true)
 |_=>true))
noncomputable def fD(cx:Cx)(scope:Scope):Bool:=
 scope.kind==.function&&scope.names.all fun x=>x.2 !=.cell&&(x.2 !=.local || scope.names.lookup x.1==some .local)&&
  (x.2 !=.free || (scope.names.lookup x.1==some .free&&cx.names.lookup x.1==some .cell))
noncomputable def cP(it t:Expr):Bool:=bF it true (call:=fun f _ _=>bF f true (nam:=fun g _=>if g="enumerate"∨g="zip" then bF t false (tup:=fun _=>true) else true))
noncomputable def uL(G:Gl)(cx:Cx)(op:CmpOp)(r:Expr):Option (Int→Bool):=match op with
 |.In=>uJ r fun g=>grd (cx.names.lookup g=some .globalImplicit∧g≠"__debug__"∧behindInMarks op r=false) (G.set g)
 |_=>none
noncomputable def dA0(G:Gl)(cx:Cx)(o:Expr)(m:Str):Option (Int→Option Str):=uJ o fun g=>grd (cx.names.lookup g=some .globalImplicit∧g≠"__debug__"∧m="get") (G.tab g)
noncomputable def bN0(x:Option Str):PV:=match x with
 |some s=>.str s
 |none=>.none
noncomputable def jB(e:Expr):Option Str:=bF e none (nam:=fun n _=>some n)
noncomputable def oZ(t v:Expr):Bool:=bF t false (nam:=fun _ _=>true) (tup:=fun ts=>(ts.map jB).Nodup&&bF v true (tup:=fun vs=> !(vs.all (constantsAlone 8)) || vs.all (foldedForSure 8)))
section
variable {β:Type}{r:β}
noncomputable def onB(b:Bool)(x y:Option β):Option β:=match b with
 |true=>x
 |false=>y
noncomputable def bS(v:PV)(f:Int→Option β):Option β:=match v with
 |.int i=>f i
 |_=>none
theorem dC{P:PV→Prop}{v:PV}{f:Int→Option β}(h:bS v f=some r)(h1:∀i,f i=some r→P (.int i)):P v:=by
 cases v with
 |int i=>exact h1 i h
 |_=>exact nos h
theorem aZ{v:PV}{f:Int→Option β}(h:bS v f=some r):∃i,v=.int i∧f i=some r:=dC (P:=fun v=>∃i,v=.int i∧f i=some r) h fun i h=>⟨i,rfl,h⟩
noncomputable def mO(vs:List PV):Option (Int×Int×Int):=match vs with
 |[]=>none
 |u::t=>match t with
  |[]=>bS u fun b=>some (0,b,1)
  |v::t=>match t with
   |[]=>bS u fun a=>bS v fun b=>some (a,b,1)
   |w::t=>match t with
    |[]=>bS u fun a=>bS v fun b=>bS w fun c=>some (a,b,c)
    |_::_=>none
theorem fX0{P:List PV→Int×Int×Int→Prop}{vs:List PV}{x:Int×Int×Int}(h:mO vs=some x)(h1:∀b,P [.int b] (0,b,1))(h2:∀a b,P [.int a,.int b] (a,b,1))(h3:∀a b c,P [.int a,.int b,.int c] (a,b,c)):P vs x:=by
 cases vs with
 |nil=>exact nos h
 |cons u t=>cases t with
  |nil=>
   obtain⟨b,e,h⟩:=aZ h
   exact e▸Option.some.inj h▸h1 b
  |cons v t=>cases t with
   |nil=>
    obtain⟨a,e,h4⟩:=aZ h
    obtain⟨b,e',h5⟩:=aZ h4
    exact e▸e'▸Option.some.inj h5▸h2 a b
   |cons w t=>cases t with
    |nil=>
     obtain⟨a,e,h4⟩:=aZ h
     obtain⟨b,e',h5⟩:=aZ h4
     obtain⟨c,e'',h6⟩:=aZ h5
     exact e▸e'▸e''▸Option.some.inj h6▸h3 a b c
    |cons _ _=>exact nos h
noncomputable def eS(v:PV)(f:Nat→Option β):Option β:=match v with
 |.lst i=>f i
 |_=>none
theorem sG{P:PV→Prop}{v:PV}{f:Nat→Option β}(h:eS v f=some r)(h1:∀i,f i=some r→P (.lst i)):P v:=by
 cases v with
 |lst i=>exact h1 i h
 |_=>exact nos h
theorem cR{v:PV}{f:Nat→Option β}(h:eS v f=some r):∃i,v=.lst i∧f i=some r:=sG (P:=fun v=>∃i,v=.lst i∧f i=some r) h fun i h=>⟨i,rfl,h⟩
theorem mP{P:PV→Prop}{v:PV}{f:List PV→Option β}(h:xK v f=some r)(h1:∀i,f i=some r→P (.tup i)):P v:=by
 cases v with
 |tup i=>exact h1 i h
 |_=>exact nos h
theorem zV{v:PV}{f:List PV→Option β}(h:xK v f=some r):∃i,v=.tup i∧f i=some r:=mP (P:=fun v=>∃i,v=.tup i∧f i=some r) h fun i h=>⟨i,rfl,h⟩
noncomputable def rR(d:CD)(f:Nat→List PV→Option β):Option β:=match d with
 |.acc di xs=>f di xs
 |_=>none
theorem eO{d:CD}{f:Nat→List PV→Option β}(h:rR d f=some r):∃di xs,d=.acc di xs∧f di xs=some r:=by
 cases d with
 |acc di xs=>exact⟨di,xs,rfl,h⟩
 |_=>exact nos h
noncomputable def fB(v:PV)(f:Str→Option β):Option β:=match v with
 |.str i=>f i
 |_=>none
theorem mM{P:PV→Prop}{v:PV}{f:Str→Option β}(h:fB v f=some r)(h1:∀i,f i=some r→P (.str i)):P v:=by
 cases v with
 |str i=>exact h1 i h
 |_=>exact nos h
theorem bZ{v:PV}{f:Str→Option β}(h:fB v f=some r):∃i,v=.str i∧f i=some r:=mM (P:=fun v=>∃i,v=.str i∧f i=some r) h fun i h=>⟨i,rfl,h⟩
noncomputable def one{α:Type}(l:List α)(f:α→Option β):Option β:=match l with
 |[a]=>f a
 |_=>none
theorem cB{α:Type}{l:List α}{f:α→Option β}(h:one l f=some r):∃a,l=[a]∧f a=some r:=by
 match l with
 |[]=>exact nos h
 |[a]=>exact⟨a,rfl,h⟩
 |_::_::_=>exact nos h
theorem fJ{α:Type}{P:List α→Prop}{l:List α}{f:α→Option β}(h:one l f=some r)(h1:∀a,f a=some r→P [a]):P l:=by
 cases l with
 |nil=>exact nos h
 |cons a t=>cases t with
  |nil=>exact h1 a h
  |cons _ _=>exact nos h
noncomputable def two{α:Type}(l:List α)(f:α→α→Option β):Option β:=match l with
 |[a,b]=>f a b
 |_=>none
theorem eW{α:Type}{l:List α}{f:α→α→Option β}(h:two l f=some r):∃a b,l=[a,b]∧f a b=some r:=by
 match l with
 |[]=>exact nos h
 |[a]=>exact nos h
 |[a,b]=>exact⟨a,b,rfl,h⟩
 |_::_::_::_=>exact nos h
noncomputable def pU{α:Type}(l:List α)(x:Option β):Option β:=match l with
 |[]=>x
 |_::_=>none
theorem dJ{α:Type}{l:List α}{x:Option β}(h:pU l x=some r):l=[]∧x=some r:=by
 cases l with
 |nil=>exact⟨rfl,h⟩
 |cons _ _=>exact nos h
noncomputable def on2(a b:PV)(ii:Int→Int→Option β)(ss:Str→Str→Option β)(si:Str→Int→Option β)(ll:Nat→Nat→Option β):Option β:=match a with
 |.int i=>bS b fun j=>ii i j
 |.str s=>match b with
  |.str t=>ss s t
  |.int j=>si s j
  |_=>none
 |.lst i=>eS b fun j=>ll i j
 |_=>none
theorem dR0{P:PV→PV→Prop}{a b:PV}{ii:Int→Int→Option β}{ss:Str→Str→Option β}{si:Str→Int→Option β}{ll:Nat→Nat→Option β}(h:on2 a b ii ss si ll=some r)
  (h1:∀i j,ii i j=some r→P (.int i) (.int j)) (h2:∀i j,ss i j=some r→P (.str i) (.str j)) (h3:∀i j,si i j=some r→P (.str i) (.int j)) (h4:∀i j,ll i j=some r→P (.lst i) (.lst j)):P a b:=by
 cases a with
 |int i=>cases b with
  |int j=>exact h1 i j h
  |_=>exact nos h
 |str i=>cases b with
  |str j=>exact h2 i j h
  |int j=>exact h3 i j h
  |_=>exact nos h
 |lst i=>cases b with
  |lst j=>exact h4 i j h
  |_=>exact nos h
 |_=>exact nos h
noncomputable def cL0(op:Operator)(x:Option β):Option β:=match op with
 |.Add=>x
 |_=>none
theorem mH{P:Operator→Prop}{op:Operator}{x:Option β}(h:cL0 op x=some r)(h1:x=some r→P .Add):P op:=by
 cases op with
 |Add=>exact h1 h
 |_=>exact nos h
noncomputable def onMult(op:Operator)(x:Option β):Option β:=match op with
 |.Mult=>x
 |_=>none
theorem aW0{P:Operator→Prop}{op:Operator}{x:Option β}(h:onMult op x=some r)(h1:x=some r→P .Mult):P op:=by
 cases op with
 |Mult=>exact h1 h
 |_=>exact nos h
noncomputable def opK(op:Operator)(a s m d f p:Option β):Option β:=match op with
 |.Add=>a
 |.Sub=>s
 |.Mult=>m
 |.Mod=>d
 |.FloorDiv=>f
 |.Pow=>p
 |_=>none
theorem cM0{P:Operator→Prop}{op:Operator}{a s m d f p:Option β}(h:opK op a s m d f p=some r)
  (h1:a=some r→P .Add) (h2:s=some r→P .Sub) (h3:m=some r→P .Mult) (h4:d=some r→P .Mod) (h5:f=some r→P .FloorDiv) (h6:p=some r→P .Pow):P op:=by
 cases op with
 |Add=>exact h1 h
 |Sub=>exact h2 h
 |Mult=>exact h3 h
 |Mod=>exact h4 h
 |FloorDiv=>exact h5 h
 |Pow=>exact h6 h
 |_=>exact nos h
noncomputable def aV(op:Operator)(a b:PV)(σ:Sto)(k:PV→Sto→Option β):Option β:=on2 a b
 (fun i j=>opK op (k (.int (i+j)) σ) (k (.int (i - j)) σ) (grd (i.natAbs < hI0∧j.natAbs < hI0) (k (.int (i * j)) σ)) (if j=0 then none else k (.int (Int.fmod i j)) σ)
  (if j=0 then none else grd (j.natAbs < 1073741824) (k (.int (Int.fdiv i j)) σ)) (grd (0≤j∧j≤20∧i.natAbs≤10) (k (.int (i ^ j.toNat)) σ)))
 (fun s t=>cL0 op (grd ((s++t).length≤100000) (k (.str (s++t)) σ)))
 (fun s j=>onMult op (grd (0≤j∧j≤1000∧s.length≤1000) (k (.str (Txt.mul s j)) σ)))
 (fun i j=>cL0 op (opt (bM σ i) fun xs=>opt (bM σ j) fun ys=>grd (xs.length+ys.length≤10000) (k (.lst σ.length) (σ++[⟨0,.lst (xs++ys)⟩]))))
noncomputable def qP(v:PV)(k:Bool→Option β):Option β:=match v with
 |.none=>k false
 |.bool b=>k b
 |.int i=>k (i !=0)
 |.str s=>grd (s.length≤1000000) (k ((s.length:Int) !=0))
 |_=>none
noncomputable def cY0(a:PV)(σ:Sto)(k:PV→Option β):Option β:=match a with
 |.str q=>grd (q.length≤100000) (k (PV.int q.length))
 |.tup xs=>grd (xs.length≤100000) (k (PV.int xs.length))
 |.lst i=>opt (bM σ i) fun xs=>grd (xs.length≤100000) (k (PV.int xs.length))
 |_=>none
noncomputable def aR(x:Option (PV×Sto))(k:PV→Sto→Option β):Option β:=match x with
 |some (v,σ)=>k v σ
 |none=>none
theorem kJ{C:Prop}{x:Option (PV×Sto)}{k:PV→Sto→Option β}(h:aR x k=some r)(q:∀v σ,x=some (v,σ)→k v σ=some r→C):C:=by
 cases x with
 |none=>exact nos h
 |some p=>exact q p.1 p.2 rfl h
noncomputable def gW(v:PV)(σ:Sto)(x y:Option β):Option β:=match v with
 |.lst i=>match σ[i]? with
  |some c=>match c.d with
   |.acc _ _=>x
   |_=>y
  |none=>none
 |_=>y
theorem pI{v:PV}{σ:Sto}{x y:Option β}(h:gW v σ x y=some r):x=some r∨y=some r:=by
 cases v with
 |lst i=>
  unfold gW at h
  dsimp only at h
  cases hc:σ[i]? with
  |none=>rw[hc]at h;cases h
  |some c=>
   rw[hc]at h
   dsimp only at h
   cases hd:c.d<;>rw[hd]at h<;>first | exact .inl h | exact .inr h
 |_=>exact .inr h
noncomputable def bK(β:Type)(G:Gl)(f:Str)(args:List PV)(σ:Sto)(k:PV→Sto→Option β):Option β:=
 if f="len" then one args fun a=>gW a σ (aR (G.lenA [a] σ) k) (cY0 a σ fun v=>k v σ)
 else if f="chr" then one args fun a=>bS a fun i=>grd (0≤i∧i≤1114111) (k (.str ⟨#[i.toNat]⟩) σ)
 else if f="ord" then one args fun a=>fB a fun s=>one s.cps.toList fun c=>k (.int (c:Int)) σ
 else if f="str" then one args fun a=>gW a σ (aR (G.strA [a] σ) k) none
 else none
noncomputable def cQ(G:Gl)(f:Str)(args:List PV)(σ:Sto)(k:PV→Sto→Option β):Option β:=bK β G f args σ k
noncomputable def sM(m:Str)(x:Str)(args:List PV)(σ:Sto)(k:PV→Sto→Option β):Option β:=match args with
 |[]=>if m="upper" then grd ((Txt.upper x).length≤100000) (k (.str (Txt.upper x)) σ) else if m="lower" then grd ((Txt.lower x).length≤100000) (k (.str (Txt.lower x)) σ) else none
 |[v]=>match v with
  |.str y=>
   if m="startswith" then k (.bool (Txt.startswith x y)) σ else
   if m="endswith" then k (.bool (Txt.endswith x y)) σ else
   if m="count" then k (.int (Txt.count x y)) σ else
   if m="split" then (if y.length=0 then none else
    grd ((Txt.split x y).length≤1000∧x.length≤100000) (k (.lst σ.length) (σ++[⟨0,.lst ((Txt.split x y).map .str)⟩]))) else none
  |.lst i=>if m="join" then opt (bM σ i) fun xs=>opt (eR xs) fun ts=>grd (JoinOk x ts=true) (k (.str (Txt.join x ts)) σ) else none
  |_=>none
 |[v,a,b]=>fB v fun y=>bS a fun lo=>bS b fun hi=>if m="find" then grd (0≤lo∧0≤hi∧hi≤x.length) (k (.int (bX x y lo hi)) σ) else none
 |_=>none
noncomputable def lM(G:Gl)(i:Nat)(m:Str)(args:List PV)(σ:Sto)(k:PV→Sto→Option β):Option β:=opt σ[i]? fun c=>match c.d with
 |.lst xs=>one args fun v=>if m="append" then grd (xs.length≤10000) (k .none (aC σ i (.lst (xs++[v])))) else none
 |.acc _ _=>opt (G.meth m) fun F=>aR (F (.lst i::args) σ) k
 |_=>none
noncomputable def aU(G:Gl)(o:PV)(m:Str)(args:List PV)(σ:Sto)(k:PV→Sto→Option β):Option β:=match o with
 |.str x=>sM m x args σ k
 |.lst i=>lM G i m args σ k
 |_=>none
noncomputable def xV(j:Int)(xs:List PV)(k:PV→Option β):Option β:=opt (seqIndex? j xs.length) fun p=>opt xs[p]? k
noncomputable def bT(a:PV)(i:PV)(σ:Sto)(k:PV→Option β):Option β:=match a with
 |.str s=>bS i fun j=>grd (fitsSsize j=true∧(Txt.charAt s j).isSome=true) (k (.str (Txt.item s j)))
 |.tup xs=>bS i fun j=>grd (-(2 ^ 63)≤j∧j < 2 ^ 63) (xV j xs k)
 |.lst c=>match i with
  |.int j=>grd (-(2 ^ 63)≤j∧j < 2 ^ 63) (opt (bM σ c) fun xs=>xV j xs k)
  |.str n=>opt σ[c]? fun cell=>match cell.d with
   |.dct kvs=>opt (kvs.lookup n) k
   |_=>none
  |_=>none
 |_=>none
noncomputable def sliK(a:PV)(lo hi st:Option Int)(σ:Sto)(k:PV→Sto→Option β):Option β:=
 if st=some 0 then none else match a with
 |.str s=>grd (s.length≤100000) (k (.str (aJ s lo hi st)) σ)
 |.lst c=>opt (bM σ c) fun xs=>grd (xs.length≤100000) (k (.lst σ.length) (σ++[⟨0,.lst (fY xs lo hi st)⟩]))
 |_=>none
noncomputable def eD(op:CmpOp)(σ:Sto)(a b:PV)(k:Bool→Option β):Option β:=opt (aS0 op σ a b) k
noncomputable def augK(op:Operator)(a b:PV)(k:PV→Option β):Option β:=on2 a b (fun i j=>opK op (k (.int (i+j))) (k (.int (i - j))) none none none none) (fun s t=>cL0 op (grd ((s++t).length≤100000) (k (.str (s++t))))) (fun _ _=>none) fun _ _=>none
end
section
variable {β:Type}{r:β}{C:Prop}
theorem iP{α:Type}{p q:α→Prop}(h:∃a,p a∧q a)(k:∀a,p a→q a→C):C:=h.elim fun a h=>k a h.1 h.2
theorem jZ{v:PV}{f:Int→Option β}(h:bS v f=some r)(q:∀i,v=.int i→f i=some r→C):C:=iP (aZ h) q
theorem kP{v:PV}{f:Nat→Option β}(h:eS v f=some r)(q:∀i,v=.lst i→f i=some r→C):C:=iP (cR h) q
theorem zC{v:PV}{f:Str→Option β}(h:fB v f=some r)(q:∀i,v=.str i→f i=some r→C):C:=iP (bZ h) q
theorem accD_el{d:CD}{f:Nat→List PV→Option β}(h:rR d f=some r)(q:∀di xs,d=.acc di xs→f di xs=some r→C):C:=(eO h).elim fun di h=>iP h (q di)
theorem one_el{α:Type}{l:List α}{f:α→Option β}(h:one l f=some r)(q:∀a,l=[a]→f a=some r→C):C:=iP (cB h) q
theorem two_el{α:Type}{l:List α}{f:α→α→Option β}(h:two l f=some r)(q:∀a b,l=[a,b]→f a b=some r→C):C:=(eW h).elim fun a h=>iP h (q a)
end
section
variable {β:Type}{r:β}
noncomputable def nameK(G:Gl)(cx:Cx)(x:Str)(f:PV→Option β):Option β:=if x="__debug__"∨x="__classdict__" then none else match cx.le.lookup x with
 |some v=>f v
 |none=>opt (cx.names.lookup x) fun kd=>match kd with
  |.globalImplicit=>opt (G.con x) f
  |_=>none
theorem bH0{G:Gl}{cx:Cx}{x:Str}{f:PV→Option β}(h:nameK G cx x f=some r):∃v,f v=some r∧¬ (x="__debug__"∨x="__classdict__")∧(cx.le.lookup x=some v∨(cx.names.lookup x=some .globalImplicit∧G.con x=some v)):=by
 obtain⟨hd,h⟩:=bQ h
 cases hl:cx.le.lookup x with
 |some v=>rw[hl]at h;exact⟨v,h,hd,.inl rfl⟩
 |none=>
  rw[hl]at h
  obtain⟨kd,hk,h⟩:=aA h
  cases kd with
  |globalImplicit=>obtain⟨v,hv,h⟩:=aA h;exact⟨v,h,hd,.inr ⟨hk,hv⟩⟩
  |_=>exact nos h
noncomputable def globK(cx:Cx)(g:Str)(x:Option β):Option β:=if g="__debug__" then none else match cx.le.lookup g with
 |some _=>none
 |none=>opt (cx.names.lookup g) fun kd=>match kd with
  |.globalImplicit=>x
  |_=>none
theorem bK0{cx:Cx}{g:Str}{x:Option β}(h:globK cx g x=some r):(g==("__debug__":Str))=false∧cx.names.lookup g=some .globalImplicit∧x=some r:=by
 obtain⟨hd,h⟩:=bQ h
 have hd':(g==("__debug__":Str))=false:=beq_eq_false_iff_ne.mpr hd
 cases hl:cx.le.lookup g with
 |some v=>rw[hl]at h;cases h
 |none=>
  rw[hl]at h
  obtain⟨kd,hk,h⟩:=aA h
  cases kd with
  |globalImplicit=>exact⟨hd',hk,h⟩
  |_=>exact nos h
noncomputable def pR{α:Type}(o:Option α)(f:α→Option β)(x:Option β):Option β:=match o with
 |some a=>f a
 |none=>x
theorem nA{C:Prop}{α:Type}{o:Option α}{f:α→Option β}{x:Option β}(h:pR o f x=some r)(h1:∀a,o=some a→f a=some r→C)(h2:o=none→x=some r→C):C:=by
 cases o with
 |some a=>exact h1 a rfl h
 |none=>exact h2 rfl h
noncomputable def eC0(i:Expr)(f:Option Expr→Option Expr→Option Expr→Option β)(g:Option β):Option β:=bF i g (sli:=f)
theorem sliceOr_some{i:Expr}{f:Option Expr→Option Expr→Option Expr→Option β}{g:Option β}(h:eC0 i f g=some r):
  (∃lo hi st p,i=.Slice lo hi st p∧f lo hi st=some r)∨(∀lo hi st p,i≠ .Slice lo hi st p)∧g=some r:=by
 by_cases hs:∃lo hi st p,i=.Slice lo hi st p
 ·obtain⟨lo,hi,st,p,rfl⟩:=hs;exact .inl ⟨lo,hi,st,p,rfl,h⟩
 ·refine .inr ⟨fun lo hi st p e=>hs ⟨lo,hi,st,p,e⟩,?_⟩
  cases i with
  |Slice=>exact (hs ⟨_,_,_,_,rfl⟩).elim
  |_=>exact h
noncomputable def callee(f:Expr)(x:Str→Option β)(y:Expr→Str→Pos→Option β):Option β:=bF f none (nam:=fun g _=>x g) (att:=y)
theorem qU{P:Expr→Prop}{f:Expr}{x:Str→Option β}{y:Expr→Str→Pos→Option β}(h:callee f x y=some r)(h1:∀g p,x g=some r→P (.Name g p))(h2:∀o m p,y o m p=some r→P (.Attribute o m p)):P f:=by
 cases f with
 |Name g p=>exact h1 g p h
 |Attribute o m p=>exact h2 o m p h
 |_=>exact nos h
noncomputable def isVal(e:Expr):Bool:=bF e true (un:=fun _ _=>false) (ife:=false) (bo:=fun _ _=>false) (cmp:=fun _ _ _=>false)
theorem aB0{e:Expr}(h:isVal e=true)(env:Env):isTrue e env (eval e env)=(do let v ← eval e env;standAt e.pos;holding [v] (truthy v)):=by
 cases e with
 |UnaryOp _ _ _=>cases h
 |BoolOp _ _ _=>cases h
 |IfExp _ _ _ _=>cases h
 |Compare _ _ _ _=>cases h
 |_=>rfl
noncomputable def kF0(e:Expr)(un:UnaryOp→Expr→Option β)(bo:BoolOp→List Expr→Option β)(cm:Expr→List CmpOp→List Expr→Option β):Option β:=bF e none (un:=un) (bo:=bo) (cmp:=cm)
theorem bP0{P:Expr→Prop}{e:Expr}{un:UnaryOp→Expr→Option β}{bo:BoolOp→List Expr→Option β}{cm:Expr→List CmpOp→List Expr→Option β}(h:kF0 e un bo cm=some r)
  (h1:∀op x p,un op x=some r→P (.UnaryOp op x p)) (h2:∀op vs p,bo op vs=some r→P (.BoolOp op vs p)) (h3:∀l ops rs p,cm l ops rs=some r→P (.Compare l ops rs p)):P e:=by
 cases e with
 |UnaryOp op x p=>exact h1 op x p h
 |BoolOp op vs p=>exact h2 op vs p h
 |Compare l ops rs p=>exact h3 l ops rs p h
 |_=>exact nos h
noncomputable def lL0(ops:List CmpOp)(rs:List Expr)(f:CmpOp→Expr→Option β)(g:CmpOp→CmpOp→Expr→Expr→Option β):Option β:=match ops with
 |[op]=>one rs fun r=>f op r
 |[op,op2]=>two rs fun r r2=>g op op2 r r2
 |_=>none
theorem cA0{P:List CmpOp→List Expr→Prop}{ops:List CmpOp}{rs:List Expr}{f:CmpOp→Expr→Option β}{g:CmpOp→CmpOp→Expr→Expr→Option β}(h:lL0 ops rs f g=some r)
  (h1:∀op c,f op c=some r→P [op] [c]) (h2:∀op op2 c d,g op op2 c d=some r→P [op,op2] [c,d]):P ops rs:=by
 cases ops with
 |nil=>exact nos h
 |cons op ops=>cases ops with
  |nil=>obtain⟨c,e,h⟩:=cB h;rw[e];exact h1 op c h
  |cons op2 ops=>cases ops with
   |nil=>obtain⟨c,d,e,h⟩:=eW h;rw[e];exact h2 op op2 c d h
   |cons _ _=>exact nos h
noncomputable def unK(op:UnaryOp)(s t:Option β):Option β:=match op with
 |.USub=>s
 |.Not=>t
 |_=>none
noncomputable def boK(op:BoolOp)(a o:Option β):Option β:=match op with
 |.And=>a
 |.Or=>o
noncomputable def cX0(cx:Cx)(t:Expr)(x:Option β):Option β:=callee t (fun t=>grd (t="list"∧(cx.le.lookup t).isNone∧cx.names.lookup t=some .globalImplicit) x) fun _ _ _=>none
theorem vB{cx:Cx}{t:Expr}{x:Option β}(h:cX0 cx t x=some r):∃p,t=.Name "list" p∧cx.names.lookup ("list":Str)=some .globalImplicit∧x=some r:=
 qU (P:=fun t=>∃p,t=.Name "list" p∧cx.names.lookup ("list":Str)=some .globalImplicit∧x=some r) h (fun _ p h=>⟨p,congrArg (Expr.Name · p) (grd_some h).1.1,(grd_some h).1.1▸(grd_some h).1.2.2,(grd_some h).2⟩) fun _ _ _ h=>nos h
noncomputable def kE0(e:Expr)(c:Str→List Expr→List Keyword→Option β)(pl:Option β):Option β:=bF e pl (call:=fun f args kws=>bF f pl (nam:=fun g _=>c g args kws))
theorem bJ0{P:Expr→Prop}{e:Expr}{c:Str→List Expr→List Keyword→Option β}{pl:Option β}(h:kE0 e c pl=some r)(h1:∀g q args kws p,c g args kws=some r→P (.Call (.Name g q) args kws p))(h2:pl=some r→∀e,P e):P e:=by
 cases e with
 |Call f args kws p=>cases f with
  |Name g q=>exact h1 g q args kws p h
  |_=>exact h2 h _
 |_=>exact h2 h _
noncomputable def iterK(cx:Cx)(e:Expr)(rg en:List Expr→Option β)(pl:Option β):Option β:=kE0 e (fun g args kws=>
 if (g="range"∨g="enumerate"∨g="zip")∧¬ (cx.le.lookup g=none∧cx.names.lookup g=some .globalImplicit∧kws=[]) then none
   else if g="range" then rg args
   else if g="enumerate" then en args
   else if g="zip" then none
   else pl) pl
theorem iterK_some{cx:Cx}{e:Expr}{rg en:List Expr→Option β}{pl:Option β}(h:iterK cx e rg en pl=some r):
  (∃args p pos,e=.Call (.Name "range" p) args [] pos∧cx.names.lookup ("range":Str)=some .globalImplicit∧rg args=some r)∨
  (∃args p pos,e=.Call (.Name "enumerate" p) args [] pos∧cx.names.lookup ("enumerate":Str)=some .globalImplicit∧en args=some r)∨pl=some r:=
 bJ0 (P:=fun e=>(∃args p pos,e=.Call (.Name "range" p) args [] pos∧cx.names.lookup ("range":Str)=some .globalImplicit∧rg args=some r)∨
  (∃args p pos,e=.Call (.Name "enumerate" p) args [] pos∧cx.names.lookup ("enumerate":Str)=some .globalImplicit∧en args=some r)∨pl=some r) h (fun g q args kws p h=>by
   obtain⟨hg,h1⟩:=bQ h
   rcases ite_some h1 with⟨e,h2⟩ | ⟨_,h2⟩
   ·obtain⟨_,hk,e'⟩:=Classical.not_not.mp fun hn=>hg ⟨.inl e,hn⟩
    rw[e,e']
    exact .inl ⟨_,_,_,rfl,e▸hk,h2⟩
   rcases ite_some h2 with⟨e,h3⟩ | ⟨_,h3⟩
   ·obtain⟨_,hk,e'⟩:=Classical.not_not.mp fun hn=>hg ⟨.inr (.inl e),hn⟩
    rw[e,e']
    exact .inr (.inl ⟨_,_,_,rfl,e▸hk,h3⟩)
   exact .inr (.inr (bQ h3).2)) fun h _=>.inr (.inr h)
end
section
variable {β:Type}
mutual
noncomputable def evK(G:Gl):Nat→Cx→Sto→Expr→(PV→Sto→Option β)→Option β
 |0,_,_,_,_=>none
 |n+1,cx,σ,e,k=>match e with
  |.Constant c _ _=>opt (iL0 c) fun v=>k v σ
  |.Name x _=>nameK G cx x fun v=>k v σ
  |.BinOp l op r _=>evK G n cx σ l fun a σ₁=>evK G n cx σ₁ r fun b σ₂=>aV op a b σ₂ k
  |.UnaryOp op x _=>unK op (evK G n cx σ x fun v σ₁=>bS v fun i=>k (.int (-i)) σ₁) (evK G n cx σ x fun v σ₁=>qP v fun t=>k (.bool (!t)) σ₁)
  |.IfExp t a b _=>dH G n cx σ t fun c σ₁=>onB c (evK G n cx σ₁ a k) (evK G n cx σ₁ b k)
  |.BoolOp op vs _=>two vs fun x y=>evK G n cx σ x fun v σ₁=>qP v fun t=>boK op (onB t (evK G n cx σ₁ y k) (k v σ₁)) (onB t (k v σ₁) (evK G n cx σ₁ y k))
  |.Compare l ops rs _=>one ops fun op=>one rs fun r=>onB (behindInMarks op r) none (pR (uL G cx op r)
    (fun S=>evK G n cx σ l fun v σ₁=>bS v fun i=>k (.bool (S i)) σ₁)
    (evK G n cx σ l fun a σ₁=>evK G n cx σ₁ r fun b σ₂=>eD op σ₂ a b fun t=>k (.bool t) σ₂))
  |.Tuple es _ _=>grd (es.length≤1000) (uS G n cx σ es fun vs σ₁=>k (.tup vs) σ₁)
  |.List es _=>grd (es.length≤1000) (uS G n cx σ es fun vs σ₁=>k (.lst σ₁.length) (σ₁++[⟨0,.lst vs⟩]))
  |.Dict ks vs _=>pU ks (pU vs (k (.lst σ.length) (σ++[⟨0,.dct []⟩])))
  |.Subscript v i _=>eC0 i (fun lo hi st=>evK G n cx σ v fun a σ₁=>evOK G n cx σ₁ lo fun l σ₂=>evOK G n cx σ₂ hi fun h σ₃=>evOK G n cx σ₃ st fun j σ₄=>sliK a l h j σ₄ k)
   (evK G n cx σ v fun a σ₁=>evK G n cx σ₁ i fun j σ₂=>bT a j σ₂ fun v=>k v σ₂)
  |.Call f args kws pos=>pU kws (callee f
    (fun g=>globK cx g (if g="isinstance" then two args fun a t=>cX0 cx t (evK G n cx σ a fun v σ₁=>eS v fun i=>opt (bM σ₁ i) fun _=>k (.bool true) σ₁)
     else uS G n cx σ args fun vs σ₁=>pR (G.fn g) (fun F=>aR (F vs σ₁) k) (cQ G g vs σ₁ k)))
    fun o m apos=>grd ((apos.endLine==pos.line)=true∧uI o=true∧args.length < 10) (pR (dA0 G cx o m)
     (fun T=>uS G n cx σ args fun vs σ₁=>one vs fun v=>bS v fun i=>pR (T i) (fun x=>k (.str x) σ₁) (k .none σ₁))
     (evK G n cx σ o fun a σ₁=>uS G n cx σ₁ args fun vs σ₂=>grd (aK σ₁ a=aK σ₂ a∧aI σ₁ a=true) (aU G a m vs σ₂ k))))
  |.ListComp elt gens scope _=>one gens fun g=>grd (g.is_async=0∧fD cx scope=true∧cP g.iter g.target=true) (bP G n cx σ g.iter fun items w σ₁=>cN G n ⟨scope.names,capt cx scope.names⟩ σ₁ elt g.target g.ifs w items fun vs σ₂=>grd (vs.length≤100000) (k (.lst σ₂.length) (σ₂++[⟨0,.lst vs⟩])))
  |.Attribute _ _ _=>none
  |.Slice _ _ _ _=>none
  |_=>none
noncomputable def evOK(G:Gl):Nat→Cx→Sto→Option Expr→(Option Int→Sto→Option β)→Option β
 |0,_,_,_,_=>none
 |n+1,cx,σ,e,k=>match e with
  |none=>k none σ
  |some x=>evK G n cx σ x fun v σ₁=>match v with
   |.none=>k none σ₁
   |.int i=>k (some i) σ₁
   |_=>none
noncomputable def uS(G:Gl):Nat→Cx→Sto→List Expr→(List PV→Sto→Option β)→Option β
 |0,_,_,_,_=>none
 |n+1,cx,σ,es,k=>match es with
  |[]=>k [] σ
  |e::es=>evK G n cx σ e fun v σ₁=>uS G n cx σ₁ es fun vs σ₂=>k (v::vs) σ₂
noncomputable def dH(G:Gl):Nat→Cx→Sto→Expr→(Bool→Sto→Option β)→Option β
 |0,_,_,_,_=>none
 |n+1,cx,σ,e,k=>onB (isVal e) (evK G n cx σ e fun v σ₁=>qP v fun t=>k t σ₁) (kF0 e
  (fun op x=>unK op none (dH G n cx σ x fun b σ₁=>k (!b) σ₁))
  (fun op vs=>rB G n cx σ op vs k)
  fun l ops rs=>lL0 ops rs
   (fun op r=>onB (behindInMarks op r) none (evK G n cx σ l fun a σ₁=>evK G n cx σ₁ r fun b σ₂=>eD op σ₂ a b fun t=>k t σ₂))
   fun op op2 r r2=>onB (behindInMarks op2 r2) none (evK G n cx σ l fun a σ₁=>evK G n cx σ₁ r fun b σ₂=>eD op σ₂ a b fun t=>onB t (evK G n cx σ₂ r2 fun c σ₃=>eD op2 σ₃ b c fun t=>k t σ₃) (k false σ₂)))
noncomputable def rB(G:Gl):Nat→Cx→Sto→BoolOp→List Expr→(Bool→Sto→Option β)→Option β
 |0,_,_,_,_,_=>none
 |n+1,cx,σ,op,es,k=>match es with
  |[]=>boK op (k true σ) (k false σ)
  |e::es=>dH G n cx σ e fun b σ₁=>boK op (onB b (rB G n cx σ₁ op es k) (k false σ₁)) (onB b (k true σ₁) (rB G n cx σ₁ op es k))
noncomputable def bP(G:Gl):Nat→Cx→Sto→Expr→(List PV→Option (Nat×Nat)→Sto→Option β)→Option β
 |0,_,_,_,_=>none
 |n+1,cx,σ,e,k=>iterK cx e
  (fun args=>uS G n cx σ args fun vs σ₁=>opt (mO vs) fun a=>opt (ranged a.1 a.2.1 a.2.2) fun l=>k l none σ₁)
  (fun args=>uS G n cx σ args fun vs σ₁=>one vs fun v=>xK v fun xs=>k (enumed 0 xs) none σ₁)
  (evK G n cx σ e fun v σ₁=>match itV v σ₁ with
   |some (items,w,σ₂)=>k items w σ₂
   |none=>none)
noncomputable def cN(G:Gl):Nat→Cx→Sto→Expr→Expr→List Expr→Option (Nat×Nat)→List PV→(List PV→Sto→Option β)→Option β
 |0,_,_,_,_,_,_,_,_=>none
 |n+1,cx,σ,elt,tgt,ifs,w,items,k=>onB (watch σ w) (match items with
   |[]=>k [] σ
   |v::rest=>opt (aH cx tgt v) fun cx'=>rB G n cx' σ .And ifs fun b σ₁=>onB b
     (evK G n cx' σ₁ elt fun x σ₂=>cN G n cx' σ₂ elt tgt ifs w rest fun xs σ₃=>k (x::xs) σ₃)
     (cN G n cx' σ₁ elt tgt ifs w rest k)) none
end
noncomputable def onFl(fl:Fl)(x y:Option β)(z:PV→Option β):Option β:=match fl with
 |.nxt=>x
 |.brk=>y
 |.ret v=>z v
noncomputable def delK(ts:List Expr)(f:Expr→Expr→Option β):Option β:=one ts fun t=>bF t none (sub:=f)
mutual
noncomputable def exK(G:Gl):Nat→Cx→Sto→Stmt→(Fl→Cx→Sto→Option β)→Option β
 |0,_,_,_,_=>none
 |n+1,cx,σ,st,k=>match st with
  |.Assign ts v _=>one ts fun t=>onB (oZ t v) (evK G n cx σ v fun x σ₁=>opt (aH cx t x) fun cx'=>k .nxt cx' σ₁) none
  |.AugAssign t op v _=>bF t none (nam:=fun x _=>opt (cx.le.lookup x) fun a=>evK G n cx σ v fun b σ₁=>augK op a b fun v=>opt (gH cx x v) fun cx'=>k .nxt cx' σ₁)
  |.If t a b _=>dH G n cx σ t fun c σ₁=>onB c (cC G n cx σ₁ a k) (cC G n cx σ₁ b k)
  |.Return v _=>opt v fun e=>evK G n cx σ e fun r σ₁=>k (.ret r) cx σ₁
  |.Expr e _=>bF e none (call:=fun _ _ _=>evK G n cx σ e fun _ σ₁=>k .nxt cx σ₁)
  |.Assert t m _=>match m with
   |none=>dH G n cx σ t fun c σ₁=>onB c (k .nxt cx σ₁) none
   |some _=>none
  |.Break _=>k .brk cx σ
  |.Delete ts _=>delK ts fun l j=>evK G n cx σ l fun a σ₁=>eS a fun i=>evK G n cx σ₁ j fun b σ₂=>bS b fun j=>opt (bM σ₂ i) fun xs=>grd (¬ 10000 < xs.length) (opt (seqIndex? j xs.length) fun p=>k .nxt cx (aC σ₂ i (.lst (xs.eraseIdx p))))
  |.For t it body els _=>pU els (onB (cP it t) (bP G n cx σ it fun items w σ₁=>dZ G n cx σ₁ t body w items k) none)
  |.While t body els _=>pU els (rE G n cx σ t body k)
  |.FunctionDef _ _ _ _ _ _ _ _ _ _=>none
  |.ClassDef _ _ _ _ _ _ _ _ _ _ _=>none
  |_=>none
noncomputable def cC(G:Gl):Nat→Cx→Sto→List Stmt→(Fl→Cx→Sto→Option β)→Option β
 |0,_,_,_,_=>none
 |n+1,cx,σ,sts,k=>match sts with
  |[]=>k .nxt cx σ
  |st::rest=>exK G n cx σ st fun fl cx' σ₁=>match fl with
   |.nxt=>cC G n cx' σ₁ rest k
   |.brk=>k .brk cx' σ₁
   |.ret v=>k (.ret v) cx' σ₁
noncomputable def dZ(G:Gl):Nat→Cx→Sto→Expr→List Stmt→Option (Nat×Nat)→List PV→(Fl→Cx→Sto→Option β)→Option β
 |0,_,_,_,_,_,_,_=>none
 |n+1,cx,σ,t,body,w,items,k=>onB (watch σ w) (match items with
   |[]=>k .nxt cx σ
   |v::rest=>opt (aH cx t v) fun cx'=>cC G n cx' σ body fun fl cx'' σ₁=>match fl with
     |.nxt=>dZ G n cx'' σ₁ t body w rest k
     |.brk=>k .nxt cx'' σ₁
     |.ret r=>k (.ret r) cx'' σ₁) none
noncomputable def rE(G:Gl):Nat→Cx→Sto→Expr→List Stmt→(Fl→Cx→Sto→Option β)→Option β
 |0,_,_,_,_,_=>none
 |n+1,cx,σ,t,body,k=>dH G n cx σ t fun c σ₁=>onB c
  (cC G n cx σ₁ body fun fl cx' σ₂=>match fl with
   |.nxt=>rE G n cx' σ₂ t body k
   |.brk=>k .nxt cx' σ₂
   |.ret r=>k (.ret r) cx' σ₂) (k .nxt cx σ₁)
end
noncomputable def endFl(fl:Fl)(_:Cx)(σ':Sto):Option (PV×Sto):=match fl with
 |.ret v=>some (v,σ')
 |.nxt=>some (.none,σ')
 |.brk=>none
noncomputable def runK(G:Gl)(n:Nat)(names:List (Str×NameKind))(params:List Str)(body:List Stmt)(args:List PV)(σ:Sto):Option (PV×Sto):=
 grd (args.length=params.length) (cC G n ⟨names,params.zip args⟩ σ body fun fl _ σ'=>match fl with
  |.ret v=>some (v,σ')
  |.nxt=>some (.none,σ')
  |.brk=>none)
end
noncomputable def Framy(o:Obj):Prop:=(∃es ep,o.data=.dict es ep)∨∃v,o.data=.cell v
structure Bs where
 prog:Program
 w:World
 h₀:Heap
 Tb:List Addr
 os:OsState
 inv:Heap→Prop
 cls:Addr
mutual
noncomputable def VR(B:Bs)(ρ:List Addr)(h:Heap):PV→Value→Prop
 |.none,v=>v=.none
 |.bool b,v=>v=.bool b
 |.int i,v=>∃t,v=.int i t
 |.str x,v=>∃t,v=.str x t
 |.tup xs,v=>∃a vs,v=.ref a∧a∉ρ∧a∉B.Tb∧h.IsTuple a vs∧VRs B ρ h xs vs.toList
 |.lst i,v=>∃a,v=.ref a∧ρ[i]?=some a
noncomputable def VRs(B:Bs)(ρ:List Addr)(h:Heap):List PV→List Value→Prop
 |[],vs=>vs=[]
 |x::xs,vs=>∃v r,vs=v::r∧VR B ρ h x v∧VRs B ρ h xs r
end
noncomputable def LR(B:Bs)(ρ:List Addr)(h:Heap)(kvs:List (Str×PV))(f:Str→Option Value):Prop:=
 ∀x,match kvs.lookup x with
  |some pv=>∃v,f x=some v∧VR B ρ h pv v
  |none=>f x=none
noncomputable def CR(B:Bs)(ρ:List Addr)(h:Heap)(a:Addr):CD→Prop
 |.lst xs=>∃vs:List Value,h.PlainList a vs.toArray∧VRs B ρ h xs vs
 |.acc di xs=>∃(vs:List Value) (n:Nat) (D:Addr),h.get? a=some { cls:=.ref B.cls,data:=.seq vs.toArray n,dict:=some D }∧VRs B ρ h xs vs∧ρ[di]?=some D
 |.dct kvs=>∃us:List (Str×Value),h.DictOf (strKind B.prog B.w) a us∧us.map (·.1)=kvs.map (·.1)∧VRs B ρ h (kvs.map (·.2)) (us.map (·.2))
 |.ins kvs=>∃m,h.Ns a m∧LR B ρ h kvs m
 |.hid=>∃u v,h.get? a=some { cls:=.type "tuple",data:=.seq #[u,v] }
structure Kp (B:Bs) (X ρ:List Addr) (h h':Heap):Prop where
 live:∀a o,h.get? a=some o→∃o',h'.get? a=some o'
 keep:∀a o,h.get? a=some o→a∉ρ→a∉B.Tb→(a∈X→¬ Framy o)→h'.get? a=some o
structure St (B:Bs) (ρ:List Addr) (σ:Sto) (s:Shared):Prop where
 os:s.os=B.os
 gens:AllBare s.gens
 base:∀a o,B.h₀.get? a=some o→a∉B.Tb→s.heap.get? a=some o
 len:ρ.length=σ.length
 nodup:ρ.Nodup
 fresh:∀a∈ρ,B.h₀.get? a=none
 off:∀a∈ρ,a∉B.Tb
 cells:∀(i:Nat) (c:Cell) (a:Addr),σ[i]?=some c→ρ[i]?=some a→CR B ρ s.heap a c.d
 inv:B.inv s.heap
structure Evo (B:Bs) (X ρ:List Addr) (σ:Sto) (h:Heap) (ρ':List Addr) (σ':Sto) (h':Heap):Prop where
 kp:Kp B X ρ h h'
 pre:∃r,ρ'=ρ++r∧∀a∈r,h.get? a=none
 ver:∀(i:Nat) (c:Cell),σ[i]?=some c→∃c':Cell,σ'[i]?=some c'∧c.ver≤c'.ver∧(c.ver=c'.ver→c'.d=c.d∧∀a,ρ[i]?=some a→∀o,h.get? a=some o→h'.get? a=some o)
structure BsOk (B:Bs):Prop where
 tb:∀h,B.inv h→∀a∈B.Tb,∃o,h.get? a=some o
 lim:B.h₀.NoLimit
 stat:cStatics∉B.Tb
 inv:∀h h',B.inv h→(∀a∈B.Tb,∀o,h.get? a=some o→h'.get? a=some o)→(∀a o vs,h.get? a=some o→o.cls=.type "code"→o.data=.fields vs→h'.get? a=some o)→B.inv h'
theorem Kp.refl(B:Bs)(X ρ:List Addr)(h:Heap):Kp B X ρ h h:=⟨fun _ o e=>⟨o,e⟩,fun _ _ e _ _ _=>e⟩
theorem Evo.refl(B:Bs)(X ρ:List Addr)(σ:Sto)(h:Heap):Evo B X ρ σ h ρ σ h:=
 ⟨.refl ..,⟨[],by simp,by simp⟩,fun _ c hc=>⟨c,hc,Nat.le_refl _,fun _=>⟨rfl,fun _ _ _ e=>e⟩⟩⟩
theorem Evo.notin{B:Bs}{X ρ:List Addr}{σ:Sto}{h:Heap}{ρ':List Addr}{σ':Sto}{h':Heap}(e:Evo B X ρ σ h ρ' σ' h'){a:Addr}{o:Obj}(ha:a∉ρ)(hl:h.get? a=some o):a∉ρ':=by
 obtain⟨r,rfl,hr⟩:=e.pre
 intro hm
 rcases List.mem_append.mp hm with hm | hm
 ·exact ha hm
 ·rw[hr a hm]at hl;cases hl
theorem Evo.at{B:Bs}{X ρ:List Addr}{σ:Sto}{h:Heap}{ρ':List Addr}{σ':Sto}{h':Heap}(e:Evo B X ρ σ h ρ' σ' h'){i:Nat}{a:Addr}(ha:ρ[i]?=some a):ρ'[i]?=some a:=by
 obtain⟨r,rfl,_⟩:=e.pre
 rw[List.getElem?_append_left (List.getElem?_eq_some_iff.mp ha).1];exact ha
theorem Evo.trans{B:Bs}{X ρ:List Addr}{σ:Sto}{h:Heap}{ρ':List Addr}{σ':Sto}{h':Heap}{ρ'':List Addr}{σ'':Sto}{h'':Heap}
  (e:Evo B X ρ σ h ρ' σ' h') (f:Evo B X ρ' σ' h' ρ'' σ'' h''):Evo B X ρ σ h ρ'' σ'' h'':=by
 refine⟨⟨fun a o ho=>let ⟨o',ho'⟩:=e.kp.live a o ho;f.kp.live a o' ho',fun a o he ha ht hx=>f.kp.keep a o (e.kp.keep a o he ha ht hx) (e.notin ha he) ht hx⟩,?_,fun i c hc=>?_⟩
 ·obtain⟨r,rfl,hr⟩:=e.pre
  obtain⟨r',rfl,hr'⟩:=f.pre
  exact⟨r++r',by simp,fun a ha=>by
   rcases List.mem_append.mp ha with ha | ha
   ·exact hr a ha
   ·cases hg:h.get? a with
    |none=>rfl
    |some o=>obtain⟨o',ho'⟩:=e.kp.live a o hg;rw[hr' a ha]at ho';cases ho'⟩
 ·obtain⟨c',hc',hle,hsame⟩:=e.ver i c hc
  obtain⟨c'',hc'',hle',hsame'⟩:=f.ver i c' hc'
  refine⟨c'',hc'',Nat.le_trans hle hle',fun hv=>?_⟩
  have h1:c.ver=c'.ver:=Nat.le_antisymm hle (hv▸hle')
  have h2:c'.ver=c''.ver:=h1▸hv
  obtain⟨d1,k1⟩:=hsame h1
  obtain⟨d2,k2⟩:=hsame' h2
  exact⟨d2.trans d1,fun a ha o ho=>k2 a (e.at ha) o (k1 a ha o ho)⟩
theorem Evo.weak{B:Bs}{X ρ:List Addr}{σ:Sto}{h:Heap}{ρ':List Addr}{σ':Sto}{h':Heap}(e:Evo B [] ρ σ h ρ' σ' h'):Evo B X ρ σ h ρ' σ' h':=
 ⟨⟨e.kp.live,fun a o he ha ht _=>e.kp.keep a o he ha ht (by simp)⟩,e.pre,e.ver⟩
theorem Evo.forget{B:Bs}{X ρ:List Addr}{σ:Sto}{h:Heap}{ρ':List Addr}{σ':Sto}{h':Heap}(e:Evo B X ρ σ h ρ' σ' h')(hX:∀a∈X,h.get? a=none):Evo B [] ρ σ h ρ' σ' h':=
 ⟨⟨e.kp.live,fun a o he ha ht _=>e.kp.keep a o he ha ht fun hx=>by rw[hX a hx]at he;cases he⟩,e.pre,e.ver⟩
theorem fN{o:Obj}{vs n}(h:o.data=.seq vs n):¬ Framy o:=by
 rintro (⟨es,ep,e⟩ | ⟨v,e⟩)<;>rw[h]at e<;>cases e
theorem cD{o:Obj}{vs}(h:o.data=.fields vs):¬ Framy o:=by
 rintro (⟨es,ep,e⟩ | ⟨v,e⟩)<;>rw[h]at e<;>cases e
structure Vk (B:Bs) (ρ:List Addr) (h:Heap) (ρ':List Addr) (h':Heap):Prop where
 at_:∀(i:Nat) (a:Addr),ρ[i]?=some a→ρ'[i]?=some a
 tup:∀a o vs n,h.get? a=some o→o.cls=.type "tuple"→o.data=.seq vs n→a∉ρ→a∉B.Tb→h'.get? a=some o∧a∉ρ'
theorem Evo.vk{B:Bs}{X ρ:List Addr}{σ:Sto}{h:Heap}{ρ':List Addr}{σ':Sto}{h':Heap}(e:Evo B X ρ σ h ρ' σ' h'):Vk B ρ h ρ' h':=
 ⟨fun _ _ ha=>e.at ha,fun a o _ _ ho _ hd h1 h2=>⟨e.kp.keep a o ho h1 h2 fun _=>fN hd,e.notin h1 ho⟩⟩
mutual
theorem VR.vk{B:Bs}{ρ:List Addr}{h:Heap}{ρ':List Addr}{h':Heap}(e:Vk B ρ h ρ' h'):∀(x:PV) {v:Value},VR B ρ h x v→VR B ρ' h' x v
 |.none,_,r=>r
 |.bool _,_,r=>r
 |.int _,_,r=>r
 |.str _,_,r=>r
 |.tup xs,v,r=>by
  obtain⟨a,vs,rfl,h1,h2,⟨o,ho,hc,n,hd⟩,hr⟩:=r
  obtain⟨k1,k2⟩:=e.tup a o vs n ho hc hd h1 h2
  exact⟨a,vs,rfl,k2,h2,⟨o,k1,hc,n,hd⟩,VRs.vk e xs hr⟩
 |.lst i,v,r=>by
  obtain⟨a,rfl,ha⟩:=r
  exact⟨a,rfl,e.at_ i a ha⟩
theorem VRs.vk{B:Bs}{ρ:List Addr}{h:Heap}{ρ':List Addr}{h':Heap}(e:Vk B ρ h ρ' h'):∀(xs:List PV) {vs:List Value},VRs B ρ h xs vs→VRs B ρ' h' xs vs
 |[],_,r=>r
 |x::xs,vs,r=>by
  obtain⟨v,t,rfl,h1,h2⟩:=r
  exact⟨v,t,rfl,VR.vk e x h1,VRs.vk e xs h2⟩
end
theorem VRs.length{B:Bs}{ρ:List Addr}{h:Heap}:∀{xs:List PV} {vs:List Value},VRs B ρ h xs vs→vs.length=xs.length
 |[],_,r=>by rw[show _=[]from r];rfl
 |x::xs,vs,r=>by obtain⟨v,t,rfl,_,h2⟩:=r;simp[VRs.length h2]
theorem VRs.get{B:Bs}{ρ:List Addr}{h:Heap}:∀{xs:List PV} {vs:List Value} {i:Nat} {x:PV},VRs B ρ h xs vs→xs[i]?=some x→∃v,vs[i]?=some v∧VR B ρ h x v
 |x::xs,vs,0,_,r,e=>by obtain⟨v,t,rfl,h1,_⟩:=r;simp at e;subst e;exact⟨v,rfl,h1⟩
 |x::xs,vs,i+1,y,r,e=>by obtain⟨v,t,rfl,_,h2⟩:=r;simp at e ⊢;exact VRs.get h2 e
theorem VRs.append{B:Bs}{ρ:List Addr}{h:Heap}:∀{xs ys:List PV} {vs us:List Value},VRs B ρ h xs vs→VRs B ρ h ys us→VRs B ρ h (xs++ys) (vs++us)
 |[],_,_,_,r,q=>by rw[show _=[]from r];exact q
 |x::xs,ys,vs,us,r,q=>by obtain⟨v,t,rfl,h1,h2⟩:=r;exact⟨v,t++us,rfl,h1,VRs.append h2 q⟩
theorem LR.vk{B:Bs}{ρ:List Addr}{h:Heap}{ρ':List Addr}{h':Heap}(e:Vk B ρ h ρ' h'){kvs:List (Str×PV)}{f:Str→Option Value}(r:LR B ρ h kvs f):LR B ρ' h' kvs f:=fun x=>by
 have:=r x
 cases hx:kvs.lookup x with
 |none=>rw[hx]at this;exact this
 |some pv=>
  rw[hx]at this
  obtain⟨v,h1,h2⟩:=this
  exact⟨v,h1,VR.vk e pv h2⟩
theorem CR.vk{B:Bs}{ρ:List Addr}{h:Heap}{ρ':List Addr}{h':Heap}(e:Vk B ρ h ρ' h'){a:Addr}(d:CD)
  (hk:∀o,h.get? a=some o→h'.get? a=some o) (r:CR B ρ h a d):CR B ρ' h' a d:=by
 cases d with
 |lst xs=>obtain⟨vs,⟨n,ho⟩,hr⟩:=r;exact⟨vs,⟨n,hk _ ho⟩,VRs.vk e xs hr⟩
 |acc di xs=>
  obtain⟨vs,n,D,ho,hr,h1⟩:=r
  exact⟨vs,n,D,hk _ ho,VRs.vk e xs hr,e.at_ _ _ h1⟩
 |dct kvs=>
  obtain⟨us,⟨o,es,ep,ho,hr⟩,hz,hf⟩:=r
  exact⟨us,⟨o,es,ep,hk _ ho,hr⟩,hz,VRs.vk e _ hf⟩
 |ins kvs=>
  obtain⟨m,⟨o,es,ep,ho,hr⟩,hf⟩:=r
  exact⟨m,⟨o,es,ep,hk _ ho,hr⟩,hf.vk e⟩
 |hid=>
  obtain⟨u,v,ho⟩:=r
  exact⟨u,v,hk _ ho⟩
theorem VR.evo{B:Bs}{X ρ:List Addr}{σ:Sto}{h:Heap}{ρ':List Addr}{σ':Sto}{h':Heap}(e:Evo B X ρ σ h ρ' σ' h')(x:PV){v:Value}(r:VR B ρ h x v):VR B ρ' h' x v:=VR.vk e.vk x r
theorem VRs.evo{B:Bs}{X ρ:List Addr}{σ:Sto}{h:Heap}{ρ':List Addr}{σ':Sto}{h':Heap}(e:Evo B X ρ σ h ρ' σ' h')(x:List PV){v:List Value}(r:VRs B ρ h x v):VRs B ρ' h' x v:=VRs.vk e.vk x r
theorem get?_size(h:Heap):h.get? h.objs.size=none:=by
 cases e:h.get? h.objs.size with
 |none=>rfl
 |some o=>exact absurd (Heap.lt_size e) (Nat.lt_irrefl _)
theorem St.alive{B:Bs}{ρ:List Addr}{σ:Sto}{s:Shared}(x:St B ρ σ s){a:Addr}(ha:a∈ρ):∃o,s.heap.get? a=some o:=by
 obtain⟨i,hi,rfl⟩:=List.mem_iff_getElem.mp ha
 have hs:i < σ.length:=x.len▸hi
 have:=x.cells i σ[i] ρ[i] (List.getElem?_eq_getElem hs) (List.getElem?_eq_getElem hi)
 cases hd:σ[i].d with
 |lst xs=>rw[hd]at this;obtain⟨vs,⟨n,ho⟩,_⟩:=this;exact⟨_,ho⟩
 |acc k xs=>rw[hd]at this;obtain⟨vs,n,D,ho,_⟩:=this;exact⟨_,ho⟩
 |dct kvs=>rw[hd]at this;obtain⟨f,⟨o,es,ep,ho,_⟩,_⟩:=this;exact⟨_,ho⟩
 |ins kvs=>rw[hd]at this;obtain⟨f,⟨o,es,ep,ho,_⟩,_⟩:=this;exact⟨_,ho⟩
 |hid=>rw[hd]at this;obtain⟨u,v,ho⟩:=this;exact⟨_,ho⟩
theorem St.notFields{B:Bs}{ρ:List Addr}{σ:Sto}{s:Shared}(x:St B ρ σ s){a:Addr}(ha:a∈ρ){o:Obj}{vs}(ho:s.heap.get? a=some o):o.data≠ .fields vs:=by
 obtain⟨i,hi,rfl⟩:=List.mem_iff_getElem.mp ha
 have hs:i < σ.length:=x.len▸hi
 have:=x.cells i σ[i] ρ[i] (List.getElem?_eq_getElem hs) (List.getElem?_eq_getElem hi)
 intro hf
 cases hd:σ[i].d with
 |lst xs=>rw[hd]at this;obtain⟨vs,⟨n,ho'⟩,_⟩:=this;rw[ho]at ho';cases ho';cases hf
 |acc k xs=>rw[hd]at this;obtain⟨vs,n,D,ho',_⟩:=this;rw[ho]at ho';cases ho';cases hf
 |dct kvs=>rw[hd]at this;obtain⟨f,⟨o',es,ep,ho',_,hd',_⟩,_⟩:=this;rw[ho]at ho';cases ho';rw[hf]at hd';cases hd'
 |ins kvs=>rw[hd]at this;obtain⟨f,⟨o',es,ep,ho',hd',_⟩,_⟩:=this;rw[ho]at ho';cases ho';rw[hf]at hd';cases hd'
 |hid=>rw[hd]at this;obtain⟨u,v,ho'⟩:=this;rw[ho]at ho';cases ho';cases hf
theorem St.step{B:Bs}(ok:BsOk B){X ρ:List Addr}{σ:Sto}{s s':Shared}(x:St B ρ σ s)(hos:s'.os=s.os)(hg:AllBare s'.gens)
  (hX:∀a∈X,a∉ρ∧a∉B.Tb∧B.h₀.get? a=none) (hfr:∀a∈X,∀o,s.heap.get? a=some o→Framy o∧∃o',s'.heap.get? a=some o')
  (hk:∀a o,a∉X→s.heap.get? a=some o→s'.heap.get? a=some o):St B ρ σ s'∧Evo B X ρ σ s.heap ρ σ s'.heap:=by
 have kpt:Kp B X ρ s.heap s'.heap:=⟨fun a o ho=>by
   by_cases ha:a∈X
   ·exact (hfr a ha o ho).2
   ·exact⟨o,hk a o ha ho⟩,fun a o ho _ _ hf=>by
   by_cases ha:a∈X
   ·exact absurd (hfr a ha o ho).1 (hf ha)
   ·exact hk a o ha ho⟩
 have ev:Evo B X ρ σ s.heap ρ σ s'.heap:=⟨kpt,⟨[],by simp,by simp⟩,fun i c hc=>⟨c,hc,Nat.le_refl _,fun _=>⟨rfl,fun a ha o ho=>hk a o (fun hx=>(hX a hx).1 (List.mem_of_getElem? ha)) ho⟩⟩⟩
 refine⟨⟨hos.trans x.os,hg,fun a o ho ht=>?_,x.len,x.nodup,x.fresh,x.off,fun i c a hc ha=>?_,?_⟩,ev⟩
 ·exact hk a o (fun hx=>by rw[(hX a hx).2.2]at ho;cases ho) (x.base a o ho ht)
 ·exact CR.vk ev.vk c.d (fun o ho=>hk a o (fun hx=>(hX a hx).1 (List.mem_of_getElem? ha)) ho) (x.cells i c a hc ha)
 ·exact ok.inv _ _ x.inv (fun a ha o ho=>hk a o (fun hx=>(hX a hx).2.1 ha) ho) fun a o vs ho _ hd=>by
   by_cases ha:a∈X
   ·exact absurd (hfr a ha o ho).1 (cD hd)
   ·exact hk a o ha ho
theorem St.grow{B:Bs}(ok:BsOk B){ρ:List Addr}{σ:Sto}{s s':Shared}(x:St B ρ σ s)(hos:s'.os=s.os)(hg:AllBare s'.gens)
  (hk:∀a o,s.heap.get? a=some o→s'.heap.get? a=some o):St B ρ σ s'∧Evo B [] ρ σ s.heap ρ σ s'.heap:=
 x.step ok (X:=[]) hos hg (by simp) (by simp) fun a o _=>hk a o
theorem St.alter{B:Bs}(ok:BsOk B){wr ρ:List Addr}{σ:Sto}{s:Shared}(x:St B ρ σ s){h':Heap}{tk:Nat}(hwr:∀a∈wr,a∉ρ∧a∉B.Tb∧B.h₀.get? a=none∧∀o,s.heap.get? a=some o→(o.cls=.type "tuple"→∀vs n,o.data≠ .seq vs n)∧(o.cls=.type "code"→∀vs,o.data≠ .fields vs))
  (hk:∀b o,b∉wr→s.heap.get? b=some o→h'.get? b=some o):St B ρ σ { s with heap:=h',toks:=tk }∧Vk B ρ s.heap ρ h':=by
 have vk:Vk B ρ s.heap ρ h':=⟨fun _ _ e=>e,fun a o vs n ho hc hd h1 _=>⟨hk a o (fun hm=>((hwr a hm).2.2.2 o ho).1 hc vs n hd) ho,h1⟩⟩
 refine⟨⟨x.os,x.gens,fun a o ho ht=>hk a o (fun hm=>?_) (x.base a o ho ht),x.len,x.nodup,x.fresh,x.off,fun i c a hc ha=>?_,?_⟩,vk⟩
 ·rw[(hwr a hm).2.2.1]at ho;cases ho
 ·exact CR.vk vk c.d (fun o ho=>hk a o (fun hm=>(hwr a hm).1 (List.mem_of_getElem? ha)) ho) (x.cells i c a hc ha)
 ·exact ok.inv _ _ x.inv (fun a ha o ho=>hk a o (fun hm=>(hwr a hm).2.1 ha) ho) fun a o vs ho hc hd=>hk a o (fun hm=>((hwr a hm).2.2.2 o ho).2 hc vs hd) ho
theorem Evo.alter{B:Bs}{X wr ρ:List Addr}{σ:Sto}{h:Heap}{ρ':List Addr}{σ':Sto}{h' h'':Heap}(e:Evo B X ρ σ h ρ' σ' h')(hwr:∀a∈wr,h.get? a=none)
  (hk:∀b o,b∉wr→h'.get? b=some o→h''.get? b=some o):Evo B X ρ σ h ρ' σ' h'':=by
 have hn:∀{a o},h.get? a=some o→a∉wr:=fun ho hm=>by rw[hwr _ hm]at ho;cases ho
 refine⟨⟨fun a o ho=>?_,fun a o ho h1 h2 h3=>hk a o (hn ho) (e.kp.keep a o ho h1 h2 h3)⟩,e.pre,fun i c hc=>?_⟩
 ·obtain⟨o',ho'⟩:=e.kp.live a o ho
  exact⟨o',hk a o' (hn ho) ho'⟩
 ·obtain⟨c',h1,h2,h3⟩:=e.ver i c hc
  exact⟨c',h1,h2,fun hv=>⟨(h3 hv).1,fun a ha o ho=>hk a o (hn ho) ((h3 hv).2 a ha o ho)⟩⟩
theorem St.new{B:Bs}(ok:BsOk B){ρ:List Addr}{σ:Sto}{s:Shared}(x:St B ρ σ s){s':Shared}{a:Addr}{d:CD}(hos:s'.os=s.os)(hg:s'.gens=s.gens)
  (ha:s.heap.get? a=none) (hk:∀b o,s.heap.get? b=some o→s'.heap.get? b=some o)
  (hc:∀ρ' σ',Evo B [] ρ σ s.heap ρ' σ' s'.heap→ρ'=ρ++[a]→CR B ρ' s'.heap a d):
  St B (ρ++[a]) (σ++[⟨0,d⟩]) s'∧Evo B [] ρ σ s.heap (ρ++[a]) (σ++[⟨0,d⟩]) s'.heap∧(ρ++[a])[σ.length]?=some a:=by
 have ev:Evo B [] ρ σ s.heap (ρ++[a]) (σ++[⟨0,d⟩]) s'.heap:=⟨⟨fun b o ho=>⟨o,hk b o ho⟩,fun b o ho _ _ _=>hk b o ho⟩,⟨[a],rfl,by simpa using ha⟩,fun i c hc=>⟨c,by rw[List.getElem?_append_left (List.getElem?_eq_some_iff.mp hc).1];exact hc,Nat.le_refl _,fun _=>⟨rfl,fun b _ o ho=>hk b o ho⟩⟩⟩
 have hnr:a∉ρ:=fun hm=>by obtain⟨o,ho⟩:=x.alive hm;rw[ha]at ho;cases ho
 refine⟨⟨hos.trans x.os,hg▸x.gens,fun b o ho ht=>hk b o (x.base b o ho ht),by simp[x.len],?_,fun b hb=>?_,fun b hb=>?_,fun i c b hi hb=>?_,?_⟩,ev,by rw[← x.len];simp⟩
 ·rw[List.nodup_append];exact⟨x.nodup,by simp,fun b hb c hc=>by simp at hc;subst hc;exact fun e=>hnr (e▸hb)⟩
 ·rcases List.mem_append.mp hb with hb | hb
  ·exact x.fresh b hb
  ·simp at hb;subst hb
   cases e:B.h₀.get? b with
   |none=>rfl
   |some o=>
    by_cases ht:b∈B.Tb
    ·obtain⟨o',ho'⟩:=ok.tb _ x.inv b ht;rw[ha]at ho';cases ho'
    ·rw[x.base b o e ht]at ha;cases ha
 ·rcases List.mem_append.mp hb with hb | hb
  ·exact x.off b hb
  ·simp at hb;subst hb
   intro ht
   obtain⟨o',ho'⟩:=ok.tb _ x.inv b ht;rw[ha]at ho';cases ho'
 ·rcases Nat.lt_or_ge i σ.length with hlt | hge
  ·rw[List.getElem?_append_left hlt]at hi
   rw[List.getElem?_append_left (x.len▸hlt)]at hb
   exact CR.vk ev.vk c.d (fun o ho=>hk b o ho) (x.cells i c b hi hb)
  ·have hi':i=σ.length:=by
    have:=(List.getElem?_eq_some_iff.mp hi).1
    simp at this;lia
   subst hi'
   simp at hi;subst hi
   rw[← x.len]at hb;simp at hb;subst hb
   exact hc _ _ ev rfl
 ·exact ok.inv _ _ x.inv (fun b _ o ho=>hk b o ho) fun b o vs ho _ _=>hk b o ho
theorem St.set{B:Bs}(ok:BsOk B){ρ:List Addr}{σ:Sto}{s:Shared}(x:St B ρ σ s){s':Shared}{a:Addr}{i:Nat}{d:CD}(hos:s'.os=s.os)(hg:s'.gens=s.gens)
  (ha:ρ[i]?=some a) (hs:∀b o,b≠a→s.heap.get? b=some o→s'.heap.get? b=some o)
  (hc:∀σ',Evo B [] ρ σ s.heap ρ σ' s'.heap→CR B ρ s'.heap a d) (hal:∃o,s'.heap.get? a=some o∧∀vs,o.data≠ .fields vs):
  St B ρ (aC σ i d) s'∧Evo B [] ρ σ s.heap ρ (aC σ i d) s'.heap:=by
 have ham:a∈ρ:=List.mem_of_getElem? ha
 have hget:∀j (c:Cell),(aC σ i d)[j]?=some c→(j=i∧∃c₀:Cell,σ[j]?=some c₀∧c=⟨c₀.ver+1,d⟩)∨(j≠i∧σ[j]?=some c):=fun j c hj=>by
  rw[aC,List.getElem?_modify]at hj
  by_cases hji:i=j
  ·subst hji
   simp only[if_true]at hj
   cases h0:σ[i]? with
   |none=>rw[h0]at hj;cases hj
   |some c₀=>rw[h0]at hj;cases hj;exact .inl ⟨rfl,c₀,rfl,rfl⟩
  ·simp only[hji,if_false]at hj
   exact .inr ⟨fun e=>hji e.symm,by simpa using hj⟩
 have ev:Evo B [] ρ σ s.heap ρ (aC σ i d) s'.heap:=by
  refine⟨⟨fun b o ho=>?_,fun b o ho hb _ _=>hs b o (fun e=>hb (e▸ham)) ho⟩,⟨[],by simp,by simp⟩,fun j c hj=>?_⟩
  ·by_cases hb:b=a
   ·obtain⟨o',ho',_⟩:=hal;exact⟨o',hb▸ho'⟩
   ·exact⟨o,hs b o hb ho⟩
  ·by_cases hji:i=j
   ·subst hji
    exact⟨⟨c.ver+1,d⟩,by simp[aC,hj],Nat.le_succ _,fun e=>absurd e (Nat.ne_of_lt (Nat.lt_succ_self _))⟩
   ·refine⟨c,by simp[aC,hj,hji],Nat.le_refl _,fun _=>⟨rfl,fun b hb o ho=>hs b o (fun e=>?_) ho⟩⟩
    subst e
    exact hji ((List.getElem?_inj (List.getElem?_eq_some_iff.mp ha).1 x.nodup).mp (ha.trans hb.symm))
 refine⟨⟨hos.trans x.os,hg▸x.gens,fun b o ho ht=>hs b o (fun e=>?_) (x.base b o ho ht),by simp[aC,x.len],x.nodup,x.fresh,x.off,fun j c b hj hb=>?_,?_⟩,ev⟩
 ·rw[e,x.fresh a ham]at ho;cases ho
 ·rcases hget j c hj with⟨rfl,c₀,h0,rfl⟩ | ⟨hne,h0⟩
  ·rw[ha]at hb;cases hb;exact hc _ ev
  ·refine CR.vk ev.vk c.d (fun o ho=>hs b o (fun e=>?_) ho) (x.cells j c b h0 hb)
   subst e
   exact hne ((List.getElem?_inj (List.getElem?_eq_some_iff.mp ha).1 x.nodup).mp (ha.trans hb.symm)).symm
 ·refine ok.inv _ _ x.inv (fun b hb o ho=>hs b o (fun e=>?_) ho) fun b o vs ho _ hd=>hs b o (fun e=>?_) ho
  ·exact x.off a ham (e▸hb)
  ·subst e;exact x.notFields ham ho hd
theorem St.adopt{B:Bs}(_:BsOk B){X ρ₀ ρ:List Addr}{σ₀ σ:Sto}{h₀:Heap}{s:Shared}(x:St B ρ σ s)(e:Evo B X ρ₀ σ₀ h₀ ρ σ s.heap){D:Addr}{d:CD}(h0:h₀.get? D=none)(hρ:D∉ρ)(ht:D∉B.Tb)(hb:B.h₀.get? D=none)
  {o:Obj} (ho:s.heap.get? D=some o) (hc:o.cls≠ .type "tuple") (hr:∀ρ',Vk B ρ s.heap ρ' s.heap→CR B ρ' s.heap D d):
  St B (ρ++[D]) (σ++[⟨0,d⟩]) s∧Evo B X ρ₀ σ₀ h₀ (ρ++[D]) (σ++[⟨0,d⟩]) s.heap∧(ρ++[D])[σ.length]?=some D∧Vk B ρ s.heap (ρ++[D]) s.heap:=by
 have vk:Vk B ρ s.heap (ρ++[D]) s.heap:=⟨fun i a ha=>by rw[List.getElem?_append_left (List.getElem?_eq_some_iff.mp ha).1];exact ha,
  fun a o' vs n ho' hc' hd' h1 _=>⟨ho',fun hm=>by
   rcases List.mem_append.mp hm with hm | hm
   ·exact h1 hm
   ·simp at hm;subst hm;rw[ho]at ho';cases ho';exact hc hc'⟩⟩
 refine⟨⟨x.os,x.gens,x.base,by simp[x.len],?_,fun b hb'=>?_,fun b hb'=>?_,fun i c b hi hb'=>?_,x.inv⟩,⟨⟨e.kp.live,e.kp.keep⟩,?_,fun i c hi=>?_⟩,by rw[← x.len];simp,vk⟩
 ·rw[List.nodup_append];exact⟨x.nodup,by simp,fun b hbm c hc=>by simp at hc;subst hc;exact fun e=>hρ (e▸hbm)⟩
 ·rcases List.mem_append.mp hb' with h | h
  ·exact x.fresh b h
  ·simp at h;subst h;exact hb
 ·rcases List.mem_append.mp hb' with h | h
  ·exact x.off b h
  ·simp at h;subst h;exact ht
 ·rcases Nat.lt_or_ge i σ.length with hlt | hge
  ·rw[List.getElem?_append_left hlt]at hi
   rw[List.getElem?_append_left (x.len▸hlt)]at hb'
   exact CR.vk vk c.d (fun o ho=>ho) (x.cells i c b hi hb')
  ·have hi':i=σ.length:=by
    have:=(List.getElem?_eq_some_iff.mp hi).1
    simp at this;lia
   subst hi'
   simp at hi;subst hi
   rw[← x.len]at hb';simp at hb';subst hb'
   exact hr _ vk
 ·obtain⟨r,rfl,hf⟩:=e.pre
  exact⟨r++[D],by simp,fun a ha=>by
   rcases List.mem_append.mp ha with ha | ha
   ·exact hf a ha
   ·simp at ha;subst ha;exact h0⟩
 ·obtain⟨c',h1,h2,h3⟩:=e.ver i c hi
  exact⟨c',by rw[List.getElem?_append_left (List.getElem?_eq_some_iff.mp h1).1];exact h1,h2,h3⟩
structure Room (k:Nat) (A:Around):Prop where
 handled:A.handled=none
 depth:A.depth+8 * k < 1000
 units:A.units+64 * k+400 < 9900
theorem Room.lim{k:Nat}{A:Around}(r:Room k A):A.depth < recursionLimit:=Nat.lt_of_le_of_lt (Nat.le_add_right ..) r.depth
theorem Room.unit{k:Nat}{A:Around}(r:Room k A):A.units+300 < cLine:=Nat.lt_of_le_of_lt (Nat.add_le_add (Nat.le_add_right ..) (by decide)) r.units
theorem cN0{a b c d m e:Nat}(h:a+b * (c+1)+e < m)(hd:d≤b):a+d+b * c+e < m:=
 Nat.lt_of_le_of_lt (by rw[Nat.mul_succ];exact Nat.add_le_add_right (by rw[Nat.add_right_comm,← Nat.add_assoc];exact Nat.add_le_add_left hd _) e) h
theorem Room.deeper{k:Nat}{A:Around}(r:Room (k+1) A)(env:Env):Room k (A.deeper env):=
 ⟨r.handled,cN0 (e:=0) r.depth (d:=1) (by decide),cN0 r.units (d:=3) (by decide)⟩
structure Fr (B:Bs) (X:List Addr) (cx:Cx) (env:Env) (ρ:List Addr) (h:Heap):Prop where
 kind:env.scope.kind=.function
 glob:env.globals=mainNs
 bt:env.builtins=builtinsNs
 loc:∃m,h.Ns env.locals m∧∀x,cx.names.lookup x=some .local→env.kindOf x=some .local∧∀v,cx.le.lookup x=some v→∃val,m x=some val∧VR B ρ h v val
 cel:∀x,cx.names.lookup x=some .cell→env.kindOf x=some .cell∧∃c w,env.cells.lookup x=some c∧c∈X∧h.IsCell c w∧∀v,cx.le.lookup x=some v→∃val,w=some val∧VR B ρ h v val
 fre:∀x,cx.names.lookup x=some .free→∀v,cx.le.lookup x=some v→(env.kindOf x=some .cell∨env.kindOf x=some .free)∧∃c val,env.cells.lookup x=some c∧h.IsCell c (some val)∧VR B ρ h v val
 glb:∀x,cx.names.lookup x=some .globalImplicit→env.kindOf x=some .globalImplicit
 dom:∀x v,cx.le.lookup x=some v→cx.names.lookup x=some .local∨cx.names.lookup x=some .cell∨cx.names.lookup x=some .free
 own:env.locals∈X
 ofX:∀a∈X,a∉ρ∧a∉B.Tb∧B.h₀.get? a=none∧∃o,h.get? a=some o∧Framy o
 ofc:∀x c,env.cells.lookup x=some c→c∉ρ∧c∉B.Tb∧∃o,h.get? c=some o∧Framy o
 apart:∀x y c,env.cells.lookup x=some c→env.cells.lookup y=some c→x=y
theorem Kp.nil{B:Bs}{ρ:List Addr}{h h':Heap}(k:Kp B [] ρ h h'){a:Addr}{o:Obj}(ho:h.get? a=some o)(h1:a∉ρ)(h2:a∉B.Tb):h'.get? a=some o:=k.keep a o ho h1 h2 (by simp)
theorem IsCell.at{h h':Heap}{c:Addr}{v:Option Value}(x:h.IsCell c v)(e:∀o,h.get? c=some o→h'.get? c=some o):h'.IsCell c v:=let ⟨o,ho,hd⟩:=x;⟨o,e _ ho,hd⟩
theorem Fr.move{B:Bs}{X:List Addr}{cx:Cx}{env:Env}{ρ ρ':List Addr}{h h':Heap}(f:Fr B X cx env ρ h)(vk:Vk B ρ h ρ' h')
  (hk:∀a o,(a∈X∨∃x,env.cells.lookup x=some a)→a∉ρ→a∉B.Tb→h.get? a=some o→Framy o→h'.get? a=some o∧a∉ρ'):Fr B X cx env ρ' h':=by
 have kX:∀a∈X,∃o,h.get? a=some o∧Framy o∧h'.get? a=some o∧a∉ρ':=fun a ha=>by
  obtain⟨h1,h2,_,o,ho,hf⟩:=f.ofX a ha
  exact⟨o,ho,hf,hk a o (.inl ha) h1 h2 ho hf⟩
 have kc:∀x c,env.cells.lookup x=some c→∃o,h.get? c=some o∧Framy o∧h'.get? c=some o∧c∉ρ':=fun x c hc=>by
  obtain⟨h1,h2,o,ho,hf⟩:=f.ofc x c hc
  exact⟨o,ho,hf,hk c o (.inr ⟨x,hc⟩) h1 h2 ho hf⟩
 have same:∀{a},(∃o,h.get? a=some o∧Framy o∧h'.get? a=some o∧a∉ρ')→∀o,h.get? a=some o→h'.get? a=some o:=fun hh o ho'=>by
  obtain⟨_,ho,_,h2,_⟩:=hh
  exact Option.some.inj (ho.symm.trans ho')▸h2
 have vr:∀{v val},VR B ρ h v val→VR B ρ' h' v val:=fun r=>VR.vk vk _ r
 refine⟨f.kind,f.glob,f.bt,?_,fun x hx=>?_,fun x hx v hv=>?_,f.glb,f.dom,f.own,fun a ha=>?_,fun y c hc=>?_,f.apart⟩
 ·obtain⟨m,hn,hm⟩:=f.loc
  exact⟨m,hn.at' (same (kX _ f.own)),fun x hx=>⟨(hm x hx).1,fun v hv=>((hm x hx).2 v hv).imp fun _ q=>q.imp_right vr⟩⟩
 ·obtain⟨h0,c,w,hc,hX,hw,hv⟩:=f.cel x hx
  exact⟨h0,c,w,hc,hX,IsCell.at hw (same (kc x c hc)),fun v hle=>(hv v hle).imp fun _ q=>q.imp_right vr⟩
 ·obtain⟨h0,c,val,hc,hw,hr⟩:=f.fre x hx v hv
  exact⟨h0,c,val,hc,IsCell.at hw (same (kc x c hc)),vr hr⟩
 ·obtain⟨_,h2,h3,_⟩:=f.ofX a ha
  obtain⟨o,_,hf,ho,h1⟩:=kX a ha
  exact⟨h1,h2,h3,o,ho,hf⟩
 ·obtain⟨_,h2,_⟩:=f.ofc y c hc
  obtain⟨o,_,hf,ho,h1⟩:=kc y c hc
  exact⟨h1,h2,o,ho,hf⟩
theorem Fr.evo{B:Bs}{X:List Addr}{cx:Cx}{env:Env}{ρ ρ':List Addr}{σ σ':Sto}{h h':Heap}(f:Fr B X cx env ρ h)(e:Evo B [] ρ σ h ρ' σ' h'):Fr B X cx env ρ' h':=
 f.move e.vk fun _ _ _ h1 h2 ho _=>⟨e.kp.nil ho h1 h2,e.notin h1 ho⟩
noncomputable def Ok{α:Type}(B:Bs)(A:Around)(ρ:List Addr)(σ:Sto)(s:Shared)(t:Sem α)(σ':Sto)(P:List Addr→Heap→α→Prop):Prop:=
 wpAny (model B.prog B.w) A t (fun a s'=>∃ρ',St B ρ' σ' s'∧Evo B [] ρ σ s.heap ρ' σ' s'.heap∧P ρ' s'.heap a) (fun _ _=>False) s
theorem St.tok{B:Bs}{ρ:List Addr}{σ:Sto}{s:Shared}(x:St B ρ σ s)(t:Nat):St B ρ σ { s with toks:=t }:=
 ⟨x.os,x.gens,x.base,x.len,x.nodup,x.fresh,x.off,x.cells,x.inv⟩
section
variable {α β:Type}{B:Bs}{A:Around}{ρ:List Addr}{σ:Sto}{s:Shared}
theorem Ok.use{σ₁:Sto}{P:List Addr→Heap→α→Prop}{m:Sem α}{Q:α→Shared→Prop}{E:Value→Shared→Prop}(h:Ok B A ρ σ s m σ₁ P)
  (k:∀a ρ₁ s₁,St B ρ₁ σ₁ s₁→Evo B [] ρ σ s.heap ρ₁ σ₁ s₁.heap→P ρ₁ s₁.heap a→Q a s₁):wpAny (model B.prog B.w) A m Q E s:=
 wpAny_mono h (fun a s₁ h=>h.elim fun ρ₁ h=>k a ρ₁ s₁ h.1 h.2.1 h.2.2) fun _ _ f=>f.elim
theorem Ok.intro{σ₁:Sto}{P:List Addr→Heap→α→Prop}{m:Sem α}(h:∀Q:α→Shared→Prop,(∀v s' ρ',St B ρ' σ₁ s'→Evo B [] ρ σ s.heap ρ' σ₁ s'.heap→P ρ' s'.heap v→Q v s')→wpAny (model B.prog B.w) A m Q (fun _ _=>False) s):Ok B A ρ σ s m σ₁ P:=
 h _ fun _ _ ρ' x e p=>⟨ρ',x,e,p⟩
theorem Ok.after{σ₁ σ₂:Sto}{ρ₁:List Addr}{s₁:Shared}{P:List Addr→Heap→α→Prop}{m:Sem α}(e:Evo B [] ρ σ s.heap ρ₁ σ₁ s₁.heap)(h:Ok B A ρ₁ σ₁ s₁ m σ₂ P):
  wpAny (model B.prog B.w) A m (fun a s'=>∃ρ',St B ρ' σ₂ s'∧Evo B [] ρ σ s.heap ρ' σ₂ s'.heap∧P ρ' s'.heap a) (fun _ _=>False) s₁:=
 wpAny_mono h (fun _ _ h=>h.imp fun _ h=>h.imp_right fun h=>h.imp_left e.trans) fun _ _ f=>f
theorem Ok.bind{σ₁ σ₂:Sto}{P:List Addr→Heap→α→Prop}{P₂:List Addr→Heap→β→Prop}{m:Sem α}{f:α→Sem β}(h:Ok B A ρ σ s m σ₁ P)
  (k:∀a ρ₁ s₁,St B ρ₁ σ₁ s₁→Evo B [] ρ σ s.heap ρ₁ σ₁ s₁.heap→P ρ₁ s₁.heap a→Ok B A ρ₁ σ₁ s₁ (f a) σ₂ P₂):Ok B A ρ σ s (m >>= f) σ₂ P₂:=
 wpAny_bind (h.use fun a ρ₁ s₁ h1 h2 h3=>(k a ρ₁ s₁ h1 h2 h3).after h2)
theorem aN{P:List Addr→Heap→α→Prop}{a:α}(x:St B ρ σ s)(t:Nat)(h:P ρ s.heap a):
  ∃ρ',St B ρ' σ { s with toks:=t }∧Evo B [] ρ σ s.heap ρ' σ ({ s with toks:=t }:Shared).heap∧P ρ' ({ s with toks:=t }:Shared).heap a:=⟨ρ,x.tok t,.refl ..,h⟩
theorem bO{P:List Addr→Heap→α→Prop}{a:α}(x:St B ρ σ s)(h:P ρ s.heap a):∃ρ',St B ρ' σ s∧Evo B [] ρ σ s.heap ρ' σ s.heap∧P ρ' s.heap a:=⟨ρ,x,.refl ..,h⟩
theorem Ok.mono{σ₁:Sto}{P P':List Addr→Heap→α→Prop}{m:Sem α}(h:Ok B A ρ σ s m σ₁ P)(k:∀ρ' h' a,P ρ' h' a→P' ρ' h' a):Ok B A ρ σ s m σ₁ P':=
 wpAny_mono h (fun _ _ h=>h.imp fun _ h=>h.imp_right fun h=>h.imp_right (k _ _ _)) fun _ _ f=>f
end
noncomputable abbrev Is(B:Bs)(v:PV):List Addr→Heap→Value→Prop:=fun ρ' h' val=>VR B ρ' h' v val
section
variable {B:Bs}{A:Around}{ρ:List Addr}{σ:Sto}{s:Shared}{k:Nat}
theorem iU{i:Int}{m:Nat}(h:i.natAbs < 2 ^ m):Builtin.Int.intBits i≤m:=by
 unfold Builtin.Int.intBits
 by_cases hi:(i==0)=true
 ·rw[if_pos hi];exact Nat.zero_le _
 ·rw[if_neg hi]
  exact (Nat.log2_lt fun h0=>hi (by rw[Int.natAbs_eq_zero.mp h0];rfl)).mpr h
theorem yK{i j:Int}(h1:i.natAbs < hI0)(h2:j.natAbs < hI0):IntMulOk i j:=by
 have h3:Builtin.Int.intBits i≤256:=iU h1
 have h4:Builtin.Int.intBits j≤256:=iU h2
 unfold IntMulOk
 have:Builtin.Int.intTooBig (Builtin.Int.intBits i+Builtin.Int.intBits j)=false:=by
  unfold Builtin.Int.intTooBig;simp[bitsLine];lia
 rw[this];simp
end
section
variable {B:Bs}{A:Around}{ρ:List Addr}{σ:Sto}{s:Shared}{k:Nat}
theorem tP{σ:Sto}{i:Nat}{xs:List PV}(h:bM σ i=some xs):∃c:Cell,σ[i]?=some c∧c.d=.lst xs:=by
 unfold bM at h
 cases hc:σ[i]? with
 |none=>rw[hc]at h;cases h
 |some c=>
  rw[hc]at h
  refine⟨c,rfl,?_⟩
  dsimp only at h
  cases hd:c.d<;>rw[hd]at h<;>cases h
  rfl
theorem St.list{i:Nat}{xs:List PV}(x:St B ρ σ s)(h:bM σ i=some xs){a:Addr}(ha:ρ[i]?=some a):∃vs:List Value,s.heap.PlainList a vs.toArray∧VRs B ρ s.heap xs vs:=by
 obtain⟨c,hc,hd⟩:=tP h
 have:=x.cells i c a hc ha
 rw[hd]at this
 exact this
mutual
theorem lX(x:St B ρ σ s):∀(n:Nat) (v:PV) {d:PyData} {val:Value},toD n σ v=some d→VR B ρ s.heap v val→∃as,Reads s.heap val d as
 |0,_=>fun h _=>nos h
 |n+1,.none=>fun h r=>by cases h;obtain rfl:=r;exact⟨_,.none⟩
 |n+1,.bool b=>fun h r=>by cases h;obtain rfl:=r;exact⟨_,.bool _⟩
 |n+1,.int i=>fun h r=>by cases h;obtain⟨t,rfl⟩:=r;exact⟨_,.int _ _⟩
 |n+1,.str i=>fun h r=>by cases h;obtain⟨t,rfl⟩:=r;exact⟨_,.str _ _⟩
 |n+1,.tup xs=>fun h r=>by
  obtain⟨ds,hds,h⟩:=aA h
  cases h
  obtain⟨a,vs,rfl,_,_,⟨o,ho,hc,m,hd⟩,hr⟩:=r
  obtain⟨as,ha⟩:=jL x n xs hds hr
  exact⟨_,.tuple ho hc hd ha⟩
 |n+1,.lst i=>fun h r=>by
  obtain⟨xs,hxs,h⟩:=aA h
  obtain⟨ds,hds,h⟩:=aA h
  cases h
  obtain⟨a,rfl,ha⟩:=r
  obtain⟨vs,⟨m,ho⟩,hr⟩:=x.list hxs ha
  obtain⟨as,ha⟩:=jL x n xs hds hr
  exact⟨_,.list ho rfl rfl ha⟩
theorem jL(x:St B ρ σ s):∀(n:Nat) (vs:List PV) {ds:List PyData} {vals:List Value},jI0 n σ vs=some ds→VRs B ρ s.heap vs vals→∃as,ReadsAll s.heap vals ds as
 |0,_,_,_,h,_=>nos h
 |n+1,[],ds,vals,h,r=>by cases h;obtain rfl:vals=[]:=r;exact⟨_,.nil⟩
 |n+1,v::vs,ds,vals,h,r=>by
  obtain⟨d,hd,h⟩:=aA h
  obtain⟨ds,hds,h⟩:=aA h
  cases h
  obtain⟨w,ws,rfl,h1,h2⟩:=r
  obtain⟨as,ha⟩:=lX x n v hd h1
  obtain⟨bs,hb⟩:=jL x n vs hds h2
  exact⟨_,.cons ha hb⟩
end
theorem eqV_some{a b:PV}{t:Bool}(h:eqV σ a b=some t):(∃i j,a=.int i∧b=.int j∧decide (i=j)=t)∨(∃i j,a=.str i∧b=.str j∧decide (i=j)=t)∨eqD σ a b=some t:=by
 cases a with
 |int i=>cases b with
  |int j=>exact .inl ⟨i,j,rfl,rfl,Option.some.inj h⟩
  |_=>exact .inr (.inr h)
 |str i=>cases b with
  |str j=>exact .inr (.inl ⟨i,j,rfl,rfl,Option.some.inj h⟩)
  |_=>exact .inr (.inr h)
 |_=>exact .inr (.inr h)
theorem jR0{a b:PV}{t:Bool}(h:eqD σ a b=some t):∃da db,toD 100000 σ a=some da∧toD 100000 σ b=some db∧(da.canLay0=true∧db.canLay0=true∧min da.depth db.depth≤8)∧PyData.eqv da db=t:=by
 obtain⟨da,ha,h⟩:=aA h
 obtain⟨db,hb,h⟩:=aA h
 obtain⟨hc,h⟩:=grd_some h
 exact⟨da,db,ha,hb,hc,Option.some.inj h⟩
theorem eq_ok{a b:PV}{t:Bool}{va vb:Value}(r:Room k A)(x:St B ρ σ s)(h:eqV σ a b=some t)(ha:VR B ρ s.heap a va)(hb:VR B ρ s.heap b vb):
  Ok B A ρ σ s (compareOp .Eq va vb) σ (Is B (.bool t))∧Ok B A ρ σ s (compareOp .NotEq va vb) σ (Is B (.bool !t)):=by
 rcases eqV_some h with⟨i,j,rfl,rfl,rfl⟩ | ⟨i,j,rfl,rfl,rfl⟩ | h
 ·obtain⟨t,rfl⟩:=ha
  obtain⟨u,rfl⟩:=hb
  exact⟨eq_int (bO x rfl),PyProof.Rows.ne_int (bO x rfl)⟩
 ·obtain⟨t,rfl⟩:=ha
  obtain⟨u,rfl⟩:=hb
  exact⟨PyProof.Rows.eq_str (bO x rfl),PyProof.Rows.ne_str (bO x rfl)⟩
 ·obtain⟨da,db,hda,hdb,hc,rfl⟩:=jR0 h
  obtain⟨as,h1⟩:=lX x _ _ hda ha
  obtain⟨bs,h2⟩:=lX x _ _ hdb hb
  have hu:A.units+min da.depth db.depth < cLine:=Nat.lt_of_le_of_lt (Nat.add_le_add_left (Nat.le_trans hc.2.2 (by decide)) _) r.unit
  exact⟨SeqAt.compareEq_reads h1 h2 hc.1 hc.2.1 hu (bO x rfl),SeqAt.compareNe_reads h1 h2 hc.1 hc.2.1 hu (bO x rfl)⟩
theorem is_val{a b:PV}{t:Bool}{va vb:Value}{hp:Heap}(h:isV a b=some t)(ha:VR B ρ hp a va)(hb:VR B ρ hp b vb):plainIs va vb=true∧(va==vb)=t:=by
 cases b with
 |none=>
  obtain rfl:vb=.none:=hb
  cases a with
  |none=>obtain rfl:va=.none:=ha;exact⟨rfl,Option.some.inj h⟩
  |bool p=>obtain rfl:va=.bool p:=ha;exact⟨rfl,Option.some.inj h⟩
  |int i=>obtain⟨t,rfl⟩:=ha;exact⟨rfl,Option.some.inj h⟩
  |str i=>obtain⟨t,rfl⟩:=ha;exact⟨rfl,Option.some.inj h⟩
  |tup xs=>obtain⟨l,vs,rfl,_⟩:=ha;exact⟨rfl,Option.some.inj h⟩
  |lst i=>obtain⟨l,rfl,_⟩:=ha;exact⟨rfl,Option.some.inj h⟩
 |bool q=>
  obtain rfl:vb=.bool q:=hb
  cases a with
  |none=>obtain rfl:va=.none:=ha;exact⟨rfl,Option.some.inj h⟩
  |bool p=>obtain rfl:va=.bool p:=ha;exact⟨rfl,by obtain rfl:=Option.some.inj h;cases p<;>cases q<;>rfl⟩
  |int i=>obtain⟨t,rfl⟩:=ha;exact⟨rfl,Option.some.inj h⟩
  |str i=>obtain⟨t,rfl⟩:=ha;exact⟨rfl,Option.some.inj h⟩
  |_=>exact nos h
 |_=>exact nos h
theorem is_ok{a b:PV}{t:Bool}{va vb:Value}(x:St B ρ σ s)(h:isV a b=some t)(ha:VR B ρ s.heap a va)(hb:VR B ρ s.heap b vb):
  Ok B A ρ σ s (compareOp .Is va vb) σ (Is B (.bool t))∧Ok B A ρ σ s (compareOp .IsNot va vb) σ (Is B (.bool !t)):=by
 obtain⟨hp,rfl⟩:=is_val h ha hb
 exact⟨wpAny_is_plain hp (bO x rfl),wpAny_isNot_plain hp (bO x rfl)⟩
theorem jK:∀{ys:List PV} {ts:List Str} {vs:List Value} {h:Heap},eR ys=some ts→VRs B ρ h ys vs→∃us:List Tok,us.length=ts.length∧vs=(ts.zip us).map fun p=>.str p.1 p.2
 |[],ts,vs,_,e,r=>by cases e;obtain rfl:vs=[]:=r;exact⟨[],rfl,rfl⟩
 |y::ys,ts,vs,h,e,r=>by
  cases y with
  |str t=>
   obtain⟨ts',hs,rfl⟩:=Option.map_eq_some_iff.mp (show (eR ys).map (t::·)=some ts from e)
   obtain⟨w,ws,rfl,⟨u,rfl⟩,h2⟩:=r
   obtain⟨us,hl,rfl⟩:=jK hs h2
   exact⟨u::us,congrArg (· +1) hl,rfl⟩
  |_=>cases e
theorem dD0(p:Str):∀(ts:List Str) (us:List Tok),us.length=ts.length→(((ts.zip us).map fun q=>Value.str q.1 q.2).any fun v=>match v with | .str q _=>q==p | _=>false)=ts.any fun t=>t==p
 |[],_,_=>by rfl
 |a::ts,u::us,h=>by
  show (_ || _)=(_ || _)
  exact congrArg _ (dD0 p ts us (Nat.succ.inj h))
theorem in_ok{a b:PV}{t:Bool}{va vb:Value}(x:St B ρ σ s)(h:inV a b=some t)(ha:VR B ρ s.heap a va)(hb:VR B ρ s.heap b vb):
  Ok B A ρ σ s (compareOp .In va vb) σ (Is B (.bool t))∧Ok B A ρ σ s (compareOp .NotIn va vb) σ (Is B (.bool !t)):=by
 cases a with
 |str p=>
  obtain⟨t,rfl⟩:=ha
  cases b with
  |str q=>
   obtain⟨u,rfl⟩:=hb
   cases h
   exact⟨SB.contains (bO x rfl),SB.notContains (bO x rfl)⟩
  |tup ys=>
   obtain⟨ts,hts,h⟩:=aA h
   cases h
   obtain⟨l,vs,rfl,_,_,ht,hr⟩:=hb
   obtain⟨us,hl,hvs⟩:=jK hts hr
   have he:∀y,y∈vs→SeqAt.EqAt A.in1 s y (.str p t) ((fun v=>match v with | .str q _=>q==p | _=>false) y):=fun y hy=>by
    have:y∈vs.toList:=Array.mem_toList_iff.mpr hy
    rw[hvs]at this
    obtain⟨⟨q,u⟩,_,rfl⟩:=List.mem_map.mp this
    exact SeqAt.EqAt.str_str q u p t
   have e:(vs.any fun v=>match v with | .str q _=>q==p | _=>false)=ts.any fun t=>t==p:=by
    rw[← Array.any_toList,hvs]
    exact dD0 p ts us hl
   exact⟨SeqAt.in_tupleAt _ ht he (by rw[e];exact bO x rfl),SeqAt.notIn_tupleAt _ ht he (by rw[e];exact bO x rfl)⟩
  |_=>exact nos h
 |_=>exact nos h
theorem vD{o:Option Bool}{t:Bool}(e:o.map (!·)=some t):∃u,o=some u∧t=!u:=by
 cases o with
 |none=>cases e
 |some u=>cases e;exact⟨u,rfl,rfl⟩
theorem gA{a b:PV}{f:Int→Int→Bool}{t:Bool}(h:xG a b f=some t):∃i j,a=.int i∧b=.int j∧f i j=t:=by
 cases a with
 |int i=>cases b with
  |int j=>exact⟨i,j,rfl,rfl,Option.some.inj h⟩
  |_=>exact nos h
 |_=>exact nos h
theorem rN{op:CmpOp}{a b:PV}{t:Bool}{va vb:Value}(r:Room k A)(x:St B ρ σ s)(h:aS0 op σ a b=some t)(ha:VR B ρ s.heap a va)(hb:VR B ρ s.heap b vb):
  Ok B A ρ σ s (compareOp op va vb) σ (Is B (.bool t)):=by
 cases op with
 |Eq=>exact (eq_ok r x h ha hb).1
 |NotEq=>obtain⟨u,h2,rfl⟩:=vD h;exact (eq_ok r x h2 ha hb).2
 |Is=>exact (is_ok x h ha hb).1
 |IsNot=>obtain⟨u,h2,rfl⟩:=vD h;exact (is_ok x h2 ha hb).2
 |In=>exact (in_ok x h ha hb).1
 |NotIn=>obtain⟨u,h2,rfl⟩:=vD h;exact (in_ok x h2 ha hb).2
 |Lt=>obtain⟨i,j,rfl,rfl,rfl⟩:=gA h;obtain⟨t,rfl⟩:=ha;obtain⟨u,rfl⟩:=hb;exact PyProof.Rows.lt_int (bO x rfl)
 |LtE=>obtain⟨i,j,rfl,rfl,rfl⟩:=gA h;obtain⟨t,rfl⟩:=ha;obtain⟨u,rfl⟩:=hb;exact PyProof.Rows.le_int (bO x rfl)
 |Gt=>obtain⟨i,j,rfl,rfl,rfl⟩:=gA h;obtain⟨t,rfl⟩:=ha;obtain⟨u,rfl⟩:=hb;exact PyProof.Rows.gt_int (bO x rfl)
 |GtE=>obtain⟨i,j,rfl,rfl,rfl⟩:=gA h;obtain⟨t,rfl⟩:=ha;obtain⟨u,rfl⟩:=hb;exact PyProof.Rows.ge_int (bO x rfl)
end
section
variable {B:Bs}{A:Around}{ρ:List Addr}{σ σ':Sto}{s:Shared}{k:Nat}{β:Type}{r:β}
theorem cS0{n:Nat}(h:n≤1000000):(n:Int) < 2 ^ 63:=Int.lt_of_le_of_lt (Int.ofNat_le.mpr h) (by decide)
noncomputable def gI(B:Bs)(op:Operator)(a b:PV)(σ:Sto)(v:PV)(σ':Sto):Prop:=∀(A:Around) (ρ:List Addr) (s:Shared) (va vb:Value),St B ρ σ s→VR B ρ s.heap a va→VR B ρ s.heap b vb→Ok B A ρ σ s (binaryOp op va vb) σ' (Is B v)
theorem gI.ii{op:Operator}{i j:Int}{v:PV}(H:∀A ρ s t u,St B ρ σ s→Ok B A ρ σ s (binaryOp op (.int i t) (.int j u)) σ' (Is B v)):gI B op (.int i) (.int j) σ v σ':=fun A ρ s va vb x ha hb=>by
 obtain⟨t,rfl⟩:=ha
 obtain⟨u,rfl⟩:=hb
 exact H A ρ s t u x
theorem add_ii{i j:Int}:gI B .Add (.int i) (.int j) σ (.int (i+j)) σ:=.ii fun _ _ _ _ _ x=>add_int (aN x _ ⟨_,rfl⟩)
theorem sub_ii{i j:Int}:gI B .Sub (.int i) (.int j) σ (.int (i - j)) σ:=.ii fun _ _ _ _ _ x=>PyProof.Rows.sub_int (aN x _ ⟨_,rfl⟩)
theorem mod_ii{i j:Int}(h:¬ j=0):gI B .Mod (.int i) (.int j) σ (.int (Int.fmod i j)) σ:=.ii fun _ _ _ _ _ x=>mod_int h (aN x _ ⟨_,rfl⟩)
theorem mul_ii{i j:Int}(h:i.natAbs < hI0∧j.natAbs < hI0):gI B .Mult (.int i) (.int j) σ (.int (i * j)) σ:=.ii fun _ _ _ _ _ x=>mul_int (aN x _ ⟨_,rfl⟩) (yK h.1 h.2)
theorem fdiv_ii{i j:Int}(h0:¬ j=0)(h:j.natAbs < 1073741824):gI B .FloorDiv (.int i) (.int j) σ (.int (Int.fdiv i j)) σ:=.ii fun _ _ _ _ _ x=>floordiv_int h0 (aN x _ ⟨_,rfl⟩) (.inl (PyProof.noPylong_small h))
theorem pow_ii{i j:Int}(h:0≤j∧j≤20∧i.natAbs≤10):gI B .Pow (.int i) (.int j) σ (.int (i ^ j.toNat)) σ:=.ii fun A ρ s t u x=>by
 refine pow_int h.1 ?_ (aN x _ ⟨_,rfl⟩)
 have hb:Builtin.Int.intBits i≤4:=iU (Nat.lt_of_le_of_lt h.2.2 (by decide))
 exact Int.le_trans (Int.mul_le_mul (Int.ofNat_le.mpr hb) h.2.1 h.1 (by decide)) (by decide)
theorem add_ss'{x y:Str}(h:(x++y).length≤100000):gI B .Add (.str x) (.str y) σ (.str (x++y)) σ:=fun A ρ s va vb x ha hb=>by
 obtain⟨t,rfl⟩:=ha
 obtain⟨u,rfl⟩:=hb
 exact PyProof.Rows.add_str (fun t' tk=>aN x _ ⟨_,rfl⟩) (by rw[← strLen_append];exact Nat.le_trans h (by decide))
theorem mul_si{x:Str}{j:Int}(h:0≤j∧j≤1000∧x.length≤1000):gI B .Mult (.str x) (.int j) σ (.str (Txt.mul x j)) σ:=fun A ρ s va vb st ha hb=>by
 obtain⟨t,rfl⟩:=ha
 obtain⟨u,rfl⟩:=hb
 refine SB.mul ⟨?_,fun h0 h1=>?_,fun _ _=>?_⟩ fun t' k=>aN st _ ⟨_,rfl⟩
 ·rw[decide_eq_false (show ¬ j < -(2 ^ 63:Int) from Int.not_lt.mpr (Int.le_trans (by decide) h.1)),decide_eq_false (show ¬ j≥(2 ^ 63:Int) from Int.not_le.mpr (Int.lt_of_le_of_lt h.2.1 (by decide)))];rfl
 ·have:(1000:Int)≤(2 ^ 63 - 1) / j:=(Int.le_ediv_iff_mul_le (Int.not_lt.mp h0)).mpr (Int.le_trans (Int.mul_le_mul_of_nonneg_left h.2.1 (by decide)) (by decide))
  exact Int.not_lt.mpr (Int.le_trans (Int.ofNat_le.mpr h.2.2) this)
 ·have hle:x.length * j.toNat≤1000 * 1000:=Nat.mul_le_mul h.2.2 (Int.toNat_le.mpr h.2.1)
  exact decide_eq_false (Nat.not_lt.mpr (Nat.le_trans hle (by decide)))
theorem lL(ok:BsOk B){ρ:List Addr}{σ:Sto}{s:Shared}(x:St B ρ σ s){xs:List PV}{vs:List Value}(tk:Nat)(r:VRs B ρ s.heap xs vs):
  ∃ρ',St B ρ' (σ++[⟨0,.lst xs⟩]) { s with heap:=s.heap.push { cls:=.type "list",data:=.seq vs.toArray },toks:=tk }∧
   Evo B [] ρ σ s.heap ρ' (σ++[⟨0,.lst xs⟩]) (s.heap.push { cls:=.type "list",data:=.seq vs.toArray })∧
   VR B ρ' (s.heap.push { cls:=.type "list",data:=.seq vs.toArray }) (.lst σ.length) (.ref s.heap.objs.size):=by
 obtain⟨x',e',hat⟩:=x.new ok (s':={ s with heap:=s.heap.push { cls:=.type "list",data:=.seq vs.toArray },toks:=tk }) (a:=s.heap.objs.size) (d:=.lst xs) rfl rfl (get?_size _)
  (fun b o ho=>Heap.get?_push_of_some _ ho) fun ρ' σ' e hρ=>⟨vs,⟨0,Heap.get?_push_size _ rfl⟩,VRs.evo e _ r⟩
 exact⟨_,x',e',_,rfl,hat⟩
theorem bO0{prog:Program}{w:World}{A:Around}{E:Value→Shared→Prop}{s:Shared}{l b:Addr}{vs ws:List Value}{Q:Value→Shared→Prop}(hl:s.heap.PlainList l vs.toArray)(hb:s.heap.PlainList b ws.toArray)
  (h:Q (.ref s.heap.objs.size) { s with heap:=s.heap.push { cls:=.type "list",data:=.seq (vs++ws).toArray } })
  (hsz:vs.length+ws.length≤sizeLine):
  wpAny (model prog w) A (binaryOp .Add (.ref l) (.ref b)) Q E s:=by
 obtain⟨n,ho⟩:=hl
 obtain⟨n2,ho2⟩:=hb
 exact concat_meets ⟨_,ho,rfl⟩ ⟨_,ho2,rfl⟩ noFill_list_add seq_list_add PySem.F.slot_list_add PySem.F.entry_list_add (PySem.F.args_list_add_2 _ _) (list_addW l b vs.toArray ws.toArray n n2 none none #[] #[] (by simpa using hsz)) ⟨ho,ho2,by rw[List.append_toArray];exact h⟩
theorem add_ll(ok:BsOk B){i j:Nat}{xs ys:List PV}(hx:bM σ i=some xs)(hy:bM σ j=some ys)(h:xs.length+ys.length≤10000):gI B .Add (.lst i) (.lst j) σ (.lst σ.length) (σ++[⟨0,.lst (xs++ys)⟩]):=fun A ρ s va vb x ha hb=>by
 obtain⟨la,rfl,hla⟩:=ha
 obtain⟨lb,rfl,hlb⟩:=hb
 obtain⟨vs,hp,hvs⟩:=x.list hx hla
 obtain⟨ws,hq,hws⟩:=x.list hy hlb
 exact bO0 hp hq (lL ok x _ (hvs.append hws)) (by rw[hvs.length,hws.length];exact Nat.le_trans h (by decide))
theorem zJ(ok:BsOk B){op:Operator}{a b:PV}{K:PV→Sto→Option β}(h:aV op a b σ K=some r):∃v σ',K v σ'=some r∧gI B op a b σ v σ':=by
 refine dR0 (P:=fun a b=>∃v σ',K v σ'=some r∧gI B op a b σ v σ') h (fun i j h=>?_) (fun i j h=>?_) (fun i j h=>?_) fun i j h=>?_
 ·exact cM0 (P:=fun op=>∃v σ',K v σ'=some r∧gI B op (.int i) (.int j) σ v σ') h (fun h=>⟨_,_,h,add_ii⟩) (fun h=>⟨_,_,h,sub_ii⟩) (fun h=>⟨_,_,(grd_some h).2,mul_ii (grd_some h).1⟩)
   (fun h=>⟨_,_,(bQ h).2,mod_ii (bQ h).1⟩) (fun h=>⟨_,_,(grd_some (bQ h).2).2,fdiv_ii (bQ h).1 (grd_some (bQ h).2).1⟩) fun h=>⟨_,_,(grd_some h).2,pow_ii (grd_some h).1⟩
 ·exact mH (P:=fun op=>∃v σ',K v σ'=some r∧gI B op (.str i) (.str j) σ v σ') h fun h=>⟨_,_,(grd_some h).2,add_ss' (grd_some h).1⟩
 ·exact aW0 (P:=fun op=>∃v σ',K v σ'=some r∧gI B op (.str i) (.int j) σ v σ') h fun h=>⟨_,_,(grd_some h).2,mul_si (grd_some h).1⟩
 ·refine mH (P:=fun op=>∃v σ',K v σ'=some r∧gI B op (.lst i) (.lst j) σ v σ') h fun h=>?_
  obtain⟨xs,hx,h3⟩:=aA h
  obtain⟨ys,hy,h4⟩:=aA h3
  exact⟨_,_,(grd_some h4).2,add_ll ok hx hy (grd_some h4).1⟩
noncomputable def xO(B:Bs)(op:Operator)(a b:PV)(v:PV):Prop:=∀(A:Around) (ρ:List Addr) (σ:Sto) (s:Shared) (va vb:Value),St B ρ σ s→VR B ρ s.heap a va→VR B ρ s.heap b vb→Ok B A ρ σ s (inplaceOp op va vb) σ (Is B v)
theorem xO.ii{op:Operator}{i j:Int}{v:PV}(H:∀A ρ σ s t u,St B ρ σ s→Ok B A ρ σ s (inplaceOp op (.int i t) (.int j u)) σ (Is B v)):xO B op (.int i) (.int j) v:=fun A ρ σ s va vb x ha hb=>by
 obtain⟨t,rfl⟩:=ha
 obtain⟨u,rfl⟩:=hb
 exact H A ρ σ s t u x
theorem aug_ss{i j:Str}(h:(i++j).length≤100000):xO B .Add (.str i) (.str j) (.str (i++j)):=fun A ρ σ s va vb x ha hb=>by
 obtain⟨t,rfl⟩:=ha
 obtain⟨u,rfl⟩:=hb
 exact PyProof.Rows.iadd_str (fun t' tk=>aN x _ ⟨_,rfl⟩) (by rw[← strLen_append];exact Nat.le_trans h (by decide))
theorem eR0{op:Operator}{a b:PV}{K:PV→Option β}(h:augK op a b K=some r):∃v,K v=some r∧xO B op a b v:=
 dR0 (P:=fun a b=>∃v,K v=some r∧xO B op a b v) h
  (fun i j h=>cM0 (P:=fun op=>∃v,K v=some r∧xO B op (.int i) (.int j) v) h (fun h=>⟨_,h,.ii fun _ _ _ _ _ _ x=>iadd_int (aN x _ ⟨_,rfl⟩)⟩) (fun h=>⟨_,h,.ii fun _ _ _ _ _ _ x=>isub_int (aN x _ ⟨_,rfl⟩)⟩) nos nos nos nos)
  (fun i j h=>mH (P:=fun op=>∃v,K v=some r∧xO B op (.str i) (.str j) v) h fun h=>⟨_,(grd_some h).2,aug_ss (grd_some h).1⟩) (fun _ _ h=>nos h) fun _ _ h=>nos h
noncomputable def gZ(B:Bs)(a:PV)(t:Bool):Prop:=∀(A:Around) (ρ:List Addr) (σ:Sto) (s:Shared) (va:Value),St B ρ σ s→VR B ρ s.heap a va→Ok B A ρ σ s (truthy va) σ (fun _ _ b=>b=t)
theorem wC{a:PV}{K:Bool→Option β}(h:qP a K=some r):∃t,K t=some r∧gZ B a t:=by
 cases a with
 |none=>exact⟨_,h,fun A ρ σ s va x ha=>by obtain rfl:va=.none:=ha;exact truthy_none ⟨ρ,x,.refl ..,rfl⟩⟩
 |bool b=>exact⟨_,h,fun A ρ σ s va x ha=>by obtain rfl:va=.bool b:=ha;exact wpAny_truthy_bool ⟨ρ,x,.refl ..,rfl⟩⟩
 |int i=>exact⟨_,h,fun A ρ σ s va x ha=>by obtain⟨u,rfl⟩:=ha;exact PyProof.Rows.truthy_int ⟨ρ,x,.refl ..,rfl⟩⟩
 |str y=>exact⟨_,(grd_some h).2,fun A ρ σ s va x ha=>by obtain⟨u,rfl⟩:=ha;exact P.truthy_str (Int.not_le.mpr (cS0 (grd_some h).1)) ⟨ρ,x.tok _,.refl ..,rfl⟩⟩
 |_=>exact nos h
theorem mA{C:Prop}{a:PV}{K:Bool→Option β}(h:qP a K=some r)(c:∀t,K t=some r→gZ B a t→C):C:=let ⟨t,h1,h2⟩:=wC (B:=B) h;c t h1 h2
theorem eL{slice:Expr}{o i:Value}(hs:∀l u st p,slice≠ .Slice l u st p):subscripted slice false o i=operate [o,i] (getItem o i):=by
 cases slice with
 |Slice l u st p=>exact (hs l u st p rfl).elim
 |_=>rfl
theorem seqIndex_cases{k:Int}{n j:Nat}(h:seqIndex? k n=some j):(k < 0∧0≤k+n∧j=(k+n).toNat)∨(0≤k∧k < n∧j=k.toNat):=by
 unfold seqIndex? at h
 dsimp only at h
 by_cases h0:k < 0
 ·rw[if_pos h0]at h
  obtain⟨hb,h1⟩:=grd_some (β:=Nat) h
  rw[Bool.and_eq_true,decide_eq_true_eq,decide_eq_true_eq]at hb
  exact .inl ⟨h0,hb.1,(Option.some.inj h1).symm⟩
 ·rw[if_neg h0]at h
  obtain⟨hb,h1⟩:=grd_some (β:=Nat) h
  rw[Bool.and_eq_true,decide_eq_true_eq,decide_eq_true_eq]at hb
  exact .inr ⟨hb.1,hb.2,(Option.some.inj h1).symm⟩
theorem kQ0{i:Int}{n p:Nat}(e:(if i < 0 then i+n else i)=(p:Int)):seqIndex? i n=if p < n then some p else none:=by
 show (if (decide (0≤(if i < 0 then i+n else i))&&decide ((if i < 0 then i+n else i) < n))=true then some (if i < 0 then i+n else i).toNat else none)=_
 rw[e,decide_eq_true (Int.natCast_nonneg p),Bool.true_and,Int.toNat_natCast]
 by_cases h:p < n
 ·rw[if_pos h,decide_eq_true (Int.ofNat_lt.mpr h),if_pos rfl]
 ·rw[if_neg h,decide_eq_false (fun q=>h (Int.ofNat_lt.mp q)),if_neg Bool.false_ne_true]
theorem oN{i n:Nat}(h:i < n):seqIndex? (i:Int) n=some i:=(kQ0 (if_neg (Int.not_lt.mpr (Int.natCast_nonneg i)))).trans (if_pos h)
theorem jW0{i n:Nat}(h:n≤i):seqIndex? (i:Int) n=none:=(kQ0 (if_neg (Int.not_lt.mpr (Int.natCast_nonneg i)))).trans (if_neg (Nat.not_lt.mpr h))
theorem vJ(n:Nat):seqIndex? (-1) (n+1)=some n:=(kQ0 (p:=n) ((if_pos (by decide)).trans (by rw[Int.natCast_add,Int.add_comm,Int.add_assoc];exact Int.add_zero _))).trans (if_pos (Nat.lt_succ_self n))
noncomputable def eW0(B:Bs)(a i:PV)(σ:Sto)(v:PV):Prop:=∀(A:Around) (ρ:List Addr) (s:Shared) (va vi:Value) (value slice:Expr),(∀l u st p,slice≠ .Slice l u st p)→St B ρ σ s→VR B ρ s.heap a va→VR B ρ s.heap i vi→Ok B A ρ σ s (subscriptTail value slice va vi) σ (Is B v)
theorem pY{j:Int}{xs:List PV}{K:PV→Option β}(h:xV j xs K=some r):∃p v,seqIndex? j xs.length=some p∧xs[p]?=some v∧K v=some r:=by
 obtain⟨p,hp,h⟩:=aA h
 obtain⟨v,hv,h⟩:=aA h
 exact⟨p,v,hp,hv,h⟩
theorem sub_str{y:Str}{j:Int}(h:fitsSsize j=true∧(Txt.charAt y j).isSome=true):eW0 B (.str y) (.int j) σ (.str (Txt.item y j)):=fun A ρ s va vi value slice hs x ha hi=>by
 obtain⟨t,rfl⟩:=ha
 obtain⟨u,rfl⟩:=hi
 exact tail_any (typeIs_str _ _ _) F.slot_str_getitem.lookup (SB.getItem h.1 h.2 (aN x _ ⟨_,rfl⟩)) (eL hs)
theorem sub_tup{xs:List PV}{j:Int}{p:Nat}{v:PV}(h: -(2 ^ 63)≤j∧j < 2 ^ 63)(hp:seqIndex? j xs.length=some p)(hv:xs[p]?=some v):eW0 B (.tup xs) (.int j) σ v:=fun A ρ s va vi value slice hs x ha hi=>by
 obtain⟨l,vs,rfl,_,_,ht,hr⟩:=ha
 obtain⟨u,rfl⟩:=hi
 obtain⟨w,hw,hvw⟩:=hr.get hv
 exact tail_any ht.typeIs slot_tuple_getitem.lookup (PyProof.Rows.getItem_tuple ht h.1 h.2 (by rw[show vs.size=xs.length from hr.length];exact hp) (by rw[← Array.getElem?_toList];exact hw) (bO x hvw)) (eL hs)
theorem sub_lst{c:Nat}{xs:List PV}{j:Int}{p:Nat}{v:PV}(h: -(2 ^ 63)≤j∧j < 2 ^ 63)(hx:bM σ c=some xs)(hp:seqIndex? j xs.length=some p)(hv:xs[p]?=some v):eW0 B (.lst c) (.int j) σ v:=fun A ρ s va vi value slice hs x ha hi=>by
 obtain⟨l,rfl,hl⟩:=ha
 obtain⟨u,rfl⟩:=hi
 obtain⟨vs,hpl,hr⟩:=x.list hx hl
 obtain⟨w,hw,hvw⟩:=hr.get hv
 have hsz:vs.toArray.size=xs.length:=hr.length
 have hw':vs.toArray[p]?=some w:=by rw[List.getElem?_toArray];exact hw
 refine tail_any hpl.isList.typeIs slot_list_getitem.lookup ?_ (eL hs)
 rcases seqIndex_cases hp with⟨h0,h1,rfl⟩ | ⟨h0,h1,rfl⟩
 ·exact wpAny_getItem_list_neg hpl.isList h0 (by rw[hsz];exact by lia) h.1 (by rw[hsz];exact hw') (bO x hvw)
 ·exact wpAny_getItem_list hpl.isList h0 h.2 hw' (bO x hvw)
theorem dT0{ρ:List Addr}{h:Heap}{n:Str}:∀{us:List (Str×Value)} {kvs:List (Str×PV)} {v:PV},us.map (·.1)=kvs.map (·.1)→VRs B ρ h (kvs.map (·.2)) (us.map (·.2))→kvs.lookup n=some v→∃w,valueAt us n=some w∧VR B ρ h v w
 |_,[]=>fun _ _ h=>nos h
 |[],_::_=>fun e=>nomatch e
 |p::us,p'::kvs=>fun e r hv=>by
  obtain⟨e1,e2⟩:=List.cons.inj (show p.1::us.map (·.1)=p'.1::kvs.map (·.1) from e)
  obtain⟨w,_,er,h1,h2⟩:=r
  obtain⟨e3,e4⟩:=List.cons.inj er
  subst e4
  unfold valueAt
  rw[List.find?_cons]
  rw[List.lookup_cons,← e1]at hv
  by_cases hm:p.1=n
  ·rw[decide_eq_true hm]
   rw[beq_iff_eq.mpr hm.symm]at hv
   exact⟨p.2,rfl,(show p.2=w from e3)▸Option.some.inj hv▸h1⟩
  ·rw[decide_eq_false hm]
   rw[beq_eq_false_iff_ne.mpr (Ne.symm hm)]at hv
   exact dT0 e2 h2 hv
theorem sub_dct{c:Nat}{n:Str}{cell:Cell}{kvs:List (Str×PV)}{v:PV}(hc:σ[c]?=some cell)(hd:cell.d=.dct kvs)(hv:kvs.lookup n=some v):eW0 B (.lst c) (.str n) σ v:=fun A ρ s va vi value slice hs x ha hi=>by
 obtain⟨l,rfl,hl⟩:=ha
 obtain⟨u,rfl⟩:=hi
 have:=x.cells c cell l hc hl
 rw[hd]at this
 obtain⟨us,hm,he,hf⟩:=this
 obtain⟨w,hw,hvw⟩:=dT0 he hf hv
 exact tail_any hm.typeIs slot_dict_getitem.lookup (wpAny_getItem_of (strKind_is _ _ n u) hm.mapOf hw (aN x _ hvw)) (eL hs)
theorem gE0{a i:PV}{K:PV→Option β}(h:bT a i σ K=some r):∃v,K v=some r∧eW0 B a i σ v:=by
 cases a with
 |str y=>obtain⟨j,rfl,h1⟩:=aZ h;exact⟨_,(grd_some h1).2,sub_str (grd_some h1).1⟩
 |tup xs=>
  obtain⟨j,rfl,h1⟩:=aZ h
  obtain⟨p,v,hp,hv,h2⟩:=pY (grd_some h1).2
  exact⟨_,h2,sub_tup (grd_some h1).1 hp hv⟩
 |lst c=>cases i with
  |int j=>
   obtain⟨hj,h1⟩:=grd_some h
   obtain⟨xs,hx,h2⟩:=aA h1
   obtain⟨p,v,hp,hv,h3⟩:=pY h2
   exact⟨_,h3,sub_lst hj hx hp hv⟩
  |str n=>
   obtain⟨cell,hc,h1⟩:=aA h
   cases hd:cell.d with
   |dct kvs=>rw[hd]at h1;obtain⟨v,hv,h2⟩:=aA h1;exact⟨_,h2,sub_dct hc hd hv⟩
   |_=>rw[hd]at h1;exact nos h1
  |_=>exact nos h
 |_=>exact nos h
theorem dN{v:PV}{p:Option Int}{val:Value}{h:Heap}(e:sZ v=some p)(r:VR B ρ h v val):∃q:Option (Int×Tok),val=partValue q∧q.map (·.1)=p∧IsPart val p:=by
 cases v with
 |none=>obtain rfl:val=.none:=r;obtain rfl:=Option.some.inj e;exact⟨none,rfl,rfl,.none⟩
 |int i=>obtain⟨t,rfl⟩:=r;obtain rfl:=Option.some.inj e;exact⟨some (_,t),rfl,rfl,.int ..⟩
 |_=>exact nos e
theorem mD{lo hi st:Option Expr}{p:Pos}{o i:Value}:∃ops,subscripted (.Slice lo hi st p) false o i=operate ops (getItem o i):=by
 cases st with
 |none=>exact⟨_,rfl⟩
 |some e=>exact⟨_,rfl⟩
theorem qR{xs:List PV}{vs:List Value}{h:Heap}(r:VRs B ρ h xs vs):∀l:List Nat,VRs B ρ h (l.filterMap (xs[·]?)) (l.filterMap (vs[·]?))
 |[]=>rfl
 |j::l=>by
  cases hx:xs[j]? with
  |none=>
   have:vs[j]?=none:=by rw[List.getElem?_eq_none_iff]at hx ⊢;rw[r.length];exact hx
   rw[List.filterMap_cons,List.filterMap_cons,hx,this]
   exact qR r l
  |some y=>
   obtain⟨w,hw,hr⟩:=r.get hx
   rw[List.filterMap_cons,List.filterMap_cons,hx,hw]
   exact⟨w,_,rfl,hr,qR r l⟩
theorem eL0(q:Str)(lo hi st:Option Int):(Str.mk ((Builtin.Str.strSliceIndices lo hi (st.getD 1) q.length).filterMap (q.cps[·]?)).toArray).length≤q.length:=by
 have h:=slicePick_size_le (q.cps.map fun (c:Nat)=>Value.int (c:Int) 0) lo hi st
 unfold slicePick at h
 rw[List.size_toArray,Array.size_map]at h
 refine Nat.le_trans (Nat.le_of_eq ?_) h
 show (List.filterMap _ _).length=_
 have:∀l:List Nat,(l.filterMap (q.cps[·]?)).length=(l.filterMap ((q.cps.map fun (c:Nat)=>Value.int (c:Int) 0)[·]?)).length:=fun l=>by
  induction l with
  |nil=>rfl
  |cons j l ih=>cases hj:q.cps[j]?<;>simp[List.filterMap_cons,hj,ih]
 exact this _
noncomputable def SliS(B:Bs)(a:PV)(lo hi st:Option Int)(σ:Sto)(v:PV)(σ':Sto):Prop:=∀(A:Around) (ρ:List Addr) (s:Shared) (value:Expr) (los his sts:Option Expr) (p:Pos) (va vl vh vs:Value) (l h c:PV) (I:Addr),St B ρ σ s→VR B ρ s.heap a va→
 sZ l=some lo→sZ h=some hi→sZ c=some st→VR B ρ s.heap l vl→VR B ρ s.heap h vh→VR B ρ s.heap c vs→s.heap.IsSliceOf I vl vh vs→Ok B A ρ σ s (subscriptTail value (.Slice los his sts p) va (.ref I)) σ' (Is B v)
theorem sli_str{q:Str}{pl ph ps:Option Int}(hz:¬ ps=some 0)(hl:q.length≤100000):SliS B (.str q) pl ph ps σ (.str (aJ q pl ph ps)) σ:=by
 intro A ρ s value los his sts p va vl vh vs l h c I x ha el eh es rl rh rs hI
 obtain⟨ops,hops⟩:=@mD los his sts p va (.ref I)
 obtain⟨t,rfl⟩:=ha
 obtain⟨ql,rfl,e1,_⟩:=dN el rl
 obtain⟨qh,rfl,e2,_⟩:=dN eh rh
 obtain⟨qs,rfl,e3,_⟩:=dN es rs
 have h0:((qs.map (·.1)).getD 1==0)=false:=by
  rw[e3]
  cases ps with
  |none=>rfl
  |some c=>exact beq_eq_false_iff_ne.mpr fun e:c=0=>hz (congrArg some e)
 refine tail_any (typeIs_str _ _ _) F.slot_str_getitem.lookup (wpAny_getItem_str_slice (l:=ql) (u:=qh) (st:=qs) hI h0 ?_) hops
 unfold sliceMade slicePicked
 rw[e1,e2,e3]
 by_cases hc:(ps.getD 1==1&&(Builtin.Str.strSliceIndices pl ph (ps.getD 1) q.length).length==q.length)=true
 ·rw[if_pos hc]
  exact bO x ⟨_,by rw[show aJ q pl ph ps=q from if_pos hc]⟩
 ·rw[if_neg hc]
  exact⟨Nat.le_trans (eL0 q pl ph ps) (Nat.le_trans hl (by decide)),aN x _ ⟨s.toks,by rw[show aJ q pl ph ps=_ from if_neg hc]⟩⟩
theorem sli_lst(ok:BsOk B){i:Nat}{xs:List PV}{pl ph ps:Option Int}(hz:¬ ps=some 0)(hx:bM σ i=some xs)(hl:xs.length≤100000):SliS B (.lst i) pl ph ps σ (.lst σ.length) (σ++[⟨0,.lst (fY xs pl ph ps)⟩]):=by
 intro A ρ s value los his sts p va vl vh vs l h c I x ha el eh es rl rh rs hI
 obtain⟨ops,hops⟩:=@mD los his sts p va (.ref I)
 obtain⟨b,rfl,hb⟩:=ha
 obtain⟨us,hp,hr⟩:=x.list hx hb
 obtain⟨_,_,_,p1⟩:=dN el rl
 obtain⟨_,_,_,p2⟩:=dN eh rh
 obtain⟨_,_,_,p3⟩:=dN es rs
 have hsz:us.toArray.size=xs.length:=hr.length
 refine tail_any hp.isList.typeIs slot_list_getitem.lookup (wpAny_getItem_list_slice hp.isList hI p1 p2 p3 hz ?_ (by rw[hsz];exact Nat.le_trans hl (by decide))) hops
 have hv:slicePick us.toArray pl ph ps=(us.toArray.toList |> fun us=>((sliceRange (sliceBounds pl ph ps xs.length).1 (sliceBounds pl ph ps xs.length).2.1 (sliceBounds pl ph ps xs.length).2.2).filterMap (us[·]?))).toArray:=by
  unfold slicePick
  rw[hsz]
  simp
 rw[hv]
 exact lL ok x _ (qR hr _)
theorem gR0(ok:BsOk B){a:PV}{lo hi st:Option Int}{K:PV→Sto→Option β}(h:sliK a lo hi st σ K=some r):∃v σ',K v σ'=some r∧SliS B a lo hi st σ v σ':=by
 obtain⟨hz,h⟩:=bQ h
 cases a with
 |str y=>exact⟨_,_,(grd_some h).2,sli_str hz (grd_some h).1⟩
 |lst i=>obtain⟨xs,hx,h1⟩:=aA h;exact⟨_,_,(grd_some h1).2,sli_lst ok hz hx (grd_some h1).1⟩
 |_=>exact nos h
end
set_option maxRecDepth 10000
section
open PySem.Builtin PySem.Builtin.Str
theorem wZ(x y:Str)(i j:Int)(t u v w:Tok):PySem.Gives («str.find» ⟨[.str x t,.str y u,.int i v,.int j w],[]⟩) (.int (bX x y i j)):=by
 show PySem.Gives (match occurrences x y (fromIndex x.length i) (min (fromIndex x.length j) x.length) 1 with | k::_=>retInt k | []=>(do rule "str.find.not-found";retInt (-1))) _
 unfold bX
 cases occurrences x y (fromIndex x.length i) (min (fromIndex x.length j) x.length) 1 with
 |nil=>exact .rule (.of_eq rfl)
 |cons k _=>exact .of_eq rfl
end
section
variable {prog:Program}{w:World}{A:Around}{E:Value→Shared→Prop}{s:Shared}{x:Str}{t:Tok}{Q:Value→Shared→Prop}
open PySem.Builtin PySem.Builtin.Str
theorem zN{y:Str}{i j:Int}{u v z:Tok}(hq:Q (.int (bX x y i j) s.toks) { s with toks:=s.toks+1 }):wpAny (model prog w) A (call (.builtin "str.find") [.str x t,.str y u,.int i v,.int j z]) Q E s:=
 call_gives F.slot_str_find (typeIs_str _ _ _) F.entry_str_find (F.args_str_find_4 _ _ _ _) (wZ x y i j t u v z) hq
theorem aM0{y:Str}{u:Tok}(hy:(y.length==0)=false)
  (hq:∀(l:List (Str×Tok)) tk,l.map (·.1)=Txt.split x y→Q (.ref s.heap.objs.size) { s with heap:=s.heap.push { cls:=.type "list",data:=.seq (strValues l).toArray },toks:=tk })
  (hsz:x.length≤sizeLine:=by size_fits) (hsz2:(Txt.split x y).length≤sizeLine):
  wpAny (model prog w) A (call (.builtin "str.split") [.str x t,.str y u]) Q E s:=by
 cases h1:(decide (x.length < y.length) || decide (strKind x < strKind y))
 ·cases hf:(occurrences x y 0 x.length (x.length+1)).isEmpty
  ·have hsp:Txt.split x y=partsBetween x (occurrences x y 0 x.length (x.length+1)) y.length:=(if_neg (ne_true_of_eq_false h1)).trans (if_neg (ne_true_of_eq_false hf))
   refine call_meets F.slot_str_split (typeIs_str _ _ _) F.entry_str_split (F.args_str_split_2 _ _) (meets_str_split_sep x y t u h1 hy hf hsz (hsp▸hsz2)) ?_
   show wants Q E _ { s with toks:=_,heap:=s.heap.push { cls:=.type "list",data:=.seq (strsFrom s.toks (partsBetween x (occurrences x y 0 x.length (x.length+1)) y.length)).toArray } }
   rw[strsFrom_eq]
   exact hq (numbered s.toks _) _ ((numbered_texts _ _).trans ((if_neg (ne_true_of_eq_false h1)).trans (if_neg (ne_true_of_eq_false hf))).symm)
  ·exact call_meets F.slot_str_split (typeIs_str _ _ _) F.entry_str_split (F.args_str_split_2 _ _) (meets_str_split_not_found x y t u h1 hy hf)
    (hq [(x,t)] s.toks ((if_neg (ne_true_of_eq_false h1)).trans (if_pos hf)).symm)
 ·exact call_meets F.slot_str_split (typeIs_str _ _ _) F.entry_str_split (F.args_str_split_2 _ _) (meets_str_split_cannot_occur x y t u h1)
   (hq [(x,t)] s.toks (if_pos h1).symm)
end
section
variable {B:Bs}{A:Around}{ρ:List Addr}{σ:Sto}{s:Shared}{k:Nat}
theorem rT{ys:List PV}{ts:List Str}{vs:List Value}{h:Heap}(e:eR ys=some ts)(r:VRs B ρ h ys vs):∃l:List (Str×Tok),l.map (·.1)=ts∧vs=strValues l:=by
 obtain⟨us,hl,rfl⟩:=jK e r
 refine⟨ts.zip us,?_,rfl⟩
 rw[List.map_fst_zip];lia
theorem vR{h:Heap}:∀l:List (Str×Tok),VRs B ρ h (l.map fun p=>.str p.1) (strValues l)
 |[]=>rfl
 |_::l=>⟨_,_,rfl,⟨_,rfl⟩,vR l⟩
noncomputable def qI(B:Bs)(k:Nat)(f:Value)(args:List PV)(σ:Sto)(v:PV)(σ':Sto):Prop:=∀(A:Around) (ρ:List Addr) (s:Shared) (vals:List Value),Room k A→St B ρ σ s→VRs B ρ s.heap args vals→Ok B A ρ σ s (call f vals) σ' (Is B v)
theorem qI.one{f:Value}{a v:PV}{σ':Sto}(H:∀A ρ s va,St B ρ σ s→VR B ρ s.heap a va→Ok B A ρ σ s (call f [va]) σ' (Is B v)):qI B k f [a] σ v σ':=fun A ρ s vals _ x r=>by
 obtain⟨w,ws,rfl,r1,r2⟩:=r
 obtain rfl:ws=[]:=r2
 exact H A ρ s w x r1
variable {β:Type}{r:β}
theorem aY0{a:PV}{K:PV→Option β}(h:cY0 a σ K=some r):∃v,K v=some r∧qI B k (.builtin "len") [a] σ v σ:=by
 cases a with
 |str y=>exact⟨_,(grd_some h).2,.one fun A ρ s va x ha=>by
   obtain⟨t,rfl⟩:=ha
   exact P.len_str (Int.not_le.mpr (cS0 (Nat.le_trans (grd_some h).1 (by decide)))) (aN x _ ⟨_,rfl⟩)⟩
 |tup xs=>exact⟨_,(grd_some h).2,.one fun A ρ s va x ha=>by
   obtain⟨l,vs,rfl,_,_,ht,hr⟩:=ha
   have hsz:vs.size=xs.length:=hr.length
   exact PyProof.Rows.len_tuple ht (by rw[hsz];exact cS0 (Nat.le_trans (grd_some h).1 (by decide))) (aN x _ ⟨_,by rw[hsz]⟩)⟩
 |lst i=>
  obtain⟨xs,hx,h1⟩:=aA h
  exact⟨_,(grd_some h1).2,.one fun A ρ s va x ha=>by
   obtain⟨l,rfl,hl⟩:=ha
   obtain⟨vs,hp,hr⟩:=x.list hx hl
   have hsz:vs.toArray.size=xs.length:=hr.length
   exact len_list hp.isList (by rw[hsz];exact cS0 (Nat.le_trans (grd_some h1).1 (by decide))) (aN x _ ⟨_,by rw[hsz]⟩)⟩
 |_=>exact nos h
theorem chr_s{i:Int}(h:0≤i∧i≤1114111):qI B k (.builtin "chr") [.int i] σ (.str ⟨#[i.toNat]⟩) σ:=.one fun A ρ s va x ha=>by
 obtain⟨t,rfl⟩:=ha
 exact chr_of_range h.1 h.2 (aN x _ ⟨_,rfl⟩)
theorem ord_s{q:Str}{c:Nat}(h:q.cps.toList=[c]):qI B k (.builtin "ord") [.str q] σ (.int (c:Int)) σ:=.one fun A ρ s va x ha=>by
 obtain⟨t,rfl⟩:=ha
 obtain⟨a⟩:=q
 obtain⟨l⟩:=a
 obtain rfl:l=[c]:=h
 exact P.ord_of_char (aN x _ ⟨_,rfl⟩)
end
section
theorem cF{β:Type}{r:β}{P:Str→Prop}{m c:Str}{x y:Option β}(h:(if m=c then x else y)=some r)(h1:x=some r→P c)(h2:y=some r→P m):P m:=by
 by_cases e:m=c
 ·rw[if_pos e]at h;exact e▸h1 h
 ·rw[if_neg e]at h;exact h2 h
theorem mW{o:Expr}{attr:Str}{env:Env}{whole:Sem Value}(h:uI o=true):attributeBase o attr env whole=whole:=by
 cases o with
 |Call f args kws pos=>cases f with
  |Name id p=>cases args with
   |nil=>cases kws with
    |nil=>
     have hid:(id !=("super":Str))=true:=h
     have e:(id !=("super":Str) || attr=="__class__" || env.kindOf "super" !=some .globalImplicit || env.kindOf "__class__" !=some .free)=true:=by rw[hid];rfl
     exact if_pos e
    |cons _ _=>rfl
   |cons _ _=>rfl
  |_=>rfl
 |_=>rfl
theorem gV0{e:Expr}{rest:List Expr}{env:Env}(h:∀x p,e≠ .Starred x p):starEach (e::rest) env=(false,eval e env)::starEach rest env:=by
 cases e with
 |Starred x p=>exact absurd rfl (h x p)
 |_=>rfl
theorem yG{env:Env}:∀{es:List Expr},(∀e∈es,∀x p,e≠ .Starred x p)→starEach es env=es.map fun e=>(false,eval e env)
 |[],_=>rfl
 |e::es,h=>by
  rw[gV0 (h e List.mem_cons_self),yG fun e' he'=>h e' (List.mem_cons_of_mem _ he')];rfl
section
variable {M:Model}{A:Around}{E:Value→Shared→Prop}{s:Shared}{env:Env}
theorem cA{env:Env}{pos:Pos}{es:List Expr}(h:∀e∈es,∀x p,e≠ .Starred x p):backTo pos (starEach es env)=es.map fun e=>(false,eval e env):=by
 rw[yG h]
 unfold backTo
 rw[List.map_map]
 rfl
theorem bJ{o:Expr}{name:Str}{apos pos:Pos}{args:List Expr}{Q:Value→Shared→Prop}
  (hbase:uI o=true) (hlen:args.length < 10) (hline:(apos.endLine==pos.line)=true) (hst:∀e∈args,∀x p,e≠ .Starred x p)
  (h:wpAny M A (eval o env) (fun ov s₁=>∀pl,wpAny M A (getMethod ov name pl) (fun r s₂=>wpAny M A (callWith pos r.1 r.2 (args.map fun e=>(false,eval e env)) []) Q E s₂) E s₁) E s):
  wpAny M A (eval (.Call (.Attribute o name apos) args [] pos) env) Q E s:=by
 rw[arm_eval_Call,mW hbase,cA hst]
 refine wpAny_bind (wpAny_mono h (fun ov s₁ h₁=>?_) fun _ _ e=>e)
 refine wpAny_bind (wpAny_standAt ?_)
 have hform:methodCallForm (args.length+([]:List Keyword).length) (args.map fun e=>(false,eval e env)) (backToKw pos (keywordEach [] env))=true:=by
  show ((args.map fun e=>(false,eval e env)).all (fun x=>!x.1)&&([]:List (Option Str×Sem Value)).all (fun x=>x.1.isSome)&&decide (args.length+0+0 < 30))=true
  have h1:(args.map fun e=>(false,eval e env)).all (fun x=>!x.1)=true:=by simp
  rw[h1]
  simp;lia
 have hpos:methodCallPos true o env apos pos=pure pos:=by unfold methodCallPos;simp[hline]
 unfold methodCall
 rw[hform]
 refine wpAny_bind (wpAny_holding (wpAny_mono (h₁ _) (fun r s₂ h₂=>?_) fun _ _ e=>e))
 exact wpAny_bind (wpAny_of_eq hpos h₂)
theorem aQ{pos:Pos}{id:String}{first:List Value}{es:List Expr}{Q:Value→Shared→Prop}
  (h:wpAny M A (spliced (es.map fun e=>(false,eval e env))) (fun vs s₁=>wpAny M A (call (.builtin id) (first++vs)) Q E s₁) E s):
  wpAny M A (callWith pos (.builtin id) first (es.map fun e=>(false,eval e env)) []) Q E s:=by
 refine Calls.callWith_builtin (by simp) ?_
 cases es with
 |nil=>exact PyProof.Rows.evalArgs_none fun Γ p hΓ=>(show wpAny M A (call (.builtin id) (first++[])) Q E s from h Γ p hΓ) Γ p hΓ
 |cons e es=>exact Calls.evalArgs_plain h
theorem iI{pos:Pos}{a:Addr}{o:Obj}{fd:FuncData}{first:List Value}{es:List Expr}{Q:Value→Shared→Prop}
  (h:wpAny M A (spliced (es.map fun e=>(false,eval e env))) (fun vs s₁=>(s₁.heap.get? a=some o∧o.data=.func fd)∧wpAny M A (call (.ref a) (first++vs)) Q E s₁) E s):
  wpAny M A (callWith pos (.ref a) first (es.map fun e=>(false,eval e env)) []) Q E s:=by
 refine Calls.callWith_function (o:=o) (fd:=fd) ?_
 cases es with
 |nil=>
  exact fun Γ p hΓ=>PyProof.Rows.evalArgs_none (show (s.heap.get? a=some o∧o.data=.func fd)∧wpAny M A (call (.ref a) (first++[])) Q E s from h Γ p hΓ) Γ p hΓ
 |cons e es=>exact Calls.evalArgs_plain h
end
end
noncomputable def rX(m:Str)(id:String):Prop:=∀(M:Model) (A:Around) (E:Value→Shared→Prop) (s:Shared) (x:Str) (t:Tok) (pl:Sem Bool) (Q:Value×List Value→Shared→Prop),Q (.builtin id,[.str x t]) s→wpAny M A (getMethod (.str x t) m pl) Q E s
theorem fH0:rX "upper" "str.upper":=fun M A E s x t pl Q h=>by with_reducible exact GM.upper h
theorem gG0:rX "lower" "str.lower":=fun M A E s x t pl Q h=>by with_reducible exact GM.lower h
theorem rA:rX "startswith" "str.startswith":=fun M A E s x t pl Q h=>by with_reducible exact GM.startswith h
theorem uK:rX "endswith" "str.endswith":=fun M A E s x t pl Q h=>by with_reducible exact GM.endswith h
theorem gU0:rX "count" "str.count":=fun M A E s x t pl Q h=>by with_reducible exact GM.count h
theorem eU0:rX "split" "str.split":=fun M A E s x t pl Q h=>by with_reducible exact GM.split h
theorem get_find:rX "find" "str.find":=fun M A E s x t pl Q h=>by with_reducible exact GM.find h
theorem qL:rX "join" "str.join":=fun M A E s x t pl Q h=>by with_reducible exact GM.join h
noncomputable def hW(B:Bs)(id:String)(x:Str)(args:List PV)(σ:Sto)(v:PV)(σ':Sto):Prop:=∀(A:Around) (ρ:List Addr) (s:Shared) (t:Tok) (vs:List Value),St B ρ σ s→VRs B ρ s.heap args vs→Ok B A ρ σ s (call (.builtin id) (.str x t::vs)) σ' (Is B v)
section
variable {B:Bs}{σ σ':Sto}{x:Str}
theorem hW.z{id:String}{v:PV}(H:∀A ρ s t,St B ρ σ s→Ok B A ρ σ s (call (.builtin id) [.str x t]) σ' (Is B v)):hW B id x [] σ v σ':=fun A ρ s t vs st hr=>by
 obtain rfl:vs=[]:=hr
 exact H A ρ s t st
theorem hW.s1{id:String}{v:PV}{y:Str}(H:∀A ρ s t u,St B ρ σ s→Ok B A ρ σ s (call (.builtin id) [.str x t,.str y u]) σ' (Is B v)):hW B id x [.str y] σ v σ':=fun A ρ s t vs st hr=>by
 obtain⟨w,ws,rfl,⟨u,rfl⟩,h2⟩:=hr
 obtain rfl:ws=[]:=h2
 exact H A ρ s t u st
theorem split_s(ok:BsOk B){y:Str}(hy:¬ y.length=0)(hn:(Txt.split x y).length≤1000∧x.length≤100000):hW B "str.split" x [.str y] σ (.lst σ.length) (σ++[⟨0,.lst ((Txt.split x y).map .str)⟩]):=.s1 fun A ρ s t u st=>by
 refine aM0 (beq_eq_false_iff_ne.mpr hy) (fun l tk hl=>?_) (Nat.le_trans hn.2 (by decide)) (Nat.le_trans hn.1 (by decide))
 rw[← hl,List.map_map]
 exact lL ok st _ (vR l)
theorem find_s{y:Str}{lo hi:Int}:hW B "str.find" x [.str y,.int lo,.int hi] σ (.int (bX x y lo hi)) σ:=fun A ρ s t vs st hr=>by
 obtain⟨w,ws,rfl,⟨u,rfl⟩,h2⟩:=hr
 obtain⟨w,ws,rfl,⟨u2,rfl⟩,h3⟩:=h2
 obtain⟨w,ws,rfl,⟨u3,rfl⟩,h4⟩:=h3
 obtain rfl:ws=[]:=h4
 exact zN (aN st _ ⟨_,rfl⟩)
theorem join_s{i:Nat}{xs:List PV}{ts:List Str}(hx:bM σ i=some xs)(ht:eR xs=some ts)(hok:JoinOk x ts=true):hW B "str.join" x [.lst i] σ (.str (Txt.join x ts)) σ:=fun A ρ s t vs st hr=>by
 obtain⟨w,ws,rfl,⟨l,rfl,hl⟩,h2⟩:=hr
 obtain rfl:ws=[]:=h2
 obtain⟨us,hp,hru⟩:=st.list hx hl
 obtain⟨l',hl',rfl⟩:=rT ht hru
 exact SC.join hp.isList hl' hok fun t' k=>aN st _ ⟨_,rfl⟩
theorem up_s(h:(Txt.upper x).length≤100000):hW B "str.upper" x [] σ (.str (Txt.upper x)) σ:=.z fun A ρ s t st=>SC.upper (decide_eq_false (Nat.not_lt.mpr (Nat.le_trans h (by decide)))) (aN st _ ⟨_,rfl⟩)
theorem low_s(h:(Txt.lower x).length≤100000):hW B "str.lower" x [] σ (.str (Txt.lower x)) σ:=.z fun A ρ s t st=>SC.lower (decide_eq_false (Nat.not_lt.mpr (Nat.le_trans h (by decide)))) (aN st _ ⟨_,rfl⟩)
variable {β:Type}{r:β}
noncomputable def SMok(B:Bs)(x:Str)(args:List PV)(σ:Sto)(K:PV→Sto→Option β)(r:β)(m:Str):Prop:=∃id,rX m id∧∃v σ',K v σ'=some r∧hW B id x args σ v σ'
theorem sM_some(ok:BsOk B){m:Str}{args:List PV}{K:PV→Sto→Option β}(h:sM m x args σ K=some r):SMok B x args σ K r m:=by
 cases args with
 |nil=>exact cF (P:=SMok B x [] σ K r) h (fun h=>⟨_,fH0,_,_,(grd_some h).2,up_s (grd_some h).1⟩) fun h=>cF (P:=SMok B x [] σ K r) h (fun h=>⟨_,gG0,_,_,(grd_some h).2,low_s (grd_some h).1⟩) nos
 |cons a as=>cases as with
  |nil=>cases a with
   |str y=>
    exact cF (P:=SMok B x [.str y] σ K r) h (fun h=>⟨_,rA,_,_,h,.s1 fun A ρ s t u st=>SC.startswith (bO st rfl)⟩) fun h=>cF (P:=SMok B x [.str y] σ K r) h (fun h=>⟨_,uK,_,_,h,.s1 fun A ρ s t u st=>SC.endswith (bO st rfl)⟩) fun h=>cF (P:=SMok B x [.str y] σ K r) h (fun h=>⟨_,gU0,_,_,h,.s1 fun A ρ s t u st=>SC.count (aN st _ ⟨_,rfl⟩)⟩) fun h=>cF (P:=SMok B x [.str y] σ K r) h (fun h=>⟨_,eU0,_,_,(grd_some (bQ h).2).2,split_s ok (bQ h).1 (grd_some (bQ h).2).1⟩) nos
   |lst i=>
    refine cF (P:=SMok B x [.lst i] σ K r) h (fun h=>?_) nos
    obtain⟨xs,hx,h⟩:=aA h
    obtain⟨ts,ht,h⟩:=aA h
    exact⟨_,qL,_,_,(grd_some h).2,join_s hx ht (grd_some h).1⟩
   |_=>exact nos h
  |cons b bs=>cases bs with
   |nil=>exact nos h
   |cons c cs=>cases cs with
    |nil=>exact mM (P:=fun a=>SMok B x [a,b,c] σ K r m) h fun y h=>dC (P:=fun b=>SMok B x [.str y,b,c] σ K r m) h fun lo h=>dC (P:=fun c=>SMok B x [.str y,.int lo,c] σ K r m) h fun hi h=>cF (P:=SMok B x [.str y,.int lo,.int hi] σ K r) h (fun h=>⟨_,get_find,_,_,(grd_some h).2,find_s⟩) nos
    |cons _ _=>exact nos h
end
noncomputable def Callable(B:Bs)(f:Value):Prop:=∀(A:Around) (E:Value→Shared→Prop) (s:Shared) (pos:Pos) (first:List Value) (es:List Expr) (env:Env) (Q:Value→Shared→Prop),wpAny (model B.prog B.w) A (spliced (es.map fun e=>(false,eval e env))) (fun vs s₁=>(∃ρ σ,St B ρ σ s₁)∧wpAny (model B.prog B.w) A (call f (first++vs)) Q E s₁) E s→
 wpAny (model B.prog B.w) A (callWith pos f first (es.map fun e=>(false,eval e env)) []) Q E s
structure FnOk (B:Bs) (k:Nat) (f:Value) (F:Fn):Prop where
 able:Callable B f
 run:∀(A:Around) (ρ:List Addr) (σ:Sto) (s:Shared) (args:List PV) (vals:List Value) (v:PV) (σ':Sto),Room k A→St B ρ σ s→VRs B ρ s.heap args vals→F args σ=some (v,σ')→
  Ok B A ρ σ s (call f vals) σ' (Is B v)
noncomputable def gD:List (Str×Value):=[("len",.builtin "len"),("chr",.builtin "chr"),("ord",.builtin "ord"),("str",.type "str"),("range",.type "range"),("enumerate",.type "enumerate"),("zip",.type "zip"),("isinstance",.builtin "isinstance"),("list",.type "list")]
structure GlOk (B:Bs) (k:Nat) (G:Gl) (mg mb:Str→Option Value):Prop where
 g:B.h₀.Ns mainNs mg
 b:B.h₀.Ns builtinsNs mb
 og:mainNs∉B.Tb
 ob:builtinsNs∉B.Tb
 fn:∀g F,G.fn g=some F→∃f,mg g=some f∧FnOk B k f F
 con:∀g v,G.con g=some v→∃val,mg g=some val∧∀ρ h,VR B ρ h v val
 set:∀g S,G.set g=some S→∃a n,mg g=some (.ref a)∧a∉B.Tb∧B.h₀.SetOf (intKind B.prog B.w) a S n
 tab:∀g T,G.tab g=some T→∃d f,mg g=some (.ref d)∧d∉B.Tb∧(d==sysModules)=false∧B.h₀.MapOf (intKind B.prog B.w) d f∧∀i,match T i with
  |some x=>∃t,f i=some (.str x t)
  |none=>f i=none
 bg:∀x v,gD.lookup x=some v→mg x=none∧mb x=some v
 meth:∀m F,G.meth m=some F→∃f,FnOk B k f F∧∀(A:Around) (E:Value→Shared→Prop) (ρ:List Addr) (σ:Sto) (s:Shared) (i:Nat) (a:Addr) (c:Cell) (di:Nat) (xs:List PV) (pl:Sem Bool) (Q:Value×List Value→Shared→Prop),St B ρ σ s→σ[i]?=some c→c.d=.acc di xs→ρ[i]?=some a→aI σ (.lst i)=true→Q (f,[.ref a]) s→wpAny (model B.prog B.w) A (getMethod (.ref a) m pl) Q E s
 lenA:∀(A:Around) (ρ:List Addr) (σ:Sto) (s:Shared) (args:List PV) (vals:List Value) (v:PV) (σ':Sto),Room k A→St B ρ σ s→VRs B ρ s.heap args vals→G.lenA args σ=some (v,σ')→
  Ok B A ρ σ s (call (.builtin "len") vals) σ' (Is B v)
 strA:∀(A:Around) (ρ:List Addr) (σ:Sto) (s:Shared) (args:List PV) (vals:List Value) (v:PV) (σ':Sto),Room k A→St B ρ σ s→VRs B ρ s.heap args vals→G.strA args σ=some (v,σ')→
  Ok B A ρ σ s (call (.type "str") vals) σ' (Is B v)
section
variable {B:Bs}{k:Nat}{G:Gl}{n:Nat}
noncomputable abbrev lD(ifs:List Expr)(env:Env):Sem Bool:=
 forIn ifs true fun c r=>if r=true then do let ok ← isTrue c env (eval c env);pure (ForInStep.yield ok) else pure (ForInStep.yield r)
noncomputable def T1{α:Type}(B:Bs)(k:Nat)(cx:Cx)(σ:Sto)(t:Env→Sem α)(σ':Sto)(P:List Addr→Heap→α→Prop):Prop:=
 ∀A X env ρ s,Room k A→St B ρ σ s→Fr B X cx env ρ s.heap→Ok B A ρ σ s (t env) σ' P
noncomputable abbrev E1(B:Bs)(k:Nat)(cx:Cx)(σ:Sto)(e:Expr)(v:PV)(σ':Sto):Prop:=T1 B k cx σ (eval e) σ' (Is B v)
noncomputable abbrev Part(B:Bs)(p:Option Int):List Addr→Heap→Value→Prop:=fun ρ' h' val=>∃pv,sZ pv=some p∧VR B ρ' h' pv val
structure Es (B:Bs) (k:Nat) (cx:Cx) (σ:Sto) (es:List Expr) (vs:List PV) (σ':Sto):Prop where
 star:∀e∈es,∀x p,e≠ .Starred x p
 len:vs.length=es.length
 run:T1 B k cx σ (fun env=>spliced (es.map fun e=>(false,eval e env))) σ' (fun ρ' h' vals=>VRs B ρ' h' vs vals)
noncomputable abbrev Tr(B:Bs)(k:Nat)(cx:Cx)(σ:Sto)(e:Expr)(b:Bool)(σ':Sto):Prop:=T1 B k cx σ (fun env=>isTrue e env (eval e env)) σ' (fun _ _ b'=>b'=b)
noncomputable def EvS(β:Type)(B:Bs)(k:Nat)(G:Gl)(n:Nat):Prop:=∀{cx σ e} {K:PV→Sto→Option β} {r:β} {C:Prop},evK G n cx σ e K=some r→(∀v σ',K v σ'=some r→E1 B k cx σ e v σ'→C)→C
noncomputable def lE0(β:Type)(B:Bs)(k:Nat)(G:Gl)(n:Nat):Prop:=∀{cx σ e} {K:List PV→Sto→Option β} {r:β} {C:Prop},uS G n cx σ e K=some r→(∀v σ',K v σ'=some r→Es B k cx σ e v σ'→C)→C
noncomputable def EvOS(β:Type)(B:Bs)(k:Nat)(G:Gl)(n:Nat):Prop:=∀{cx σ e} {K:Option Int→Sto→Option β} {r:β} {C:Prop},evOK G n cx σ e K=some r→(∀p σ',K p σ'=some r→T1 B k cx σ (evalPart e) σ' (Part B p)→C)→C
noncomputable def aA0(β:Type)(B:Bs)(k:Nat)(G:Gl)(n:Nat):Prop:=∀{cx σ e} {K:Bool→Sto→Option β} {r:β} {C:Prop},dH G n cx σ e K=some r→(∀b σ',K b σ'=some r→Tr B k cx σ e b σ'→C)→C
noncomputable def dC0(β:Type)(B:Bs)(k:Nat)(G:Gl)(n:Nat):Prop:=∀{cx σ op es} {K:Bool→Sto→Option β} {r:β} {C:Prop},rB G n cx σ op es K=some r→(∀b σ',K b σ'=some r→T1 B k cx σ (allTrue op es) σ' (fun _ _ b'=>b'=b)→C)→C
noncomputable def tV(β:Type)(B:Bs)(k:Nat)(G:Gl)(n:Nat):Prop:=∀{cx σ es} {K:Bool→Sto→Option β} {r:β} {C:Prop},rB G n cx σ .And es K=some r→(∀b σ',K b σ'=some r→T1 B k cx σ (lD es) σ' (fun _ _ b'=>b'=b)→C)→C
section
variable {α γ:Type}{cx:Cx}{σ σ₁ σ₂ σ':Sto}
theorem T1.mono{t:Env→Sem α}{P Q:List Addr→Heap→α→Prop}(h:T1 B k cx σ t σ' P)(i:∀ρ h a,P ρ h a→Q ρ h a):T1 B k cx σ t σ' Q:=fun A X env ρ s R x f=>(h A X env ρ s R x f).mono i
theorem T1.use{t:Env→Sem α}{P:List Addr→Heap→α→Prop}(h:T1 B k cx σ t σ₁ P){A:Around}{X:List Addr}{env:Env}{ρ:List Addr}{s:Shared}(R:Room k A)(x:St B ρ σ s)(f:Fr B X cx env ρ s.heap){Q:α→Shared→Prop}{E:Value→Shared→Prop}
  (q:∀a ρ₁ s₁,St B ρ₁ σ₁ s₁→Evo B [] ρ σ s.heap ρ₁ σ₁ s₁.heap→Fr B X cx env ρ₁ s₁.heap→P ρ₁ s₁.heap a→Q a s₁):wpAny (model B.prog B.w) A (t env) Q E s:=
 (h A X env ρ s R x f).use fun a ρ₁ s₁ x₁ e₁ p=>q a ρ₁ s₁ x₁ e₁ (f.evo e₁) p
theorem T1.end'{t:Env→Sem α}{P:List Addr→Heap→α→Prop}(h:T1 B k cx σ t σ' P){A:Around}{X:List Addr}{env:Env}{ρ:List Addr}{s:Shared}(R:Room k A)(x:St B ρ σ s)(f:Fr B X cx env ρ s.heap)
  {ρ₀:List Addr} {σ₀:Sto} {h₀:Heap} (e:Evo B [] ρ₀ σ₀ h₀ ρ σ s.heap):wpAny (model B.prog B.w) A (t env) (fun a s'=>∃ρ',St B ρ' σ' s'∧Evo B [] ρ₀ σ₀ h₀ ρ' σ' s'.heap∧P ρ' s'.heap a) (fun _ _=>False) s:=
 wpAny_mono (h A X env ρ s R x f) (fun _ _ h=>h.imp fun _ h=>h.imp_right fun h=>h.imp_left e.trans) fun _ _ f=>f
end
theorem oK{mg mb}(gok:GlOk B k G mg mb){cx:Cx}{x:Str}{v:PV}{σ:Sto}{pos:Pos}
  (hd:¬ (x="__debug__"∨x="__classdict__")) (h:cx.le.lookup x=some v∨(cx.names.lookup x=some .globalImplicit∧G.con x=some v)):E1 B k cx σ (.Name x pos) v σ:=fun A X env ρ s _ st f=>by
 have hd1:(x==("__debug__":Str))=false:=beq_eq_false_iff_ne.mpr fun e=>hd (.inl e)
 rcases h with h | ⟨hn,hc⟩
 ·refine wpAny_Name ?_ hd1
  rcases f.dom x v h with hl | hl | hl
  ·obtain⟨m,hns,hm⟩:=f.loc
   obtain⟨val,e1,e2⟩:=(hm x hl).2 v h
   exact wpAny_loadName_local f.kind (hm x hl).1 hns e1 (bO st e2)
  ·obtain⟨hk,c,w,hc,_,hw,hv⟩:=f.cel x hl
   obtain⟨val,rfl,e2⟩:=hv v h
   exact wpAny_loadName_cell f.kind hk hc hw (bO st e2)
  ·obtain⟨hk,c,val,hc,hw,e2⟩:=f.fre x hl v h
   rcases hk with hk | hk
   ·exact wpAny_loadName_cell f.kind hk hc hw (bO st e2)
   ·exact wpAny_loadName_free f.kind hk hc hw (bO st e2) (beq_eq_false_iff_ne.mpr fun e=>hd (.inr e))
 ·obtain⟨val,e1,e2⟩:=gok.con x v hc
  refine Calls.Name_function_global f.kind (f.glb x hn) (Calls.loadGlobal_global (mg:=mg) ?_ e1 (bO st (e2 _ _))) hd1
  rw[f.glob]
  exact gok.g.at' fun o ho=>st.base _ o ho gok.og
theorem cT{mg mb}(gok:GlOk B k G mg mb){cx:Cx}{x:Str}{val:Value}{σ:Sto}{A:Around}{X:List Addr}{env:Env}{ρ:List Addr}{s:Shared}{pos:Pos}{E:Value→Shared→Prop}{Q:Value→Shared→Prop}
  (st:St B ρ σ s) (f:Fr B X cx env ρ s.heap) (hn:cx.names.lookup x=some .globalImplicit) (hd:(x==("__debug__":Str))=false) (hv:mg x=some val∨(mg x=none∧mb x=some val)) (h:Q val s):
  wpAny (model B.prog B.w) A (eval (.Name x pos) env) Q E s:=by
 have hg:s.heap.Ns env.globals mg:=by rw[f.glob];exact gok.g.at' fun o ho=>st.base _ o ho gok.og
 rcases hv with hv | ⟨hm,hv⟩
 ·exact Calls.Name_function_global f.kind (f.glb x hn) (Calls.loadGlobal_global hg hv h) hd
 ·have hb:s.heap.Ns env.builtins mb:=by rw[f.bt];exact gok.b.at' fun o ho=>st.base _ o ho gok.ob
  exact Calls.Name_function_global f.kind (f.glb x hn) (Calls.loadGlobal_builtin hg hm hb hv h) hd
end
section
variable {β:Type}{B:Bs}{k:Nat}{G:Gl}{n:Nat}{r:β}
theorem dG{C:Prop}{b:Bool}{x y:Option β}(h:onB b x y=some r)(h1:b=true→x=some r→C)(h2:b=false→y=some r→C):C:=by
 cases b with
 |true=>exact h1 rfl h
 |false=>exact h2 rfl h
theorem vN{C:Prop}{b:Bool}{y:Option β}(h:onB b none y=some r)(h2:b=false→y=some r→C):C:=dG h (fun _ h=>nos h) h2
theorem lU{C:Prop}{b:Bool}{y:Option β}(h:onB b y none=some r)(h2:b=true→y=some r→C):C:=dG h h2 fun _ h=>nos h
theorem xB{cx:Cx}{σ:Sto}{e:Expr}{K:PV→Sto→Option β}(h:evK G n cx σ e K=some r):∀x p,e≠ .Starred x p:=fun x p e=>by
 subst e
 cases n with
 |zero=>exact nos h
 |succ n=>exact nos h
theorem lN0{cx:Cx}{σ:Sto}:Es B k cx σ [] [] σ:=⟨fun _ h=>(nomatch h),rfl,fun _ _ _ ρ _ _ x _=>Calls.spliced_nil ⟨ρ,x,.refl ..,rfl⟩⟩
theorem uC{cx:Cx}{σ σ₁ σ₂:Sto}{e:Expr}{es:List Expr}{v:PV}{vs:List PV}(hs:∀x p,e≠ .Starred x p)(H1:E1 B k cx σ e v σ₁)(H2:Es B k cx σ₁ es vs σ₂):Es B k cx σ (e::es) (v::vs) σ₂:=
 ⟨List.forall_mem_cons.mpr ⟨hs,H2.star⟩,congrArg (· +1) H2.len,fun _ _ _ _ _ R x f=>Calls.spliced_cons (H1.use R x f fun va _ _ x₁ e₁ f₁ r₁=>H2.run.use R x₁ f₁ fun vals ρ₂ _ x₂ e₂ _ r₂=>⟨ρ₂,x₂,e₁.trans e₂,va,vals,rfl,VR.evo e₂ _ r₁,r₂⟩)⟩
theorem eM0(ih:EvS β B k G n)(ihs:lE0 β B k G n):lE0 β B k G (n+1):=fun {cx σ es K r C} h c=>by
 cases es with
 |nil=>exact c _ _ h lN0
 |cons e es=>exact ih h fun v σ₁ h1 H1=>ihs h1 fun vs σ₂ h2 H2=>c _ _ h2 (uC (xB h) H1 H2)
theorem oM{cx:Cx}{σ σ₁:Sto}{e:Expr}{v:PV}{p:Option Int}(H:E1 B k cx σ e v σ₁)(hp:sZ v=some p):T1 B k cx σ (evalPart (some e)) σ₁ (Part B p):=fun A X env ρ s R x f=>by
 rw[evalPart_some]
 exact (H A X env ρ s R x f).mono fun _ _ _ r=>⟨v,hp,r⟩
theorem eJ0(ih:EvS β B k G n):EvOS β B k G (n+1):=fun {cx σ e K r C} h c=>by
 cases e with
 |none=>exact c _ _ h fun A X env ρ s R x f=>by rw[evalPart_none];exact wpAny_pure ⟨ρ,x,.refl ..,.none,rfl,rfl⟩
 |some e=>
  refine ih h fun v σ₁ h1 H1=>?_
  cases v with
  |none=>exact c _ _ h1 (oM H1 rfl)
  |int i=>exact c _ _ h1 (oM H1 rfl)
  |_=>exact nos h1
section
variable {cx:Cx}{σ σ₁ σ₂ σ₃:Sto}{e:Expr}{es:List Expr}{b c:Bool}
theorem all_and(H1:Tr B k cx σ e true σ₁)(H2:T1 B k cx σ₁ (allTrue .And es) σ₂ (fun _ _ b'=>b'=c)):T1 B k cx σ (allTrue .And (e::es)) σ₂ (fun _ _ b'=>b'=c):=fun A X env ρ s R x f=>wpAny_allTrue_And_cons (H1.use R x f fun t ρ₁ s₁ x₁ e₁ f₁ ht=>by subst ht;exact H2.end' R x₁ f₁ e₁)
theorem kH0(H1:Tr B k cx σ e false σ₁):T1 B k cx σ (allTrue .And (e::es)) σ₁ (fun _ _ b'=>b'=false):=fun A X env ρ s R x f=>wpAny_allTrue_And_cons (H1.use R x f fun t ρ₁ s₁ x₁ e₁ f₁ ht=>by subst ht;exact⟨ρ₁,x₁,e₁,rfl⟩)
theorem all_or(H1:Tr B k cx σ e false σ₁)(H2:T1 B k cx σ₁ (allTrue .Or es) σ₂ (fun _ _ b'=>b'=c)):T1 B k cx σ (allTrue .Or (e::es)) σ₂ (fun _ _ b'=>b'=c):=fun A X env ρ s R x f=>wpAny_allTrue_Or_cons (H1.use R x f fun t ρ₁ s₁ x₁ e₁ f₁ ht=>by subst ht;exact H2.end' R x₁ f₁ e₁)
theorem all_ory(H1:Tr B k cx σ e true σ₁):T1 B k cx σ (allTrue .Or (e::es)) σ₁ (fun _ _ b'=>b'=true):=fun A X env ρ s R x f=>wpAny_allTrue_Or_cons (H1.use R x f fun t ρ₁ s₁ x₁ e₁ f₁ ht=>by subst ht;exact⟨ρ₁,x₁,e₁,rfl⟩)
end
theorem bQ0(ih:aA0 β B k G n)(ihs:dC0 β B k G n):dC0 β B k G (n+1):=fun {cx σ op es K r C} h c=>by
 cases es with
 |nil=>cases op with
  |And=>exact c _ _ h fun A X env ρ s R x f=>wpAny_allTrue_And_nil ⟨ρ,x,.refl ..,rfl⟩
  |Or=>exact c _ _ h fun A X env ρ s R x f=>wpAny_allTrue_Or_nil ⟨ρ,x,.refl ..,rfl⟩
 |cons e es=>
  refine ih h fun b σ₁ h1 H1=>?_
  cases op with
  |And=>exact dG h1 (fun e h=>ihs h fun _ _ h2 H2=>c _ _ h2 (all_and (e▸H1) H2)) fun e h=>c _ _ h (kH0 (e▸H1))
  |Or=>exact dG h1 (fun e h=>c _ _ h (all_ory (e▸H1))) fun e h=>ihs h fun _ _ h2 H2=>c _ _ h2 (all_or (e▸H1) H2)
theorem nR{env:Env}:∀es:List Expr,(forIn es false fun c r=>if r=true then do let ok ← isTrue c env (eval c env);pure (ForInStep.yield ok) else pure (ForInStep.yield r):Sem Bool)=pure false
 |[]=>rfl
 |e::es=>by
  rw[List.forIn_cons,if_neg Bool.false_ne_true,pure_bind]
  exact nR es
theorem oU{cx:Cx}{σ σ₁ σ₂:Sto}{e:Expr}{es:List Expr}{b c:Bool}(H1:Tr B k cx σ e b σ₁)
  (H2:T1 B k cx σ₁ (fun env=>forIn es b fun c r=>if r=true then do let ok ← isTrue c env (eval c env);pure (ForInStep.yield ok) else pure (ForInStep.yield r)) σ₂ (fun _ _ b'=>b'=c)):T1 B k cx σ (lD (e::es)) σ₂ (fun _ _ b'=>b'=c):=fun A X env ρ s R x f=>by
 show wpAny _ A (forIn (e::es) true _) _ _ s
 rw[List.forIn_cons,if_pos rfl]
 refine wpAny_bind (wpAny_bind (H1.use R x f fun t ρ₁ s₁ x₁ e₁ f₁ ht=>wpAny_pure ?_))
 subst ht
 exact H2.end' R x₁ f₁ e₁
theorem yU(ih:aA0 β B k G n)(ihs:tV β B k G n):tV β B k G (n+1):=fun {cx σ es K r C} h c=>by
 cases es with
 |nil=>exact c _ _ h fun A X env ρ s R x f=>wpAny_tests_nil ⟨ρ,x,.refl ..,rfl⟩
 |cons e es=>exact ih h fun b σ₁ h1 H1=>dG h1 (fun e h=>ihs h fun _ _ h2 H2=>c _ _ h2 (oU (e▸H1) H2)) fun e h=>c _ _ h (oU (e▸H1) fun A X env ρ s R x f=>wpAny_of_eq (nR es) ⟨ρ,x,.refl ..,rfl⟩)
theorem tr_not{cx:Cx}{σ σ₁:Sto}{e:Expr}{p:Pos}{b:Bool}(H:Tr B k cx σ e b σ₁):Tr B k cx σ (.UnaryOp .Not e p) (!b) σ₁:=fun _ _ _ _ _ R x f=>wpAny_isTrue_Not (H.use R x f fun _ ρ₁ _ x₁ e₁ _ ht=>⟨ρ₁,x₁,e₁,congrArg _ ht⟩)
theorem tr_val{cx:Cx}{σ σ₁:Sto}{e:Expr}{v:PV}{b:Bool}(he:∀env,isTrue e env (eval e env)=(do let v ← eval e env;standAt e.pos;holding [v] (truthy v)))(H:E1 B k cx σ e v σ₁)(ht:gZ B v b):Tr B k cx σ e b σ₁:=fun A _ env _ _ R x f=>wpAny_isTrue_value (H.use R x f fun va ρ₁ s₁ x₁ e₁ _ r₁=>Ok.after e₁ (ht A ρ₁ σ₁ s₁ va x₁ r₁)) (he env)
theorem tr_cmp{cx:Cx}{σ σ₁ σ₂:Sto}{l r:Expr}{op:CmpOp}{p:Pos}{a b:PV}{t:Bool}(hm:behindInMarks op r=false)(H1:E1 B k cx σ l a σ₁)(H2:E1 B k cx σ₁ r b σ₂)(ht:aS0 op σ₂ a b=some t):Tr B k cx σ (.Compare l [op] [r] p) t σ₂:=fun A X env ρ s R x f=>
 wpAny_isTrue_Compare1 (H1.use R x f fun va ρ₁ s₁ x₁ e₁ f₁ r₁=>H2.use R x₁ f₁ fun vc ρ₂ s₂ x₂ e₂ f₂ r₂=>(rN R x₂ ht (VR.evo e₂ _ r₁) r₂).use fun vt ρ₃ s₃ x₃ e₃ r₃=>by
  obtain rfl:vt=.bool t:=r₃
  exact wpAny_truthy_bool ⟨ρ₃,x₃,(e₁.trans e₂).trans e₃,rfl⟩) hm
theorem tr_cmp2{cx:Cx}{σ σ₁ σ₂ σ₃:Sto}{l r r2:Expr}{op op2:CmpOp}{p:Pos}{a b c:PV}{t2:Bool}(hm:behindInMarks op2 r2=false)(H1:E1 B k cx σ l a σ₁)(H2:E1 B k cx σ₁ r b σ₂)(ht:aS0 op σ₂ a b=some true)
  (H3:E1 B k cx σ₂ r2 c σ₃) (ht2:aS0 op2 σ₃ b c=some t2):Tr B k cx σ (.Compare l [op,op2] [r,r2] p) t2 σ₃:=fun A X env ρ s R x f=>
 isTrue_chain (H1.use R x f fun va ρ₁ s₁ x₁ e₁ f₁ r₁=>test_link (H2.use R x₁ f₁ fun vc ρ₂ s₂ x₂ e₂ f₂ r₂=>(rN R x₂ ht (VR.evo e₂ _ r₁) r₂).use fun vt ρ₃ s₃ x₃ e₃ r₃=>by
  obtain rfl:vt=.bool true:=r₃
  exact wpAny_truthy_bool (test_last (H3.use R x₃ (f₂.evo e₃) fun vd ρ₄ s₄ x₄ e₄ f₄ r₄=>(rN R x₄ ht2 (VR.evo (e₃.trans e₄) _ r₂) r₄).use fun vt ρ₅ s₅ x₅ e₅ r₅=>by
   obtain rfl:vt=.bool t2:=r₅
   exact wpAny_truthy_bool ⟨ρ₅,x₅,((e₁.trans e₂).trans e₃).trans (e₄.trans e₅),rfl⟩)))) (by simpa [lastMarks]using hm)
theorem tr_cmpn{cx:Cx}{σ σ₁ σ₂:Sto}{l r r2:Expr}{op op2:CmpOp}{p:Pos}{a b:PV}(hm:behindInMarks op2 r2=false)(H1:E1 B k cx σ l a σ₁)(H2:E1 B k cx σ₁ r b σ₂)(ht:aS0 op σ₂ a b=some false):Tr B k cx σ (.Compare l [op,op2] [r,r2] p) false σ₂:=fun A X env ρ s R x f=>
 isTrue_chain (H1.use R x f fun va ρ₁ s₁ x₁ e₁ f₁ r₁=>test_link (H2.use R x₁ f₁ fun vc ρ₂ s₂ x₂ e₂ f₂ r₂=>(rN R x₂ ht (VR.evo e₂ _ r₁) r₂).use fun vt ρ₃ s₃ x₃ e₃ r₃=>by
  obtain rfl:vt=.bool false:=r₃
  exact wpAny_truthy_bool ⟨ρ₃,x₃,(e₁.trans e₂).trans e₃,rfl⟩)) (by simpa [lastMarks]using hm)
theorem hK0(ih:EvS β B k G n)(iht:aA0 β B k G n)(ihs:dC0 β B k G n):aA0 β B k G (n+1):=fun {cx σ e K r C} h c=>dG h (fun hv h=>ih h fun v σ₁ h1 H1=>mA h1 fun t h2 ht=>c _ _ h2 (tr_val (aB0 hv) H1 ht)) fun _ h=>
 bP0 (P:=fun e=>(∀b σ',K b σ'=some r→Tr B k cx σ e b σ'→C)→C) h (fun op y p h c=>by
   cases op with
   |Not=>exact iht h fun _ _ h1 H1=>c _ _ h1 (tr_not H1)
   |_=>exact nos h)
  (fun op vs p h c=>ihs h fun _ _ h1 H1=>c _ _ h1 fun A X env ρ s R x f=>wpAny_isTrue_BoolOp (H1 A X env ρ s R x f))
  (fun l ops rs p h=>cA0 (P:=fun ops rs=>(∀b σ',K b σ'=some r→Tr B k cx σ (.Compare l ops rs p) b σ'→C)→C) h
   (fun op d h c=>vN h fun hm h=>ih h fun _ _ h H1=>ih h fun _ _ h H2=>aY h fun _ ht h=>c _ _ h (tr_cmp hm H1 H2 ht))
   fun op op2 d d2 h c=>vN h fun hm h=>ih h fun _ _ h H1=>ih h fun _ _ h H2=>aY h fun _ ht h=>dG h
    (fun e h=>ih h fun _ _ h H3=>aY h fun _ ht2 h=>c _ _ h (tr_cmp2 hm H1 H2 (e▸ht) H3 ht2)) fun e h=>c _ _ h (tr_cmpn hm H1 H2 (e▸ht))) c
end
section
variable {B:Bs}{k:Nat}{G:Gl}{n:Nat}{cx:Cx}{σ σ₁ σ₂ σ₃ σ₄ σ':Sto}{pos:Pos}
theorem tup_new(ok:BsOk B){ρ:List Addr}{σ:Sto}{s:Shared}(x:St B ρ σ s){xs:List PV}{vs:List Value}(r:VRs B ρ s.heap xs vs):
  ∃ρ',St B ρ' σ { s with heap:=s.heap.push { cls:=.type "tuple",data:=.seq vs.toArray } }∧Evo B [] ρ σ s.heap ρ' σ (s.heap.push { cls:=.type "tuple",data:=.seq vs.toArray })∧
   VR B ρ' (s.heap.push { cls:=.type "tuple",data:=.seq vs.toArray }) (.tup xs) (.ref s.heap.objs.size):=by
 obtain⟨x',e⟩:=x.grow ok (s':={ s with heap:=s.heap.push { cls:=.type "tuple",data:=.seq vs.toArray } }) rfl x.gens fun a o ho=>Heap.get?_push_of_some _ ho
 have hn:=get?_size s.heap
 refine⟨ρ,x',e,s.heap.objs.size,vs.toArray,rfl,fun hm=>?_,fun hm=>?_,⟨_,Heap.get?_push_size _ rfl,rfl,_,rfl⟩,VRs.evo e _ r⟩
 ·obtain⟨o,ho⟩:=x.alive hm;rw[hn]at ho;exact nos ho
 ·obtain⟨o,ho⟩:=ok.tb _ x.inv _ hm;rw[hn]at ho;exact nos ho
theorem xF{c:Const}{kk:Nat}{v:PV}(h:iL0 c=some v):E1 B k cx σ (.Constant c kk pos) v σ:=by
 intro A X env ρ s R x f
 cases c with
 |none=>cases h;exact wpAny_Constant_none ⟨ρ,x,.refl ..,rfl⟩
 |bool b=>cases h;exact wpAny_Constant_bool ⟨ρ,x,.refl ..,rfl⟩
 |int i=>cases h;exact wpAny_Constant_int (aN x _ ⟨_,rfl⟩)
 |str y=>cases h;exact wpAny_Constant_str (aN x _ ⟨_,rfl⟩)
 |_=>exact nos h
theorem yH{l r:Expr}{op:Operator}{a b v:PV}(hl:E1 B k cx σ l a σ₁)(hr:E1 B k cx σ₁ r b σ₂)(h:gI B op a b σ₂ v σ'):E1 B k cx σ (.BinOp l op r pos) v σ':=fun A _ _ _ _ R x f=>wpAny_BinOp (hl.use R x f fun va _ _ x₁ e₁ f₁ r₁=>hr.use R x₁ f₁ fun vb ρ₂ s₂ x₂ e₂ _ r₂=>Ok.after (e₁.trans e₂) (h A ρ₂ s₂ va vb x₂ (VR.evo e₂ _ r₁) r₂))
theorem gQ0{y:Expr}{i:Int}(h:E1 B k cx σ y (.int i) σ₁):E1 B k cx σ (.UnaryOp .USub y pos) (.int (-i)) σ₁:=fun A X env ρ s R x f=>
 wpAny_UnaryOp (h.use R x f fun va ρ₁ s₁ x₁ e₁ f₁ r₁=>by
  obtain⟨t,rfl⟩:=r₁
  exact PyProof.Rows.neg_int ⟨ρ₁,x₁.tok _,e₁,_,rfl⟩)
theorem gJ0{y:Expr}{v:PV}{t:Bool}(h:E1 B k cx σ y v σ₁)(ht:gZ B v t):E1 B k cx σ (.UnaryOp .Not y pos) (.bool (!t)) σ₁:=fun A X env ρ s R x f=>wpAny_UnaryOp (h.use R x f fun va ρ₁ s₁ x₁ e₁ f₁ r₁=>not_value ((ht A ρ₁ σ₁ s₁ va x₁ r₁).use fun b ρ₂ s₂ x₂ e₂ hb=>⟨ρ₂,x₂,e₁.trans e₂,by rw[hb];rfl⟩))
theorem eH0{t a b:Expr}{v:PV}(ht:Tr B k cx σ t true σ₁)(h:E1 B k cx σ₁ a v σ₂):E1 B k cx σ (.IfExp t a b pos) v σ₂:=fun A X env ρ s R x f=>wpAny_IfExp (ht.use R x f fun b' ρ₁ s₁ x₁ e₁ f₁ hb=>by subst hb;exact h.end' R x₁ f₁ e₁)
theorem fN0{t a b:Expr}{v:PV}(ht:Tr B k cx σ t false σ₁)(h:E1 B k cx σ₁ b v σ₂):E1 B k cx σ (.IfExp t a b pos) v σ₂:=fun A X env ρ s R x f=>wpAny_IfExp (ht.use R x f fun b' ρ₁ s₁ x₁ e₁ f₁ hb=>by subst hb;exact h.end' R x₁ f₁ e₁)
theorem aF0{y z:Expr}{u v:PV}(hu:E1 B k cx σ y u σ₁)(ht:gZ B u true)(h:E1 B k cx σ₁ z v σ₂):E1 B k cx σ (.BoolOp .And [y,z] pos) v σ₂:=fun A X env ρ s R x f=>wpAny_And2 (hu.use R x f fun va ρ₁ s₁ x₁ e₁ f₁ r₁=>(ht A ρ₁ σ₁ s₁ va x₁ r₁).use fun b ρ₂ s₂ x₂ e₂ hb=>by subst hb;exact h.end' R x₂ (f₁.evo e₂) (e₁.trans e₂))
theorem aQ0{y z:Expr}{u:PV}(hu:E1 B k cx σ y u σ₁)(ht:gZ B u false):E1 B k cx σ (.BoolOp .And [y,z] pos) u σ₁:=fun A X env ρ s R x f=>wpAny_And2 (hu.use R x f fun va ρ₁ s₁ x₁ e₁ f₁ r₁=>(ht A ρ₁ σ₁ s₁ va x₁ r₁).use fun b ρ₂ s₂ x₂ e₂ hb=>by subst hb;exact⟨ρ₂,x₂,e₁.trans e₂,VR.evo e₂ _ r₁⟩)
theorem gO0{y z:Expr}{u v:PV}(hu:E1 B k cx σ y u σ₁)(ht:gZ B u false)(h:E1 B k cx σ₁ z v σ₂):E1 B k cx σ (.BoolOp .Or [y,z] pos) v σ₂:=fun A X env ρ s R x f=>wpAny_Or2 (hu.use R x f fun va ρ₁ s₁ x₁ e₁ f₁ r₁=>(ht A ρ₁ σ₁ s₁ va x₁ r₁).use fun b ρ₂ s₂ x₂ e₂ hb=>by subst hb;exact h.end' R x₂ (f₁.evo e₂) (e₁.trans e₂))
theorem fE0{y z:Expr}{u:PV}(hu:E1 B k cx σ y u σ₁)(ht:gZ B u true):E1 B k cx σ (.BoolOp .Or [y,z] pos) u σ₁:=fun A X env ρ s R x f=>wpAny_Or2 (hu.use R x f fun va ρ₁ s₁ x₁ e₁ f₁ r₁=>(ht A ρ₁ σ₁ s₁ va x₁ r₁).use fun b ρ₂ s₂ x₂ e₂ hb=>by subst hb;exact⟨ρ₂,x₂,e₁.trans e₂,VR.evo e₂ _ r₁⟩)
theorem eV0{l r:Expr}{op:CmpOp}{a b:PV}{t:Bool}(hm:behindInMarks op r=false)(H1:E1 B k cx σ l a σ₁)(H2:E1 B k cx σ₁ r b σ₂)(ht:aS0 op σ₂ a b=some t):E1 B k cx σ (.Compare l [op] [r] pos) (.bool t) σ₂:=fun _ _ _ _ _ R x f=>wpAny_Compare1 (H1.use R x f fun _ _ _ x₁ e₁ f₁ r₁=>H2.use R x₁ f₁ fun _ _ _ x₂ e₂ _ r₂=>Ok.after (e₁.trans e₂) (rN R x₂ ht (VR.evo e₂ _ r₁) r₂)) hm
theorem xQ(ok:BsOk B){es:List Expr}{kk:Nat}{vs:List PV}(hlen:es.length≤1000)(H:Es B k cx σ es vs σ'):E1 B k cx σ (.Tuple es kk pos) (.tup vs) σ':=fun A X env ρ s R x f=>by
 refine wpAny_Tuple ?_
 rw[cA H.star]
 exact H.run.use R x f fun vals ρ₁ s₁ x₁ e₁ f₁ r₁=>⟨by rw[r₁.length,H.len];exact Nat.le_trans hlen (by decide),(tup_new ok x₁ r₁).imp fun _ h=>h.imp_right fun h=>h.imp_left e₁.trans⟩
theorem bB0(ok:BsOk B){es:List Expr}{vs:List PV}(hlen:es.length≤1000)(H:Es B k cx σ es vs σ'):E1 B k cx σ (.List es pos) (.lst σ'.length) (σ'++[⟨0,.lst vs⟩]):=fun A X env ρ s R x f=>by
 refine wpAny_List ?_
 rw[cA H.star]
 exact H.run.use R x f fun vals ρ₁ s₁ x₁ e₁ f₁ r₁=>⟨by rw[r₁.length,H.len];exact Nat.le_trans hlen (by decide),(lL ok x₁ s₁.toks r₁).imp fun _ h=>h.imp_right fun h=>h.imp_left e₁.trans⟩
theorem aD0(ok:BsOk B):E1 B k cx σ (.Dict [] [] pos) (.lst σ.length) (σ++[⟨0,.dct []⟩]):=fun A X env ρ s R x f=>by
 refine wpAny_Dict_empty ?_
 obtain⟨x',e',hat⟩:=x.new ok (s':={ s with heap:=s.heap.push { cls:=.type "dict",data:=.dict #[] } }) (a:=s.heap.objs.size) (d:=.dct []) rfl rfl (get?_size _)
  (fun b o ho=>Heap.get?_push_of_some _ ho) fun ρ' σ' e hρ=>⟨[],Heap.DictOf.new _,rfl,rfl⟩
 exact⟨_,x',e',_,rfl,hat⟩
theorem oA(ok:BsOk B){val:Expr}{lo hi st:Option Expr}{p:Pos}{a v:PV}{l h' kk:Option Int}
  (ha:E1 B k cx σ val a σ₁) (hl:T1 B k cx σ₁ (evalPart lo) σ₂ (Part B l)) (hh:T1 B k cx σ₂ (evalPart hi) σ₃ (Part B h')) (hs:T1 B k cx σ₃ (evalPart st) σ₄ (Part B kk)) (h:SliS B a l h' kk σ₄ v σ'):
  E1 B k cx σ (.Subscript val (.Slice lo hi st p) pos) v σ':=fun A X env ρ s R x f=>
 Subscript_ (ha.use R x f fun va ρ₁ s₁ x₁ e₁ f₁ r₁=>wpAny_Slice (hl.use R x₁ f₁ fun vl ρ₂ s₂ x₂ e₂ f₂ r₂=>hh.use R x₂ f₂ fun vh ρ₃ s₃ x₃ e₃ f₃ r₃=>hs.use R x₃ f₃ fun vs ρ₄ s₄ x₄ e₄ f₄ r₄=>by
  obtain⟨x₅,e₅⟩:=x₄.grow ok (s':={ s₄ with heap:=s₄.heap.push { cls:=.type "slice",data:=.fields #[vl,vh,vs] } }) rfl x₄.gens fun a o ho=>Heap.get?_push_of_some _ ho
  obtain⟨pl,p1,q1⟩:=r₂
  obtain⟨ph,p2,q2⟩:=r₃
  obtain⟨ps,p3,q3⟩:=r₄
  have e45:=e₄.trans e₅
  have e35:=e₃.trans e45
  have e25:=e₂.trans e35
  exact Ok.after (e₁.trans e25) (h A ρ₄ _ val lo hi st p va vl vh vs pl ph ps _ x₅ (VR.evo e25 _ r₁) p1 p2 p3 (VR.evo e35 _ q1) (VR.evo e45 _ q2) (VR.evo e₅ _ q3) (.new ..))))
theorem fS0{val sl:Expr}{a i v:PV}(hs:∀l u st p,sl≠ .Slice l u st p)(ha:E1 B k cx σ val a σ₁)(hi:E1 B k cx σ₁ sl i σ₂)(h:eW0 B a i σ₂ v):E1 B k cx σ (.Subscript val sl pos) v σ₂:=fun A _ _ _ _ R x f=>Subscript_ (ha.use R x f fun va _ _ x₁ e₁ f₁ r₁=>hi.use R x₁ f₁ fun vi ρ₂ s₂ x₂ e₂ _ r₂=>Ok.after (e₁.trans e₂) (h A ρ₂ s₂ va vi val sl hs x₂ (VR.evo e₂ _ r₁) r₂))
theorem nW{mg mb}(gok:GlOk B k G mg mb){g:Str}{args:List Expr}{p:Pos}{vs:List PV}{v:PV}{f:Value}
  (hd:(g==("__debug__":Str))=false) (hn:cx.names.lookup g=some .globalImplicit) (H:Es B k cx σ args vs σ₁) (hv:mg g=some f∨(mg g=none∧mb g=some f)) (able:Callable B f) (run:qI B k f vs σ₁ v σ'):
  E1 B k cx σ (.Call (.Name g p) args [] pos) v σ':=fun A X env ρ s R x fr=>by
 refine wpAny_Call_NameR (cT gok x fr hn hd hv ?_)
 rw[cA H.star]
 exact able A _ s pos [] args env _ (H.run.use R x fr fun vals ρ₁ s₁ x₁ e₁ f₁ r₁=>⟨⟨ρ₁,σ₁,x₁⟩,Ok.after e₁ (run A ρ₁ s₁ vals R x₁ r₁)⟩)
theorem nF{mg mb}(gok:GlOk B k G mg mb){p tp:Pos}{a:Expr}{i:Nat}{xs:List PV}
  (hd:(("isinstance":Str)==("__debug__":Str))=false) (hk:cx.names.lookup ("isinstance":Str)=some .globalImplicit) (hkt:cx.names.lookup ("list":Str)=some .globalImplicit)
  (hst:∀x p,a≠ .Starred x p) (ha:E1 B k cx σ a (.lst i) σ₁) (hl:bM σ₁ i=some xs):E1 B k cx σ (.Call (.Name "isinstance" p) [a,.Name "list" tp] [] pos) (.bool true) σ₁:=fun A X env ρ s R x f=>by
 refine wpAny_Call_NameR (cT gok x f hk hd (.inr (gok.bg _ (.builtin "isinstance") rfl)) ?_)
 rw[cA (List.forall_mem_cons.mpr ⟨hst,List.forall_mem_cons.mpr ⟨fun _ _ e=>(by cases e),fun _ h=>absurd h List.not_mem_nil⟩⟩)]
 refine aQ (Calls.spliced_cons (ha.use R x f fun va ρ₁ s₁ x₁ e₁ f₁ r₁=>Calls.spliced_cons ?_))
 refine cT gok x₁ f₁ hkt (by decide) (.inr (gok.bg _ (.type "list") rfl)) (Calls.spliced_nil ?_)
 obtain⟨l,rfl,hla⟩:=r₁
 obtain⟨vs,hp,hr⟩:=x₁.list hl hla
 exact call_isinstance_yes hp.isList.typeIs (by with_unfolding_all rfl) AutoSeq1.sub_list_list ⟨ρ₁,x₁,e₁,rfl⟩
theorem zA{P:CmpOp→Expr→Prop}{op:CmpOp}{r:Expr}{S:Int→Bool}(h:uL G cx op r=some S)(h1:∀g p,cx.names.lookup g=some .globalImplicit→g≠"__debug__"→behindInMarks .In r=false→G.set g=some S→P .In (.Name g p)):P op r:=by
 cases op with
 |In=>exact iV (P:=fun r=>P .In r) h fun g p h=>cV h fun hc hG=>h1 g p hc.1 hc.2.1 hc.2.2 hG
 |_=>exact nos h
theorem jO0{mg mb}(gok:GlOk B k G mg mb){l:Expr}{g:Str}{p:Pos}{i:Int}{S:Int→Bool}(hk:cx.names.lookup g=some .globalImplicit)(hd:g≠"__debug__")(hm:behindInMarks .In (.Name g p)=false)(hG:G.set g=some S)
  (ha:E1 B k cx σ l (.int i) σ₁):E1 B k cx σ (.Compare l [.In] [.Name g p] pos) (.bool (S i)) σ₁:=fun A X env ρ s R x f=>by
 obtain⟨a,m,hmg,ht,o,es,ep,tt,ho,hr⟩:=gok.set g S hG
 refine wpAny_Compare1 (ha.use R x f fun va ρ₁ s₁ x₁ e₁ f₁ r₁=>cT gok x₁ f₁ hk (beq_eq_false_iff_ne.mpr hd) (.inl hmg) ?_) hm
 obtain⟨t,rfl⟩:=r₁
 exact wpAny_inSet_of (intKind_is _ _ i t) rfl ⟨o,es,ep,tt,x₁.base a o ho ht,hr⟩ ⟨ρ₁,x₁.tok _,e₁,rfl⟩
theorem yY{mg mb}(gok:GlOk B k G mg mb){l r:Expr}{op:CmpOp}{i:Int}{S:Int→Bool}(hm:behindInMarks op r=false)(hS:uL G cx op r=some S)(ha:E1 B k cx σ l (.int i) σ₁):E1 B k cx σ (.Compare l [op] [r] pos) (.bool (S i)) σ₁:=
 zA (P:=fun op r=>behindInMarks op r=false→E1 B k cx σ (.Compare l [op] [r] pos) (.bool (S i)) σ₁) hS (fun _ _ hk hd _ hG hm=>jO0 gok hk hd hm hG ha) hm
theorem hO0{mg mb}(gok:GlOk B k G mg mb){g:Str}{p:Pos}{args:List Expr}{apos:Pos}{i:Int}{T:Int→Option Str}
  (hline:(apos.endLine==pos.line)=true) (hlen:args.length < 10) (hk:cx.names.lookup g=some .globalImplicit) (hd:g≠"__debug__") (hG:G.tab g=some T) (H:Es B k cx σ args [.int i] σ₁):
  E1 B k cx σ (.Call (.Attribute (.Name g p) "get" apos) args [] pos) (bN0 (T i)) σ₁:=fun A X env ρ s R x f=>by
 obtain⟨d,fm,hmg,ht,hsys,⟨o,es,ep,ho,hr⟩,hf⟩:=gok.tab g T hG
 have hm0:s.heap.MapOf (intKind B.prog B.w) d fm:=⟨o,es,ep,x.base d o ho ht,hr⟩
 refine bJ rfl hlen hline H.star (cT gok x f hk (beq_eq_false_iff_ne.mpr hd) (.inl hmg) fun pl=>?_)
 with_reducible refine getMethod_builtin (T:="dict") hm0.typeIs F.plainAttrs_dict F.slot_dict_get F.type_dict_get hm0.noDict ?_
 refine aQ (H.run.use R x f fun vals ρ₁ s₁ x₁ e₁ f₁ r₁=>?_)
 obtain⟨_,us,rfl,⟨t,rfl⟩,h2⟩:=r₁
 obtain rfl:us=[]:=h2
 have hm1:s₁.heap.MapOf (intKind B.prog B.w) d fm:=⟨o,es,ep,x₁.base d o ho ht,hr⟩
 refine call_meetsIn F.slot_dict_get hm1.typeIs F.entry_dict_get (F.args_dict_get_2 _ _) (meets_dict_get (intKind B.prog B.w) d (intKind_is _ _ i t) hsys) ⟨fm,hm1,ρ₁,x₁.tok _,e₁,?_⟩
 have hi:=hf i
 cases hTi:T i with
 |none=>rw[hTi]at hi;rw[show fm i=none from hi];rfl
 |some y=>rw[hTi]at hi;obtain⟨u,hu⟩:=hi;rw[hu];exact⟨u,rfl⟩
theorem tW{mg mb}(gok:GlOk B k G mg mb){o:Expr}{m:Str}{args:List Expr}{apos:Pos}{i:Int}{T:Int→Option Str}
  (hline:(apos.endLine==pos.line)=true) (hlen:args.length < 10) (hT:dA0 G cx o m=some T) (H:Es B k cx σ args [.int i] σ₁):
  E1 B k cx σ (.Call (.Attribute o m apos) args [] pos) (bN0 (T i)) σ₁:=
 iV (P:=fun o=>E1 B k cx σ (.Call (.Attribute o m apos) args [] pos) (bN0 (T i)) σ₁) hT fun g p h=>cV h fun hc hG=>by
  rw[hc.2.2]
  exact hO0 gok hline hlen hc.1 hc.2.1 hG H
end
set_option maxRecDepth 10000
section
variable {B:Bs}{k:Nat}{G:Gl}{n:Nat}{cx:Cx}{σ σ₁ σ₂ σ':Sto}{pos:Pos}{β:Type}{r:β}
theorem bR(id:String):Callable B (.builtin id):=fun _ _ _ _ _ _ _ _ h=>aQ (wpAny_mono h (fun _ _ h'=>h'.2) fun _ _ e=>e)
theorem dK(T:String):Callable B (.type T):=fun A E s pos first es env Q h=>by
 refine PyProof.Rows.callWith_type (by simp) ?_
 have h':=wpAny_mono h (Q':=fun vs s₁=>wpAny (model B.prog B.w) A (call (.type T) (first++vs)) Q E s₁) (fun _ _ h'=>h'.2) fun _ _ e=>e
 cases es with
 |nil=>exact fun Γ p hΓ=>PyProof.Rows.evalArgs_none (show wpAny (model B.prog B.w) A (call (.type T) (first++[])) Q E s from h' Γ p hΓ) Γ p hΓ
 |cons e es=>exact Calls.evalArgs_plain h'
theorem fM{a:Addr}{o:Obj}{fd:FuncData}(ho:B.h₀.get? a=some o)(ht:a∉B.Tb)(hd:o.data=.func fd):Callable B (.ref a):=fun _ _ _ _ _ _ _ _ h=>iI (o:=o) (fd:=fd) (wpAny_mono h (fun _ _ h'=>⟨⟨h'.1.elim fun _ h=>h.elim fun _ x=>x.base a o ho ht,hd⟩,h'.2⟩) fun _ _ e=>e)
noncomputable def BOk(B:Bs)(k:Nat)(args:List PV)(σ:Sto)(K:PV→Sto→Option β)(r:β)(g:Str):Prop:=∃f v σ',K v σ'=some r∧gD.lookup g=some f∧Callable B f∧qI B k f args σ v σ'
theorem bK_some{mg mb}(gok:GlOk B k G mg mb){g:Str}{args:List PV}{K:PV→Sto→Option β}(h:cQ G g args σ K=some r):BOk B k args σ K r g:=
 cF (P:=BOk B k args σ K r) h (fun h=>fJ (P:=fun args=>BOk B k args σ K r "len") h fun _ h=>(pI h).elim
   (fun h=>kJ h fun v σ' e h=>⟨_,v,σ',h,rfl,bR _,fun A ρ s _ R x r=>gok.lenA A ρ σ s _ _ v σ' R x r e⟩)
   fun h=>(aY0 h).elim fun v h=>⟨_,v,_,h.1,rfl,bR _,h.2⟩) fun h=>
 cF (P:=BOk B k args σ K r) h (fun h=>fJ (P:=fun args=>BOk B k args σ K r "chr") h fun _ h=>dC (P:=fun a=>BOk B k [a] σ K r "chr") h fun _ h=>cV h fun hi h=>⟨_,_,_,h,rfl,bR _,chr_s hi⟩) fun h=>
 cF (P:=BOk B k args σ K r) h (fun h=>fJ (P:=fun args=>BOk B k args σ K r "ord") h fun _ h=>mM (P:=fun a=>BOk B k [a] σ K r "ord") h fun _ h=>(cB h).elim fun _ h=>⟨_,_,_,h.2,rfl,bR _,ord_s h.1⟩) fun h=>
 cF (P:=BOk B k args σ K r) h (fun h=>fJ (P:=fun args=>BOk B k args σ K r "str") h fun _ h=>(pI h).elim
   (fun h=>kJ h fun v σ' e h=>⟨_,v,σ',h,rfl,dK _,fun A ρ s _ R x r=>gok.strA A ρ σ s _ _ v σ' R x r e⟩) nos) nos
theorem pG(ok:BsOk B){A:Around}{ρ:List Addr}{σ:Sto}{s:Shared}{i:Nat}{a:Addr}{xs:List PV}{v:PV}{va:Value}(x:St B ρ σ s)(hx:bM σ i=some xs)(ha:ρ[i]?=some a)(r:VR B ρ s.heap v va)(hl:xs.length≤10000):
  Ok B A ρ σ s (call (.builtin "list.append") [.ref a,va]) (aC σ i (.lst (xs++[v]))) (Is B .none):=by
 obtain⟨vs,hp,hr⟩:=x.list hx ha
 refine wpAny_list_append_plain hp (fun h' hp' hs'=>?_) (by rw[show vs.toArray.size=xs.length from hr.length];exact Nat.le_trans hl (by decide))
 have hp'':h'.PlainList a (vs++[va]).toArray:=by rw[← List.push_toArray];exact hp'
 obtain⟨m,ho'⟩:=id hp''
 obtain⟨x',e'⟩:=x.set ok (s':={ s with heap:=h' }) (d:=.lst (xs++[v])) rfl rfl ha (fun b o hb ho=>hs'.extBut b o hb ho)
  (fun σ' e=>⟨vs++[va],hp'',VRs.append (VRs.evo e _ hr) ⟨va,[],rfl,VR.evo e _ r,rfl⟩⟩) ⟨_,ho',fun vs h=>by cases h⟩
 exact⟨ρ,x',e',rfl⟩
theorem nU{i m:Nat}(h:aK σ (.lst i)=some m):∃c:Cell,σ[i]?=some c∧yL c.d=m:=by
 unfold aK at h
 dsimp only at h
 cases hc:σ[i]? with
 |none=>rw[hc]at h;exact nos h
 |some c=>rw[hc]at h;exact⟨c,rfl,Option.some.inj h⟩
theorem tM{i:Nat}{c:Cell}(h:σ[i]?=some c):aK σ (.lst i)=some (yL c.d):=by
 unfold aK
 dsimp only
 rw[h]
theorem kP0{d:CD}(h:yL d=0):∃xs,d=.lst xs:=by
 cases d with
 |lst xs=>exact⟨xs,rfl⟩
 |_=>cases h
theorem jY0{d:CD}(h:yL d=1):∃di xs,d=.acc di xs:=by
 cases d with
 |acc di xs=>exact⟨di,xs,rfl⟩
 |_=>cases h
section
variable {o:Expr}{m:Str}{args:List Expr}{apos:Pos}{v:PV}{vs:List PV}(hline:(apos.endLine==pos.line)=true)(hbase:uI o=true)(hlen:args.length < 10)
include hline hbase hlen
theorem jC0{q:Str}{id:String}(ho:E1 B k cx σ o (.str q) σ₁)(H:Es B k cx σ₁ args vs σ₂)(hg:rX m id)(hm:hW B id q vs σ₂ v σ'):E1 B k cx σ (.Call (.Attribute o m apos) args [] pos) v σ':=fun A X env ρ s R x fr=>
 bJ hbase hlen hline H.star (ho.use R x fr fun va ρ₁ s₁ x₁ e₁ f₁ r₁ pl=>by
  obtain⟨t,rfl⟩:=r₁
  exact hg _ _ _ _ _ _ _ _ (aQ (H.run.use R x₁ f₁ fun vals ρ₂ s₂ x₂ e₂ f₂ r₂=>Ok.after (e₁.trans e₂) (hm A ρ₂ s₂ t vals x₂ r₂))))
theorem yC(ok:BsOk B){i:Nat}{c:Cell}{xs:List PV}(hc:σ₂[i]?=some c)(hd:c.d=.lst xs)(hle:xs.length≤10000)(hkind:aK σ₁ (.lst i)=aK σ₂ (.lst i))(ho:E1 B k cx σ o (.lst i) σ₁)(H:Es B k cx σ₁ args [v] σ₂):
  E1 B k cx σ (.Call (.Attribute o "append" apos) args [] pos) .none (aC σ₂ i (.lst (xs++[v]))):=fun A X env ρ s R x fr=>
 bJ hbase hlen hline H.star (ho.use R x fr fun va ρ₁ s₁ x₁ e₁ f₁ r₁ pl=>by
  obtain⟨l,rfl,hl⟩:=r₁
  rw[tM hc,hd]at hkind
  obtain⟨c₁,hc₁,hk₁⟩:=nU hkind
  obtain⟨ys,hd₁⟩:=kP0 hk₁
  have hcell:=x₁.cells i c₁ l hc₁ hl
  rw[hd₁]at hcell
  obtain⟨_,⟨_,hob⟩,_⟩:=hcell
  have hT:s₁.TypeIs (.ref l) "list":=⟨_,hob,rfl⟩
  with_reducible refine getMethod_builtin (T:="list") hT F.plainAttrs_list slot_list_append type_list_append (fun b e=>by cases e;exact⟨_,hob,rfl⟩) ?_
  refine aQ (H.run.use R x₁ f₁ fun vals ρ₂ s₂ x₂ e₂ f₂ r₂=>?_)
  obtain⟨u,us,rfl,q1,q2⟩:=r₂
  obtain rfl:us=[]:=q2
  refine Ok.after (e₁.trans e₂) (pG ok x₂ (show bM _ i=some xs from ?_) (e₂.at hl) q1 hle)
  unfold bM
  rw[hc]
  dsimp only
  rw[hd])
theorem jL0{mg mb}(gok:GlOk B k G mg mb){i di:Nat}{c:Cell}{xs:List PV}{F:Fn}(hc:σ₂[i]?=some c)(hd:c.d=.acc di xs)(hF:G.meth m=some F)(hkind:aK σ₁ (.lst i)=aK σ₂ (.lst i))(hacc:aI σ₁ (.lst i)=true)(h:F (.lst i::vs) σ₂=some (v,σ'))
  (ho:E1 B k cx σ o (.lst i) σ₁) (H:Es B k cx σ₁ args vs σ₂):E1 B k cx σ (.Call (.Attribute o m apos) args [] pos) v σ':=fun A X env ρ s R x fr=>
 bJ hbase hlen hline H.star (ho.use R x fr fun va ρ₁ s₁ x₁ e₁ f₁ r₁ pl=>by
  obtain⟨l,rfl,hl⟩:=r₁
  obtain⟨f,fok,hget⟩:=gok.meth m F hF
  rw[tM hc,hd]at hkind
  obtain⟨c₁,hc₁,hk₁⟩:=nU hkind
  obtain⟨di₁,xs₁,hd₁⟩:=jY0 hk₁
  refine hget A _ ρ₁ σ₁ s₁ i l c₁ di₁ xs₁ pl _ x₁ hc₁ hd₁ hl hacc (fok.able A _ s₁ pos [.ref l] args env _ (H.run.use R x₁ f₁ fun vals ρ₂ s₂ x₂ e₂ f₂ r₂=>⟨⟨ρ₂,σ₂,x₂⟩,?_⟩))
  exact Ok.after (e₁.trans e₂) (fok.run A ρ₂ σ₂ s₂ (.lst i::vs) (.ref l::vals) v σ' R x₂ ⟨_,_,rfl,⟨l,rfl,e₂.at hl⟩,r₂⟩ h))
theorem vG(ok:BsOk B){mg mb}(gok:GlOk B k G mg mb){a:PV}{K:PV→Sto→Option β}{C:Prop}(h:aU G a m vs σ₂ K=some r)(ho:E1 B k cx σ o a σ₁)(H:Es B k cx σ₁ args vs σ₂)
  (hkind:aK σ₁ a=aK σ₂ a) (hacc:aI σ₁ a=true) (q:∀v σ',K v σ'=some r→E1 B k cx σ (.Call (.Attribute o m apos) args [] pos) v σ'→C):C:=by
 cases a with
 |str x=>
  obtain⟨id,hg,v,σ',hv,hm⟩:=sM_some (B:=B) ok h
  exact q _ _ hv (jC0 hline hbase hlen ho H hg hm)
 |lst i=>
  refine aY h fun c hc h=>?_
  cases hd:c.d with
  |lst xs=>
   rw[hd]at h
   obtain⟨w,rfl,h⟩:=cB h
   exact cF (P:=fun m=>(∀v σ',K v σ'=some r→E1 B k cx σ (.Call (.Attribute o m apos) args [] pos) v σ'→C)→C) h (fun h q=>cV h fun hle h=>q _ _ h (yC hline hbase hlen ok hc hd hle hkind ho H)) nos q
  |acc di xs=>
   rw[hd]at h
   exact aY h fun F hF h=>kJ h fun v σ' e h=>q _ _ h (jL0 hline hbase hlen gok hc hd hF hkind hacc e ho H)
  |_=>rw[hd]at h;exact nos h
 |_=>exact nos h
end
end
theorem fS{α:Type}{n y:Str}(hne:y≠n):∀l:List (Str×α),(l.filter fun x=>!decide (x.1=n)).lookup y=l.lookup y
 |[]=>rfl
 |(k,v)::r=>by
  have ih:=fS hne r
  rw[List.lookup_cons,List.filter_cons]
  by_cases hk:k=n
  ·rw[if_neg (by rw[decide_eq_true hk];decide),ih,beq_eq_false_iff_ne.mpr (hk▸hne)]
  ·rw[if_pos (by rw[decide_eq_false hk];rfl),List.lookup_cons,ih]
theorem iW(l:LE)(n:Str)(v:PV):(cX l n v).lookup n=some v:=by rw[cX,List.lookup_cons,beq_self_eq_true]
theorem fV(l:LE){n y:Str}(v:PV)(hne:y≠n):(cX l n v).lookup y=l.lookup y:=by
 rw[cX,List.lookup_cons,beq_eq_false_iff_ne.mpr hne]
 exact fS hne l
theorem putLE_in{l:LE}{n y:Str}{v u:PV}(h:(cX l n v).lookup y=some u):(y=n∧u=v)∨(y≠n∧l.lookup y=some u):=by
 by_cases hy:y=n
 ·subst hy;rw[iW]at h;exact .inl ⟨rfl,(Option.some.inj h).symm⟩
 ·rw[fV _ _ hy]at h;exact .inr ⟨hy,h⟩
section
variable {B:Bs}{A:Around}{ρ:List Addr}{σ:Sto}{s:Shared}{X:List Addr}{cx cx':Cx}{env:Env}
theorem jC{h:Heap}{a c:Addr}{m w}(hn:h.Ns a m)(hc:h.IsCell c w):c≠a:=by
 rintro rfl
 obtain⟨o,es,ep,ho,hd,_⟩:=hn
 obtain⟨o',ho',hd'⟩:=hc
 rw[ho]at ho';cases ho'
 rw[hd]at hd';cases hd'
theorem rK(ok:BsOk B)(x:St B ρ σ s)(f:Fr B X cx env ρ s.heap){h':Heap}{tk:Nat}{a:Addr}(ha:a∈X)(hs:Heap.SameBut a s.heap h')(hal:∃o,h'.get? a=some o):
  St B ρ σ { s with heap:=h',toks:=tk }∧Evo B X ρ σ s.heap ρ σ h':=by
 refine x.step ok (s':={ s with heap:=h',toks:=tk }) rfl x.gens (fun b hb=>⟨(f.ofX b hb).1,(f.ofX b hb).2.1,(f.ofX b hb).2.2.1⟩) (fun b hb o ho=>?_) fun b o hb ho=>hs.extBut b o (fun e=>hb (e▸ha)) ho
 obtain⟨_,_,_,o',ho',hf⟩:=f.ofX b hb
 rw[ho]at ho';cases ho'
 refine⟨hf,?_⟩
 by_cases hba:b=a
 ·subst hba;exact hal
 ·exact⟨o,hs.extBut b o hba ho⟩
theorem Fr.put{n:Str}{v:PV}(f:Fr B X cx env ρ s.heap){h':Heap}(hk:cx.names.lookup n=some .local∨cx.names.lookup n=some .cell)(hX:∀a o,s.heap.get? a=some o→Framy o→∃o',h'.get? a=some o'∧Framy o')
  (loc:∃m,h'.Ns env.locals m∧∀x,cx.names.lookup x=some .local→env.kindOf x=some .local∧∀u,(cX cx.le n v).lookup x=some u→∃val,m x=some val∧VR B ρ h' u val)
  (cel:∀x,cx.names.lookup x=some .cell→env.kindOf x=some .cell∧∃c w,env.cells.lookup x=some c∧c∈X∧h'.IsCell c w∧∀u,(cX cx.le n v).lookup x=some u→∃val,w=some val∧VR B ρ h' u val)
  (fre:∀x,cx.names.lookup x=some .free→∀u,cx.le.lookup x=some u→∃c val,env.cells.lookup x=some c∧s.heap.IsCell c (some val)∧h'.IsCell c (some val)∧VR B ρ h' u val):
  Fr B X ⟨cx.names,cX cx.le n v⟩ env ρ h':=by
 have nf:∀{y},cx.names.lookup y=some .free→y≠n:=fun hy e=>by rw[← e,hy]at hk;exact hk.elim (fun h=>by cases h) fun h=>by cases h
 refine⟨f.kind,f.glob,f.bt,loc,cel,fun y hy u hu=>?_,f.glb,fun y w hy=>?_,f.own,fun a ha=>?_,fun y c hc=>?_,f.apart⟩
 ·have hu':cx.le.lookup y=some u:=by rw[← fV _ v (nf hy)];exact hu
  obtain⟨c,val,hc,_,hw,hr⟩:=fre y hy u hu'
  exact⟨(f.fre y hy u hu').1,c,val,hc,hw,hr⟩
 ·rcases putLE_in hy with⟨e,_⟩ | ⟨_,hy⟩
  ·rw[e];exact hk.elim .inl fun h=>.inr (.inl h)
  ·exact f.dom y w hy
 ·obtain⟨h1,h2,h3,o,ho,hf⟩:=f.ofX a ha
  exact⟨h1,h2,h3,hX a o ho hf⟩
 ·obtain⟨h1,h2,o,ho,hf⟩:=f.ofc y c hc
  exact⟨h1,h2,hX c o ho hf⟩
theorem stores_some{n:Str}(h:stores cx n=true):cx.names.lookup n=some .local∨cx.names.lookup n=some .cell:=by
 unfold stores at h
 cases hk:cx.names.lookup n with
 |none=>rw[hk]at h;cases h
 |some kd=>
  rw[hk]at h
  cases kd with
  | «local»=>exact .inl rfl
  |cell=>exact .inr rfl
  |_=>cases h
theorem cK0{n y:Str}(hk:cx.names.lookup n=some .cell)(hy:cx.names.lookup y=some .local):y≠n:=fun e=>by rw[e,hk]at hy;cases hy
theorem free_ne{n y:Str}{kd:NameKind}(hk:cx.names.lookup n=some kd)(h:kd≠ .free)(hy:cx.names.lookup y=some .free):y≠n:=fun e=>by rw[e,hk]at hy;exact h (Option.some.inj hy)
variable {Q:Unit→Shared→Prop}{E:Value→Shared→Prop}
theorem aV0(ok:BsOk B){n:Str}{v:PV}{val:Value}(hk:cx.names.lookup n=some .local)(x:St B ρ σ s)(f:Fr B X cx env ρ s.heap)(r:VR B ρ s.heap v val)
  (q:∀s',St B ρ σ s'→Evo B X ρ σ s.heap ρ σ s'.heap→Fr B X ⟨cx.names,cX cx.le n v⟩ env ρ s'.heap→Q () s'):wpAny (model B.prog B.w) A (storeName env n val) Q E s:=by
 obtain⟨m,hns,hm⟩:=f.loc
 refine wpAny_storeName_local (hm n hk).1 hns (fun h' hn' hs'=>?_) (by rw[f.kind];rfl)
 obtain⟨o',es',ep',ho',hd',_⟩:=id hn'
 obtain⟨x',e'⟩:=rK ok x f (tk:=s.toks+1) f.own hs' ⟨_,ho'⟩
 have hf':Framy o':=.inl ⟨_,_,hd'⟩
 clear hd'
 refine q _ x' e' (f.put (.inl hk) (fun a o ho hf=>?_) ⟨_,hn',fun y hy=>⟨(hm y hy).1,fun w hw=>?_⟩⟩ (fun y hy=>?_) fun y hy u hu=>?_)
 ·by_cases ha:a=env.locals
  ·exact⟨o',ha▸ho',hf'⟩
  ·exact⟨o,hs'.extBut a o ha ho,hf⟩
 ·rcases putLE_in hw with⟨e,rfl⟩ | ⟨hyn,hw⟩
  ·exact⟨val,by simp[e],VR.evo e' _ r⟩
  ·exact ((hm y hy).2 w hw).imp fun _ q=>⟨by simp[hyn,q.1],VR.evo e' _ q.2⟩
 ·obtain⟨h0,c,w,hc,hcX,hw,hv⟩:=f.cel y hy
  exact⟨h0,c,w,hc,hcX,hw.sameBut hs' (jC hns hw),fun u hu=>(hv u (fV _ _ (Ne.symm (cK0 hy hk))▸hu)).imp fun _ q=>q.imp_right (VR.evo e' _)⟩
 ·obtain⟨h0,c,val',hc,hw,hr⟩:=f.fre y hy u hu
  exact⟨c,val',hc,hw,hw.sameBut hs' (jC hns hw),VR.evo e' _ hr⟩
theorem gP0(ok:BsOk B){n:Str}{v:PV}{val:Value}(hk:cx.names.lookup n=some .cell)(x:St B ρ σ s)(f:Fr B X cx env ρ s.heap)(r:VR B ρ s.heap v val)
  (q:∀s',St B ρ σ s'→Evo B X ρ σ s.heap ρ σ s'.heap→Fr B X ⟨cx.names,cX cx.le n v⟩ env ρ s'.heap→Q () s'):wpAny (model B.prog B.w) A (storeName env n val) Q E s:=by
 obtain⟨hkind,c,w,hc,hX,hw,_⟩:=f.cel n hk
 refine wpAny_storeName_cell f.kind hkind hc hw fun h' hc' hs'=>?_
 obtain⟨o',ho',hd'⟩:=id hc'
 obtain⟨x',e'⟩:=rK ok x f (tk:=s.toks) hX hs' ⟨_,ho'⟩
 have hf':Framy o':=.inr ⟨_,hd'⟩
 clear hd'
 have cellk:∀y c' w',y≠n→env.cells.lookup y=some c'→s.heap.IsCell c' w'→h'.IsCell c' w':=fun y c' w' hy hcy hw'=>hw'.sameBut hs' fun e=>hy (f.apart y n c (e▸hcy) hc)
 obtain⟨m,hns,hm⟩:=f.loc
 refine q _ x' e' (f.put (.inr hk) (fun a o ho hf=>?_) ⟨m,hns.sameBut hs' (Ne.symm (jC hns hw)),fun y hy=>⟨(hm y hy).1,fun u hu=>((hm y hy).2 u (fV _ _ (cK0 hk hy)▸hu)).imp fun _ q=>q.imp_right (VR.evo e' _)⟩⟩ (fun y hy=>?_) fun y hy u hu=>?_)
 ·by_cases ha:a=c
  ·exact⟨o',ha▸ho',hf'⟩
  ·exact⟨o,hs'.extBut a o ha ho,hf⟩
 ·by_cases hyn:y=n
  ·rw[hyn]
   exact⟨hkind,c,_,hc,hX,hc',fun u hu=>by rw[iW]at hu;exact⟨val,rfl,Option.some.inj hu▸VR.evo e' _ r⟩⟩
  ·obtain⟨h0,c',w',hcy,hX',hw',hv'⟩:=f.cel y hy
   exact⟨h0,c',w',hcy,hX',cellk y c' w' hyn hcy hw',fun u hu=>(hv' u (fV _ _ hyn▸hu)).imp fun _ q=>q.imp_right (VR.evo e' _)⟩
 ·obtain⟨h0,c',val',hcy,hw',hr⟩:=f.fre y hy u hu
  exact⟨c',val',hcy,hw',cellk y c' _ (free_ne hk (by decide) hy) hcy hw',VR.evo e' _ hr⟩
theorem jX(ok:BsOk B){n:Str}{v:PV}{val:Value}(hb:gH cx n v=some cx')(x:St B ρ σ s)(f:Fr B X cx env ρ s.heap)(r:VR B ρ s.heap v val)
  (q:∀s',St B ρ σ s'→Evo B X ρ σ s.heap ρ σ s'.heap→Fr B X cx' env ρ s'.heap→Q () s'):wpAny (model B.prog B.w) A (storeName env n val) Q E s:=by
 obtain⟨hst,hb⟩:=grd_some (β:=Cx) hb
 obtain rfl:=Option.some.inj hb
 exact (stores_some hst).elim (fun hk=>aV0 ok hk x f r q) fun hk=>gP0 ok hk x f r q
theorem Fr.ext(f:Fr B X cx env ρ s.heap){h':Heap}(vk:Vk B ρ s.heap ρ h')(hk:∀a o,s.heap.get? a=some o→Framy o→h'.get? a=some o):Fr B X cx env ρ h':=
 f.move vk fun a o _ h1 _ ho hf=>⟨hk a o ho hf,h1⟩
theorem Fr.vk'(f:Fr B X cx env ρ s.heap){h':Heap}{wr:List Addr}(vk:Vk B ρ s.heap ρ h')(hwr:∀a∈wr,∀o,s.heap.get? a=some o→¬ Framy o)(hk:∀b o,b∉wr→s.heap.get? b=some o→h'.get? b=some o):
  Fr B X cx env ρ h':=f.ext vk fun a o ho hf=>hk a o (fun hm=>hwr a hm o ho hf) ho
theorem iN:∀{es:List Expr},(∀e∈es,∃n p,e=.Name n p)→assignEach es env=es.map fun e=>(false,assign e env)
 |[],_=>rfl
 |e::es,h=>by
  obtain⟨n,p,rfl⟩:=h e List.mem_cons_self
  show (false,assign (.Name n p) env)::assignEach es env=_
  rw[iN fun e he=>h e (List.mem_cons_of_mem _ he)];rfl
theorem hV{e:Expr}{es:List Expr}{v:PV}{vs:List PV}{cx cx':Cx}(h:eG cx (e::es) (v::vs)=some cx'):∃n p cx₁,e=.Name n p∧gH cx n v=some cx₁∧eG cx₁ es vs=some cx':=by
 obtain⟨n,p,e,cx₁,h1,h2⟩:=iV (P:=fun e=>∃n p,e=.Name n p∧∃cx₁,gH cx n v=some cx₁∧eG cx₁ es vs=some cx') h fun n p h=>⟨n,p,rfl,aA h⟩
 exact⟨n,p,cx₁,e,h1,h2⟩
theorem kM:∀{es:List Expr} {vs:List PV} {cx cx':Cx},eG cx es vs=some cx'→(∀e∈es,∃n p,e=.Name n p)∧es.length=vs.length
 |[],[],_,_,_=>⟨fun _ h=>absurd h List.not_mem_nil,rfl⟩
 |e::es,v::vs,cx,cx',h=>by
  obtain⟨n,p,cx₁,e,h1,h2⟩:=hV h
  obtain⟨a,b⟩:=kM h2
  exact⟨List.forall_mem_cons.mpr ⟨⟨n,p,e⟩,a⟩,congrArg (· +1) b⟩
 |[],_::_,_,_,h=>nos h
 |_::_,[],_,_,h=>nos h
theorem sP(ok:BsOk B):∀{es:List Expr} {vs:List PV} {vals:List Value} {cx cx':Cx} {s:Shared},eG cx es vs=some cx'→St B ρ σ s→Fr B X cx env ρ s.heap→VRs B ρ s.heap vs vals→
  (∀s',St B ρ σ s'→Evo B X ρ σ s.heap ρ σ s'.heap→Fr B X cx' env ρ s'.heap→Q () s')→wpAny (model B.prog B.w) A (assignInOrder ((es.map fun e=>(false,assign e env)).map (·.2)) vals) Q E s
 |[],[]=>fun h x f r q=>by
  obtain rfl:=Option.some.inj h
  obtain rfl:=r
  exact wpAny_pure (q _ x (.refl ..) f)
 |e::es,v::vs=>fun h x f r q=>by
  obtain⟨w,ws,rfl,r1,r2⟩:=r
  obtain⟨n,p,cx₁,rfl,h1,h2⟩:=hV h
  exact assignInOrder_cons (wpAny_assign_Name (jX ok h1 x f r1 fun s₁ x₁ e₁ f₁=>sP ok h2 x₁ f₁ (VRs.evo e₁ _ r2) fun s₂ x₂ e₂ f₂=>q s₂ x₂ (e₁.trans e₂) f₂))
 |[],_::_=>fun h=>nos h
 |_::_,[]=>fun h=>nos h
theorem tF{P:Expr→PV→Prop}{t:Expr}{v:PV}(h:aH cx t v=some cx')(h1:∀n p v,gH cx n v=some cx'→P (.Name n p) v)(h2:∀es kk p vs,eG cx es vs=some cx'→P (.Tuple es kk p) (.tup vs)):P t v:=by
 cases t with
 |Name n p=>exact h1 n p v h
 |Tuple es kk p=>exact mP (P:=fun v=>P (.Tuple es kk p) v) h fun vs h=>h2 es kk p vs h
 |_=>exact nos h
theorem iD(ok:BsOk B){k:Nat}(R:Room k A){t:Expr}{v:PV}{val:Value}(hb:aH cx t v=some cx')(x:St B ρ σ s)(f:Fr B X cx env ρ s.heap)(r:VR B ρ s.heap v val)
  (q:∀s',St B ρ σ s'→Evo B X ρ σ s.heap ρ σ s'.heap→Fr B X cx' env ρ s'.heap→Q () s'):wpAny (model B.prog B.w) A (assign t env val) Q E s:=by
 revert r
 refine tF (P:=fun t v=>VR B ρ s.heap v val→wpAny (model B.prog B.w) A (assign t env val) Q E s) hb (fun n p v h r=>wpAny_assign_Name (jX ok h x f r q)) fun es kk p vs h r=>?_
 obtain⟨hn,hlen⟩:=kM h
 obtain⟨a,us,rfl,_,_,ht,hr⟩:=r
 have he:=iN (env:=env) hn
 refine wpAny_assign_Tuple R.handled ht (by rw[he,List.length_map,hlen];exact hr.length.symm) (by rw[he];simp[List.findIdx?_eq_none_iff]) fun h' he'=>?_
 obtain⟨x₁,e₁⟩:=x.grow ok (s':={ s with heap:=h' }) rfl x.gens fun b o ho=>he' b o (fun e=>by rw[e,get?_size]at ho;exact nos ho) ho
 rw[he]
 exact sP ok h x₁ (f.evo e₁) (VRs.evo e₁ _ hr) fun s₂ x₂ e₂ f₂=>q s₂ x₂ (e₁.weak.trans e₂) f₂
end
structure Itr (B:Bs) (A:Around) (it:Value) (items:List PV) (w:Option (Nat×Nat)) (T:Expr→Prop) (ρ₀:List Addr) (σ₀:Sto) (s₀:Shared) (wr:List Addr) (J:Nat→Heap→Prop):Prop where
 fresh:∀a∈wr,s₀.heap.get? a=none
 obj:∀j h,J j h→∀a∈wr,∃o vs,h.get? a=some o∧o.data=.fields vs∧o.cls≠ .type "tuple"∧o.cls≠ .type "code"
 frame:∀j h h',J j h→(∀b∈wr,∀o,h.get? b=some o→h'.get? b=some o)→J j h'
 next:∀j pv X ρ σ s t,T t→items[j]?=some pv→Evo B X ρ₀ σ₀ s₀.heap ρ σ s.heap→St B ρ σ s→J j s.heap→watch σ w=true→
  wpAny (model B.prog B.w) A (pyNext it) (fun r s'=>∃v,r=some v∧wpAny (model B.prog B.w) A (letOwnedTupleGo t it v) (fun _ s''=>∃h' tk,s''={ s with heap:=h',toks:=tk }∧
   (∀b o,b∉wr→s.heap.get? b=some o→h'.get? b=some o)∧J (j+1) h'∧VR B ρ h' pv v) (fun _ _=>False) s') (fun _ _=>False) s
 self:∀j (s:Shared) (Q:Value→Shared→Prop) (E:Value→Shared→Prop),J j s.heap→Q it s→wpAny (model B.prog B.w) A (pyIter it) Q E s
 done:∀X ρ σ s,Evo B X ρ₀ σ₀ s₀.heap ρ σ s.heap→St B ρ σ s→J items.length s.heap→watch σ w=true→
  wpAny (model B.prog B.w) A (pyNext it) (fun r s'=>r=none∧∃h' tk,s'={ s with heap:=h',toks:=tk }∧∀b o,b∉wr→s.heap.get? b=some o→h'.get? b=some o) (fun _ _=>False) s
section
variable {B:Bs}{A:Around}{it:Value}{items:List PV}{w:Option (Nat×Nat)}{T:Expr→Prop}{ρ₀ ρ:List Addr}{σ₀ σ:Sto}{s₀ s:Shared}{wr X:List Addr}{J:Nat→Heap→Prop}{cx cx':Cx}{env:Env}
theorem Itr.apart(I:Itr B A it items w T ρ₀ σ₀ s₀ wr J)(ok:BsOk B)(x₀:St B ρ₀ σ₀ s₀)(x:St B ρ σ s){j:Nat}(hJ:J j s.heap){a:Addr}(ha:a∈wr):
  a∉ρ∧a∉B.Tb∧B.h₀.get? a=none∧∀o,s.heap.get? a=some o→¬ Framy o∧(o.cls=.type "tuple"→∀vs n,o.data≠ .seq vs n)∧(o.cls=.type "code"→∀vs,o.data≠ .fields vs):=by
 obtain⟨o,vs,ho,hd,h1,h2⟩:=I.obj j _ hJ a ha
 have hf:=I.fresh a ha
 have htb:a∉B.Tb:=fun hm=>(ok.tb _ x₀.inv a hm).elim fun o' ho'=>by rw[hf]at ho';exact nos ho'
 refine⟨fun hm=>x.notFields hm ho hd,htb,?_,fun o' ho'=>by rw[← Option.some.inj (ho.symm.trans ho')];exact⟨cD hd,fun e=>absurd e h1,fun e=>absurd e h2⟩⟩
 cases hb:B.h₀.get? a with
 |none=>rfl
 |some o'=>rw[x₀.base a o' hb htb]at hf;exact nos hf.symm
theorem Itr.alter(I:Itr B A it items w T ρ₀ σ₀ s₀ wr J)(ok:BsOk B)(x₀:St B ρ₀ σ₀ s₀)(x:St B ρ σ s)(e:Evo B X ρ₀ σ₀ s₀.heap ρ σ s.heap)(f:Fr B X cx env ρ s.heap){j:Nat}(hJ:J j s.heap){h':Heap}{tk:Nat}
  (hk:∀b o,b∉wr→s.heap.get? b=some o→h'.get? b=some o):St B ρ σ { s with heap:=h',toks:=tk }∧Evo B X ρ₀ σ₀ s₀.heap ρ σ h'∧Fr B X cx env ρ h'∧Vk B ρ s.heap ρ h':=by
 have ap:=fun {a}=>I.apart ok x₀ x hJ (a:=a)
 obtain⟨x',vk⟩:=x.alter ok (tk:=tk) (fun a ha=>(ap ha).imp_right fun h=>h.imp_right fun h=>h.imp_right fun h o ho=>(h o ho).2) hk
 exact⟨x',e.alter (fun a ha=>I.fresh a ha) hk,f.vk' vk (fun a ha o ho=>((ap ha).2.2.2 o ho).1) hk,vk⟩
theorem Itr.keepJ(I:Itr B A it items w T ρ₀ σ₀ s₀ wr J)(ok:BsOk B)(x₀:St B ρ₀ σ₀ s₀)(x:St B ρ σ s){j:Nat}(hJ:J j s.heap){ρ':List Addr}{σ':Sto}{h':Heap}(e:Evo B X ρ σ s.heap ρ' σ' h'):J j h':=
 I.frame j _ _ hJ fun b hb o ho=>have h:=I.apart ok x₀ x hJ hb;e.kp.keep b o ho h.1 h.2.1 fun _=>(h.2.2.2 o ho).1
structure Turned (B:Bs) (X:List Addr) (cx':Cx) (env:Env) (ρ₀:List Addr) (σ₀:Sto) (h₀:Heap) (ρ:List Addr) (σ:Sto) (s:Shared) (wr:List Addr) (J:Nat→Heap→Prop) (j:Nat) (s₃:Shared):Prop where
 st:St B ρ σ s₃
 evo:Evo B X ρ₀ σ₀ h₀ ρ σ s₃.heap
 fr:Fr B X cx' env ρ s₃.heap
 j:J (j+1) s₃.heap
 vk:Vk B ρ s.heap ρ s₃.heap
 kp:∀b o,b∉wr→b∉ρ→b∉B.Tb→b∉X→s.heap.get? b=some o→s₃.heap.get? b=some o
theorem Vk.trans{ρ:List Addr}{h h' h'':Heap}(v:Vk B ρ h ρ h')(u:Vk B ρ h' ρ h''):Vk B ρ h ρ h'':=⟨fun _ _ h=>h,fun a o vs n ho hc hd h1 h2=>⟨(u.tup a o vs n (v.tup a o vs n ho hc hd h1 h2).1 hc hd h1 h2).1,h1⟩⟩
theorem Itr.turn(I:Itr B A it items w T ρ₀ σ₀ s₀ wr J)(ok:BsOk B){k:Nat}(R:Room k A)(x₀:St B ρ₀ σ₀ s₀)(x:St B ρ σ s)(e:Evo B X ρ₀ σ₀ s₀.heap ρ σ s.heap)(f:Fr B X cx env ρ s.heap){j:Nat}{pv:PV}{t:Expr}
  (hT:T t) (hj:items[j]?=some pv) (hJ:J j s.heap) (hw:watch σ w=true) (hb:aH cx t pv=some cx') {Q:Option Value→Shared→Prop} {Q₃:Unit→Shared→Prop} {E E₂ E₃:Value→Shared→Prop}
  (q:∀v s',wpAny (model B.prog B.w) A (letOwnedTupleGo t it v) (fun _ s''=>wpAny (model B.prog B.w) A (assign t env v) Q₃ E₃ s'') E₂ s'→Q (some v) s')
  (h:∀s₃,Turned B X cx' env ρ₀ σ₀ s₀.heap ρ σ s wr J j s₃→Q₃ () s₃):wpAny (model B.prog B.w) A (pyNext it) Q E s:=
 wpAny_mono (I.next j pv X ρ σ s t hT hj e x hJ hw) (fun r s' hr=>by
  obtain⟨v,hr,hl⟩:=hr
  rw[hr]
  refine q v s' (wpAny_mono hl (fun _ s'' hs=>?_) fun _ _ e=>e.elim)
  obtain⟨h',tk,hs,hk,hJ',hv⟩:=hs
  subst hs
  obtain⟨x',e',f',vk⟩:=I.alter ok x₀ x e f hJ (tk:=tk) hk
  exact iD ok R hb x' f' hv fun s₃ x₃ e₃ f₃=>h s₃ ⟨x₃,e'.trans e₃,f₃,I.keepJ ok x₀ x' hJ' e₃,vk.trans e₃.vk,fun b o hbw hbρ hbt hbX ho=>e₃.kp.keep b o (hk b o hbw ho) hbρ hbt fun hx=>absurd hx hbX⟩) fun _ _ e=>e.elim
theorem Itr.stop(I:Itr B A it items w T ρ₀ σ₀ s₀ wr J)(ok:BsOk B)(x₀:St B ρ₀ σ₀ s₀)(x:St B ρ σ s)(e:Evo B X ρ₀ σ₀ s₀.heap ρ σ s.heap)(f:Fr B X cx env ρ s.heap)
  (hJ:J items.length s.heap) (hw:watch σ w=true) {Q:Option Value→Shared→Prop} {E:Value→Shared→Prop}
  (h:∀s',St B ρ σ s'→Evo B X ρ₀ σ₀ s₀.heap ρ σ s'.heap→Fr B X cx env ρ s'.heap→Vk B ρ s.heap ρ s'.heap→(∀b o,b∉wr→s.heap.get? b=some o→s'.heap.get? b=some o)→Q none s'):wpAny (model B.prog B.w) A (pyNext it) Q E s:=
 wpAny_mono (I.done X ρ σ s e x hJ hw) (fun r s' hr=>by
  obtain⟨hr,h',tk,hs,hk⟩:=hr
  subst hr hs
  obtain⟨x',e',f',vk⟩:=I.alter ok x₀ x e f hJ (tk:=tk) hk
  exact h _ x' e' f' vk hk) fun _ _ e=>e.elim
end
section
variable {prog:Program}{w:World}{A:Around}{R:Result→Shared→Prop}{s:Shared}
theorem cG{target body orelse env}{it:Value}
  (turn:wpAny (model prog w) A (pyNext it) (fun r s₁=>match r with
   |none=>wpAny (model prog w) A (execs orelse env) (fun f s₃=>R (.ok f) s₃) (fun _ _=>False) s₁
   |some v=>wpAny (model prog w) A (letOwnedTupleGo target it v) (fun _ s₁'=>wpAny (model prog w) A (assign target env v) (fun _ s₂=>wpAny (model prog w) A (execs body env) (fun f s₃=>match f with
     |.next | .cont=>codeAny (model prog w) A (.forLoop target it body orelse env) R s₃
     |.brk=>R (.ok .next) s₃
     |.ret v=>R (.ok (.ret v)) s₃) (fun _ _=>False) s₂) (fun _ _=>False) s₁') (fun _ _=>False) s₁) (fun _ _=>False) s):
  codeAny (model prog w) A (.forLoop target it body orelse env) R s:=by
 refine codeAny_of_tree ?_
 show wpAny _ A ((forTurn target it body orelse env).onRaise (fun x=>do noteFrame x env;theTreesLotGoes x)) _ _ s
 refine wpAny_noted ?_
 simp -iota only[forTurn]
 refine wpAny_bind (wpAny_standAt (wpAny_bind (wpAny_onRaise (wpAny_mono turn (fun r s₁ h₁=>?_) fun _ _ h'=>h'.elim))))
 cases r with
 |none=>exact wpAny_pure ⟨rfl,codeAny_block (wpAny_mono h₁ (fun _ _ h=>h) fun _ _ e=>e.elim)⟩
 |some v=>
  refine wpAny_bind (wpAny_mono h₁ (fun _ s₁' h₁'=>?_) fun _ _ e=>e.elim)
  refine wpAny_bind (wpAny_mono h₁' (fun _ s₂ h₂=>wpAny_bind (wpAny_mono h₂ (fun f s₃ h₃=>?_) fun _ _ h'=>h'.elim)) fun _ _ h'=>h'.elim)
  cases f with
  |next=>exact wpAny_pure ⟨rfl,h₃⟩
  |cont=>exact wpAny_pure ⟨rfl,h₃⟩
  |brk=>exact wpAny_pure h₃
  |ret v=>exact wpAny_pure h₃
theorem eZ{test body orelse env}
  (turn:wpAny (model prog w) A (isTrue test env (eval test env)) (fun b s₂=>
    if b then wpAny (model prog w) A (execs body env) (fun f s₃=>match f with
      |.next | .cont=>codeAny (model prog w) A (.whileLoop test body orelse env) R s₃
      |.brk=>R (.ok .next) s₃
      |.ret v=>R (.ok (.ret v)) s₃) (fun _ _=>False) s₂
    else wpAny (model prog w) A (execs orelse env) (fun f s₃=>R (.ok f) s₃) (fun _ _=>False) s₂) (fun _ _=>False) s):
  codeAny (model prog w) A (.whileLoop test body orelse env) R s:=by
 refine codeAny_of_tree ?_
 show wpAny _ A ((whileTurn test body orelse env).onRaise (fun x=>do noteFrame x env;theTreesLotGoes x)) _ _ s
 refine wpAny_noted ?_
 simp -iota only[whileTurn]
 refine wpAny_bind (wpAny_mono turn (fun b s₁ h₁=>?_) fun _ _ h'=>h'.elim)
 cases b with
 |true=>
  simp -iota only[if_true]at h₁ ⊢
  refine wpAny_bind (wpAny_mono h₁ (fun f s₃ h₃=>?_) fun _ _ h'=>h'.elim)
  cases f with
  |next=>exact wpAny_pure ⟨rfl,h₃⟩
  |cont=>exact wpAny_pure ⟨rfl,h₃⟩
  |brk=>exact wpAny_pure h₃
  |ret v=>exact wpAny_pure h₃
 |false=>
  simp -iota only[Bool.false_eq_true,if_false]at h₁ ⊢
  exact wpAny_bind (wpAny_mono h₁ (fun f s₃ h₃=>wpAny_pure h₃) fun _ _ h'=>h'.elim)
theorem dA{elt target iter:Expr}{ifs:List Expr}{scope:Scope}{pos:Pos}{it acc:Value}{env:Env}
  (turn:wpAny (model prog w) A (pyNext it) (fun r s₁=>match r with
   |none=>R (.ok .next) s₁
   |some v=>wpAny (model prog w) A (letOwnedTupleGo target it v) (fun _ s₁'=>wpAny (model prog w) A (assign target env v) (fun _ s₂=>
     wpAny (model prog w) A (forIn ifs true fun c r=>if r=true then do let ok ← isTrue c env (eval c env);pure (ForInStep.yield ok) else pure (ForInStep.yield r)) (fun ok s₃=>
      if ok=true then wpAny (model prog w) A (eval elt env) (fun x s₄=>wpAny (model prog w) A (call (.builtin "list.append") [acc,x]) (fun _ s₅=>codeAny (model prog w) A (.compLoop (.ListComp elt [⟨target,iter,ifs,0⟩] scope pos) 0 it acc env) R s₅) (fun _ _=>False) s₄) (fun _ _=>False) s₃
      else codeAny (model prog w) A (.compLoop (.ListComp elt [⟨target,iter,ifs,0⟩] scope pos) 0 it acc env) R s₃) (fun _ _=>False) s₂) (fun _ _=>False) s₁') (fun _ _=>False) s₁) (fun _ _=>False) s):
  codeAny (model prog w) A (.compLoop (.ListComp elt [⟨target,iter,ifs,0⟩] scope pos) 0 it acc env) R s:=by
 refine codeAny_of_tree ?_
 show wpAny _ A ((compTurn (.ListComp elt [⟨target,iter,ifs,0⟩] scope pos) 0 it acc env).onRaise (fun x=>do noteFrame x env;theTreesLotGoes x)) _ _ s
 refine wpAny_noted ?_
 rw[compTurn_list]
 refine wpAny_bind (wpAny_standAt (wpAny_bind (wpAny_mono turn (fun r s₁ h₁=>?_) fun _ _ h'=>h'.elim)))
 cases r with
 |none=>exact wpAny_pure h₁
 |some v=>
  refine wpAny_bind (wpAny_mono h₁ (fun _ s₁' h₁'=>?_) fun _ _ e=>e.elim)
  refine wpAny_bind (wpAny_mono h₁' (fun _ s₂ h₂=>wpAny_bind (wpAny_mono h₂ (fun ok s₃ h₃=>?_) fun _ _ h'=>h'.elim)) fun _ _ h'=>h'.elim)
  cases ok with
  |false=>exact wpAny_pure ⟨rfl,h₃⟩
  |true=>
   exact wpAny_bind (wpAny_bind (wpAny_mono h₃ (fun x s₄ h₄=>wpAny_bind (wpAny_mono h₄ (fun _ s₅ h₅=>wpAny_pure (wpAny_pure ⟨rfl,h₅⟩)) fun _ _ h'=>h'.elim)) fun _ _ h'=>h'.elim))
end
noncomputable def clo(env:Env):List (Str×NameKind)→List (Str×Addr)→List (Str×Addr)
 |[],cs=>cs
 |(n,k)::r,cs=>clo env r (if k==.free then (n,(env.cells.lookup n).getD 0)::cs else cs)
theorem mV{env:Env}(f:Str×NameKind→List (Str×Addr)→Sem (ForInStep (List (Str×Addr))))
  (hf:∀n k cs,f (n,k) cs=if k==.free then (do let c ← cellOf env n;pure (.yield ((n,c)::cs))) else pure (.yield cs)):
  ∀(names:List (Str×NameKind)) (cs:List (Str×Addr)),(∀x∈names,x.2=.free→∃c,env.cells.lookup x.1=some c)→forIn names cs f=pure (clo env names cs)
 |[],cs,_=>by rw[List.forIn_nil];rfl
 |(n,k)::r,cs,h=>by
  rw[List.forIn_cons,hf]
  have hr:∀x∈r,x.2=.free→∃c,env.cells.lookup x.1=some c:=fun x hx=>h x (List.mem_cons_of_mem _ hx)
  unfold clo
  by_cases hk:(k==.free)=true
  ·obtain⟨c,hc⟩:=h (n,k) List.mem_cons_self (by simpa using hk)
   have e:cellOf env n=pure c:=by unfold cellOf;rw[show env.cells.lookup n=some c from hc]
   simp only[hk,if_true,e,pure_bind]
   rw[mV f hf r _ hr,show env.cells.lookup n=some c from hc];rfl
  ·simp only[hk,if_false,pure_bind]
   exact mV f hf r _ hr
theorem zH{scope:Scope}{env:Env}(h:∀x∈scope.names,x.2=.free→∃c,env.cells.lookup x.1=some c):closureFor scope env=pure (clo env scope.names []):=by
 simp only[closureFor]
 rw[mV (env:=env) _ (fun n k cs=>by cases hk:(k==NameKind.free)<;>simp[hk]) _ _ h]
 rfl
theorem dJ0{env:Env}:∀(names:List (Str×NameKind)) (cs:List (Str×Addr)),(∀x∈names,x.2=.free→∃c,env.cells.lookup x.1=some c)→(∀x c,cs.lookup x=some c→env.cells.lookup x=some c)→
  ∀x c,(clo env names cs).lookup x=some c→env.cells.lookup x=some c
 |[],cs=>fun _ h=>h
 |(n,k)::r,cs=>fun h hc x c e=>by
  unfold clo at e
  refine dJ0 r _ (fun x hx=>h x (List.mem_cons_of_mem _ hx)) ?_ x c e
  intro y d hy
  by_cases hk:(k==.free)=true
  ·rw[if_pos hk,List.lookup_cons]at hy
   obtain⟨c',hc'⟩:=h (n,k) List.mem_cons_self (by simpa using hk)
   cases hyn:y==n with
   |true=>
    rw[hyn]at hy
    have e1:y=n:=by simpa using hyn
    subst e1
    rw[show env.cells.lookup y=some c' from hc']at hy ⊢
    exact hy
   |false=>rw[hyn]at hy;exact hc y d hy
  ·rw[if_neg hk]at hy;exact hc y d hy
theorem dH0{env:Env}:∀(names:List (Str×NameKind)) (cs:List (Str×Addr)) (x:Str),((x,NameKind.free)∈names∨(cs.lookup x).isSome=true)→((clo env names cs).lookup x).isSome=true
 |[],cs,x,h=>h.elim (fun h=>nomatch h) fun h=>h
 |(n,k)::r,cs,x,h=>by
  unfold clo
  refine dH0 r _ x ?_
  rcases h with h | h
  ·rcases List.mem_cons.mp h with e | h
   ·cases e;right;simp[List.lookup_cons]
   ·exact .inl h
  ·right
   by_cases hk:(k==.free)=true
   ·rw[if_pos hk,List.lookup_cons]
    cases hx:x==n
    ·exact h
    ·rfl
   ·rw[if_neg hk];exact h
theorem gQ(g:Str→NameKind→NameKind){k:NameKind}:∀{names:List (Str×NameKind)} {x:Str},names.lookup x=some k→(names.map fun p=>(p.1,g p.1 p.2)).lookup x=some (g x k)
 |[],x,h=>by simp at h
 |(n,kk)::r,x,h=>by
  rw[List.map_cons,List.lookup_cons]
  rw[List.lookup_cons]at h
  cases hx:x==n with
  |true=>
   rw[hx]at h
   cases h
   have e:x=n:=by simpa using hx
   subst e
   rfl
  |false=>
   rw[hx]at h
   exact gQ g h
noncomputable def rlab(env:Env)(n:Str)(k:NameKind):NameKind:=if (k==NameKind.free&&env.scope.kind==.function&&env.kindOf n==some .cell) then .cell else k
theorem rY(scope:Scope)(env:Env):(relabel scope env).names=scope.names.map fun p=>(p.1,rlab env p.1 p.2):=by
 show List.map _ _=_
 congr 1
 funext p
 obtain⟨n,k⟩:=p
 show (if (k==NameKind.free&&env.scope.kind==.function&&env.kindOf n==some .cell)=true then (n,NameKind.cell) else (n,k))=(n,rlab env n k)
 unfold rlab
 split<;>rfl
theorem qG{scope:Scope}{env:Env}{k:NameKind}{x:Str}(h:scope.names.lookup x=some k):(relabel scope env).names.lookup x=some (rlab env x k):=by
 rw[rY];exact gQ (rlab env) h
theorem dR{cx:Cx}:∀{names:List (Str×NameKind)} {x:Str} {v:PV},(capt cx names).lookup x=some v→(x,NameKind.free)∈names∧cx.names.lookup x=some .cell∧cx.le.lookup x=some v
 |[],x,v,h=>by cases h
 |(n,k)::r,x,v,h=>by
  have h:(List.filterMap (jU0 cx) ((n,k)::r)).lookup x=some v:=h
  cases e:jU0 cx (n,k)with
  |none=>
   rw[List.filterMap_cons_none e]at h
   exact (dR h).imp (List.mem_cons_of_mem _) id
  |some p=>
   rw[List.filterMap_cons_some e]at h
   obtain⟨hk,e⟩:=vQ e
   obtain⟨kd,hkd,e⟩:=aA e
   obtain⟨rfl,e⟩:=zG e
   obtain⟨w,hv,rfl⟩:=Option.map_eq_some_iff.mp e
   rw[List.lookup_cons]at h
   cases hx:x==n with
   |true=>
    rw[hx]at h
    rw[eq_of_beq hx,← Option.some.inj h]
    exact⟨(show k=NameKind.free from hk)▸List.mem_cons_self,hkd,hv⟩
   |false=>rw[hx]at h;exact (dR h).imp (List.mem_cons_of_mem _) id
section
variable {B:Bs}{k:Nat}{G:Gl}{n:Nat}
structure It1 (B:Bs) (k:Nat) (cx:Cx) (σ:Sto) (e:Expr) (items:List PV) (w:Option (Nat×Nat)) (σ₁:Sto):Prop where
 fold:∀env x,foldedSetIterable e env x=pure x
 run:∀A X env ρ s,Room k A→St B ρ σ s→Fr B X cx env ρ s.heap→∀(Q:Value→Shared→Prop) (E:Value→Shared→Prop),
  (∀val s₁' ρ₁ s₁,St B ρ₁ σ₁ s₁→Evo B [] ρ σ s.heap ρ₁ σ₁ s₁.heap→(∀(E:Value→Shared→Prop) (Q:Value→Shared→Prop),(∀it s₂ wr J T,Itr B A it items w T ρ₁ σ₁ s₁ wr J→(∀t,cP e t=true→T t)→J 0 s₂.heap→St B ρ₁ σ₁ s₂→Evo B [] ρ₁ σ₁ s₁.heap ρ₁ σ₁ s₂.heap→Q it s₂)→wpAny (model B.prog B.w) A (pyIter val) Q E s₁')→Q val s₁')→
  wpAny (model B.prog B.w) A (eval e env) Q E s
noncomputable def eD0(β:Type)(B:Bs)(k:Nat)(G:Gl)(n:Nat):Prop:=∀{cx σ e} {K:List PV→Option (Nat×Nat)→Sto→Option β} {r:β} {C:Prop},bP G n cx σ e K=some r→(∀items w σ₁,K items w σ₁=some r→It1 B k cx σ e items w σ₁→C)→C
structure DOk (B:Bs) (X:List Addr) (h₀:Heap) (D:Addr):Prop where
 h0:h₀.get? D=none
 x:D∉X
 t:D∉B.Tb
 b:B.h₀.get? D=none
structure CSt (B:Bs) (X:List Addr) (cx:Cx) (env:Env) (ρ₀:List Addr) (σ₀:Sto) (h₀:Heap) (J:Nat→Heap→Prop) (all items:List PV) (D:Addr) (done:List PV) (j:Nat) (ρ:List Addr) (σ:Sto) (s:Shared):Prop where
 st:St B ρ σ s
 evo:Evo B X ρ₀ σ₀ h₀ ρ σ s.heap
 fr:Fr B X cx env ρ s.heap
 at_:J j s.heap
 le:j≤all.length
 drop:all.drop j=items
 rho:D∉ρ
 acc:∃vs,s.heap.PlainList D vs.toArray∧VRs B ρ s.heap done vs
structure CEnd (B:Bs) (X:List Addr) (env:Env) (ρ₀:List Addr) (σ₀:Sto) (h₀:Heap) (D:Addr) (xs:List PV) (σ':Sto) (ρ':List Addr) (s':Shared):Prop where
 st:St B ρ' σ' s'
 evo:Evo B X ρ₀ σ₀ h₀ ρ' σ' s'.heap
 ns:∃m,s'.heap.Ns env.locals m
 own:env.locals∉ρ'
 rho:D∉ρ'
 acc:∃vs,s'.heap.PlainList D vs.toArray∧VRs B ρ' s'.heap xs vs
noncomputable def gM(B:Bs)(k:Nat)(cx:Cx)(σ:Sto)(elt tgt:Expr)(ifs:List Expr)(w:Option (Nat×Nat))(items xs:List PV)(σ':Sto):Prop:=
 ∀A X env it iter scope pos all T ρ₀ σ₀ s₀ wr J D R,Itr B A it all w T ρ₀ σ₀ s₀ wr J→T tgt→Room k A→St B ρ₀ σ₀ s₀→DOk B X s₀.heap D→∀done,(done++xs).length≤100000→
  (∀ρ' s',CEnd B X env ρ₀ σ₀ s₀.heap D (done++xs) σ' ρ' s'→R (.ok .next) s')→∀j ρ s,CSt B X cx env ρ₀ σ₀ s₀.heap J all items D done j ρ σ s→
  codeAny (model B.prog B.w) A (.compLoop (.ListComp elt [⟨tgt,iter,ifs,0⟩] scope pos) 0 it (.ref D) env) R s
noncomputable def yX(β:Type)(B:Bs)(k:Nat)(G:Gl)(n:Nat):Prop:=∀{cx σ elt tgt ifs w items} {K:List PV→Sto→Option β} {r:β} {C:Prop},cN G n cx σ elt tgt ifs w items K=some r→(∀xs σ',K xs σ'=some r→gM B k cx σ elt tgt ifs w items xs σ'→C)→C
theorem mN{α:Type}{l:List α}{j:Nat}{a:α}{r:List α}(h:l.drop j=a::r):l[j]?=some a∧l.drop (j+1)=r:=by
 have h1:(l.drop j)[0]?=some a:=by rw[h];rfl
 rw[List.getElem?_drop]at h1
 have h2:(l.drop j).drop 1=r:=by rw[h];rfl
 rw[List.drop_drop]at h2
 exact⟨by simpa using h1,h2⟩
theorem drop_nil{α:Type}{l:List α}{j:Nat}(h:l.drop j=[]):l.length≤j:=by
 have:=congrArg List.length h
 simp at this
 lia
section
variable {cx cx':Cx}{σ σ₁ σ₂ σ₃:Sto}{elt tgt:Expr}{ifs:List Expr}{w:Option (Nat×Nat)}{rest xs:List PV}{v y:PV}
theorem lN{A:Around}{it:Value}{items:List PV}{T:Expr→Prop}{ρ₀:List Addr}{σ₀:Sto}{s₀:Shared}{wr:List Addr}{J:Nat→Heap→Prop}(I:Itr B A it items w T ρ₀ σ₀ s₀ wr J){j:Nat}{h:Heap}(hJ:J j h){D:Addr}{vs:Array Value}(hp:h.PlainList D vs):D∉wr:=fun hm=>by
 obtain⟨m,hp⟩:=hp
 obtain⟨o,us,ho,hd,_⟩:=I.obj _ _ hJ D hm
 rw[hp]at ho;cases ho;cases hd
theorem iO0(ok:BsOk B)(hw:watch σ w=true):gM B k cx σ elt tgt ifs w [] [] σ:=by
 intro A X env it iter scope pos all T ρ₀ σ₀ s₀ wr J D R I hT Rm x₀ dok done hlen q j ρ s c
 have hj:j=all.length:=Nat.le_antisymm c.le (drop_nil c.drop)
 subst hj
 obtain⟨vs,hpl,hvs⟩:=c.acc
 have hDwr:=lN I c.at_ hpl
 refine dA (I.stop ok x₀ c.st c.evo c.fr c.at_ hw fun s' x' e' f' vk hk=>q ρ s' ⟨x',e',?_,(f'.ofX _ f'.own).1,c.rho,vs,hpl.imp fun _ h=>hk D _ hDwr h,by rw[List.append_nil];exact VRs.vk vk _ hvs⟩)
 exact f'.loc.imp fun _ h=>h.1
theorem fK0(ok:BsOk B)(hw:watch σ w=true)(hb:aH cx tgt v=some cx')(H1:T1 B k cx' σ (lD ifs) σ₁ (fun _ _ b'=>b'=false))(H2:gM B k cx' σ₁ elt tgt ifs w rest xs σ₂):gM B k cx σ elt tgt ifs w (v::rest) xs σ₂:=by
 intro A X env it iter scope pos all T ρ₀ σ₀ s₀ wr J D R I hT Rm x₀ dok done hlen q j ρ s c
 obtain⟨hj,hrest⟩:=mN c.drop
 obtain⟨vs,⟨m,hpl⟩,hvs⟩:=c.acc
 refine dA (I.turn ok Rm x₀ c.st c.evo c.fr hT hj c.at_ hw hb (fun v s' h=>h) fun s₃ t=>?_)
 have hpl₃:=t.kp D _ (lN I c.at_ ⟨m,hpl⟩) c.rho dok.t dok.x hpl
 refine H1.use Rm t.st t.fr fun b ρ₄ s₄ x₄ e₄ f₄ hb4=>?_
 subst hb4
 rw[if_neg Bool.false_ne_true]
 exact H2 A X env it iter scope pos all T ρ₀ σ₀ s₀ wr J D R I hT Rm x₀ dok done hlen q (j+1) ρ₄ s₄ ⟨x₄,t.evo.trans e₄.weak,f₄,I.keepJ ok x₀ t.st t.j e₄,(List.getElem?_eq_some_iff.mp hj).1,hrest,e₄.notin c.rho hpl₃,vs,⟨m,e₄.kp.nil hpl₃ c.rho dok.t⟩,VRs.evo e₄ _ (VRs.vk t.vk _ hvs)⟩
theorem fQ0(ok:BsOk B)(hw:watch σ w=true)(hb:aH cx tgt v=some cx')(H1:T1 B k cx' σ (lD ifs) σ₁ (fun _ _ b'=>b'=true))(H2:E1 B k cx' σ₁ elt y σ₂)(H3:gM B k cx' σ₂ elt tgt ifs w rest xs σ₃):gM B k cx σ elt tgt ifs w (v::rest) (y::xs) σ₃:=by
 intro A X env it iter scope pos all T ρ₀ σ₀ s₀ wr J D R I hT Rm x₀ dok done hlen q j ρ s c
 obtain⟨hj,hrest⟩:=mN c.drop
 obtain⟨vs,⟨m,hpl⟩,hvs⟩:=c.acc
 refine dA (I.turn ok Rm x₀ c.st c.evo c.fr hT hj c.at_ hw hb (fun v s' h=>h) fun s₃ t=>?_)
 have hpl₃:=t.kp D _ (lN I c.at_ ⟨m,hpl⟩) c.rho dok.t dok.x hpl
 have hvs₃:=VRs.vk t.vk _ hvs
 refine H1.use Rm t.st t.fr fun b ρ₄ s₄ x₄ e₄ f₄ hb4=>?_
 subst hb4
 rw[if_pos rfl]
 refine H2.use Rm x₄ f₄ fun vy ρ₅ s₅ x₅ e₅ f₅ r₅=>?_
 have e45:=e₄.trans e₅
 have hpl₅:=e45.kp.nil hpl₃ c.rho dok.t
 have hD5:D∉ρ₅:=e45.notin c.rho hpl₃
 have hJ₅:=I.keepJ ok x₀ t.st t.j e45
 have hDwr:=lN I hJ₅ ⟨m,hpl₅⟩
 have hl:vs.toArray.size≤100000:=by rw[show vs.toArray.size=done.length from hvs.length];rw[List.length_append]at hlen;exact Nat.le_trans (Nat.le_add_right ..) hlen
 rw[List.append_cons]at hlen q
 refine wpAny_list_append_plain ⟨m,hpl₅⟩ (fun h' hp' hs'=>?_) (Nat.le_trans hl (by decide))
 have hp'':h'.PlainList D (vs++[vy]).toArray:=by rw[← List.push_toArray];exact hp'
 have hkD:∀b o,b∉[D]→s₅.heap.get? b=some o→h'.get? b=some o:=fun b o hb ho=>hs'.extBut b o (fun e=>hb (e▸List.mem_singleton_self _)) ho
 have one:∀{a},a∈[D]→a=D:=List.mem_singleton.mp
 obtain⟨x₆,vk₆⟩:=x₅.alter ok (wr:=[D]) (h':=h') (tk:=s₅.toks) (fun a ha=>by
  rw[one ha]
  exact⟨hD5,dok.t,dok.b,fun o ho=>by rw[hpl₅]at ho;cases ho;exact⟨fun h=>(by simp at h),fun h=>(by simp at h)⟩⟩) hkD
 exact H3 A X env it iter scope pos all T ρ₀ σ₀ s₀ wr J D R I hT Rm x₀ dok (done++[y]) hlen q (j+1) ρ₅ _ ⟨x₆,(t.evo.trans e45.weak).alter (wr:=[D]) (fun a ha=>by rw[one ha];exact dok.h0) hkD,f₅.vk' vk₆ (wr:=[D]) (fun a ha o ho=>by rw[one ha,hpl₅]at ho;cases ho;exact fN rfl) hkD,I.frame _ _ _ hJ₅ fun b hb o ho=>hkD b o (fun hm=>hDwr (one hm▸hb)) ho,(List.getElem?_eq_some_iff.mp hj).1,hrest,hD5,vs++[vy],hp'',VRs.vk vk₆ _ (VRs.append (VRs.evo e45 _ hvs₃) ⟨vy,[],rfl,r₅,rfl⟩)⟩
end
theorem bM0{β:Type}(ok:BsOk B)(ih:EvS β B k G n)(iht:tV β B k G n)(ihc:yX β B k G n):yX β B k G (n+1):=fun {cx σ elt tgt ifs w items K r C} h c=>by
 refine lU h fun hw h=>?_
 cases items with
 |nil=>exact c _ _ h (iO0 ok hw)
 |cons v rest=>
  refine aY h fun cx' hb h=>iht h fun b σ₁ h H1=>dG h (fun e h=>?_) fun e h=>?_
  ·exact ih h fun y σ₂ h H2=>ihc h fun xs σ₃ h H3=>c _ _ h (fQ0 ok hw hb (e▸H1) H2 H3)
  ·exact ihc h fun xs σ₂ h H3=>c _ _ h (fK0 ok hw hb (e▸H1) H3)
end
section
variable {B:Bs}{k:Nat}{G:Gl}{n:Nat}
structure ScopeOk (cx:Cx) (scope:Scope):Prop where
 kind:scope.kind=.function
 cell:∀x∈scope.names,x.2≠ .cell
 loc:∀x∈scope.names,x.2=.local→scope.names.lookup x.1=some .local
 fre:∀x∈scope.names,x.2=.free→scope.names.lookup x.1=some .free∧cx.names.lookup x.1=some .cell
theorem aI0{cx:Cx}{scope:Scope}(h:fD cx scope=true):ScopeOk cx scope:=by
 unfold fD at h
 rw[Bool.and_eq_true,List.all_eq_true]at h
 obtain⟨h1,h2⟩:=h
 have h3:∀x∈scope.names,(x.2≠ .cell∧(x.2≠ .local∨scope.names.lookup x.1=some .local))∧(x.2≠ .free∨scope.names.lookup x.1=some .free∧cx.names.lookup x.1=some .cell):=fun x hx=>by
  have:=h2 x hx
  simpa only[Bool.and_eq_true,Bool.or_eq_true,bne_iff_ne,beq_iff_eq]using this
 exact⟨by simpa using h1,fun x hx=>(h3 x hx).1.1,fun x hx hl=>(h3 x hx).1.2.resolve_left fun h=>h hl,fun x hx hf=>(h3 x hx).2.resolve_left fun h=>h hf⟩
theorem rM{X:List Addr}{cx:Cx}{env:Env}{ρ:List Addr}{h:Heap}{scope:Scope}(f:Fr B X cx env ρ h)(so:ScopeOk cx scope):∀x∈scope.names,x.2=.free→∃c,env.cells.lookup x.1=some c:=fun x hx hf=>by
 obtain⟨_,c,w,hc,_⟩:=f.cel x.1 (so.fre x hx hf).2
 exact⟨c,hc⟩
noncomputable def zF(scope:Scope)(C:Addr)(env:Env):Env:={ newEnv scope C env.globals (clo env scope.names []) env.qual none .none (some env) builtinsNs with scope:=relabel scope env }
theorem fG{s:Shared}{h':Heap}{ρ ρ':List Addr}{σ σ':Sto}{X:List Addr}(e:Evo B X ρ σ s.heap ρ' σ' h'){a:Addr}(ha:h'.get? a=none):s.heap.get? a=none:=by
 cases e0:s.heap.get? a with
 |none=>rfl
 |some o=>obtain⟨o',ho'⟩:=e.kp.live a o e0;rw[ha]at ho';exact nos ho'
theorem rG(ok:BsOk B){ρ:List Addr}{σ:Sto}{s:Shared}(x:St B ρ σ s){a:Addr}(ha:s.heap.get? a=none):a∉ρ∧a∉B.Tb∧B.h₀.get? a=none:=by
 have ht:a∉B.Tb:=fun hm=>by obtain⟨o,ho⟩:=ok.tb _ x.inv _ hm;rw[ha]at ho;exact nos ho
 refine⟨fun hm=>?_,ht,?_⟩
 ·obtain⟨o,ho⟩:=x.alive hm;rw[ha]at ho;exact nos ho
 ·cases hb:B.h₀.get? a with
  |none=>rfl
  |some o=>rw[x.base a o hb ht]at ha;exact nos ha.symm
theorem bE0{X:List Addr}{cx:Cx}{env:Env}{ρ:List Addr}{σ:Sto}{s:Shared}{scope:Scope}(ok:BsOk B)(x:St B ρ σ s)(f:Fr B X cx env ρ s.heap)(so:ScopeOk cx scope){h':Heap}{m:Str→Option Value}{C:Addr}
  (hC:s.heap.get? C=none) (hn:h'.Ns C m) (hk:∀b o,s.heap.get? b=some o→h'.get? b=some o):
  Fr B [C] ⟨scope.names,capt cx scope.names⟩ (zF scope C env) ρ h':=by
 obtain⟨x',e⟩:=x.grow ok (s':={ s with heap:=h' }) rfl x.gens hk
 have f':=f.evo e
 have sub:=dJ0 scope.names [] (rM f so) (by simp)
 obtain⟨oC,es,ep,hoC,hdC,_⟩:=id hn
 have hkind:∀{y:Str} {kd:NameKind},scope.names.lookup y=some kd→(zF scope C env).kindOf y=some (rlab env y kd):=fun {y kd} hy=>qG hy
 exact {
  kind:=by show scope.kind=.function;exact so.kind
  glob:=f.glob
  bt:=f.bt
  loc:=⟨m,hn,fun y hy=>⟨by rw[hkind hy];rfl,fun v hv=>by
   obtain⟨hm,_,_⟩:=dR hv
   have:=(so.fre _ hm rfl).1
   dsimp only at hy
   rw[hy]at this;cases this⟩⟩
  cel:=fun y hy=>by
   exact absurd rfl (so.cell (y,.cell) (mem_of_lookup hy))
  fre:=fun y hy v hv=>by
   obtain⟨hm,hcell,hle⟩:=dR hv
   obtain⟨hkc,c,w,hc,_,hw,hvv⟩:=f'.cel y hcell
   obtain⟨val,rfl,hr⟩:=hvv v hle
   refine⟨.inl ?_,c,val,?_,hw,hr⟩
   ·rw[hkind hy]
    unfold rlab
    rw[f.kind,hkc];rfl
   ·have hs:=dH0 scope.names [] y (.inl hm) (env:=env)
    obtain⟨c',hc'⟩:=Option.isSome_iff_exists.mp hs
    have:=sub y c' hc'
    rw[hc]at this;cases this
    exact hc'
  glb:=fun y hy=>by rw[hkind hy];rfl
  dom:=fun y v hv=>by
   obtain⟨hm,_,_⟩:=dR hv
   exact .inr (.inr (so.fre _ hm rfl).1)
  own:=by show C∈[C];simp
  ofX:=fun a ha=>by
   rw[List.mem_singleton.mp ha]
   have h:=rG ok x hC
   exact⟨h.1,h.2.1,h.2.2,oC,hoC,.inl ⟨_,_,hdC⟩⟩
  ofc:=fun y c hc=>f'.ofc y c (sub y c hc)
  apart:=fun y z c hy hz=>f'.apart y z c (sub y c hy) (sub z c hz) }
structure CK (B:Bs) (ρ:List Addr) (σ:Sto) (h₀:Heap) (σ₂:Sto) (xs:List PV) (s':Shared) (ρ':List Addr) (D C:Addr):Prop where
 st:St B ρ' σ₂ s'
 evo:Evo B [] ρ σ h₀ ρ' σ₂ s'.heap
 c0:h₀.get? C=none
 d0:h₀.get? D=none
 ne:C≠D
 cr:C∉ρ'
 ct:C∉B.Tb
 cb:B.h₀.get? C=none
 dr:D∉ρ'
 dt:D∉B.Tb
 db:B.h₀.get? D=none
 ns:∃m,s'.heap.Ns C m
 acc:∃vs,s'.heap.PlainList D vs.toArray∧VRs B ρ' s'.heap xs vs
theorem tB(ok:BsOk B){cx:Cx}{σ σ₁ σ₂:Sto}{elt tgt iter:Expr}{ifs:List Expr}{scope:Scope}{pos cpos:Pos}{items:List PV}{w:Option (Nat×Nat)}{xs:List PV}
  (hsc:fD cx scope=true) (hit:cP iter tgt=true) (hi:It1 B k cx σ iter items w σ₁) (hc:gM B k ⟨scope.names,capt cx scope.names⟩ σ₁ elt tgt ifs w items xs σ₂) (hlen:xs.length≤100000)
  {A:Around} {X:List Addr} {env:Env} {ρ:List Addr} {s:Shared} (R:Room k A) (x:St B ρ σ s) (f:Fr B X cx env ρ s.heap) {use:Option (Value→Sem Unit)} {Q:Value→Shared→Prop} {E:Value→Shared→Prop}
  (K:∀s' ρ' D C,CK B ρ σ s.heap σ₂ xs s' ρ' D C→compPost (model B.prog B.w) A E use Q (.ref D) C (.ok .next) s'):
  wpAny (model B.prog B.w) A (comprehension (.ListComp elt [⟨tgt,iter,ifs,0⟩] scope pos) scope env cpos (newList []) false (eval iter env) use) Q E s:=by
 have so:=aI0 hsc
 refine wpAny_comprehension_free (use:=use) (g:=⟨tgt,iter,ifs,0⟩) (gs:=[]) rfl (hi.fold env) (zH (rM f so)) so.kind so.loc ?_
 refine hi.run A X env ρ s R x f _ _ fun val s₁' ρ₁ s₁ x₁ e₁ hiter=>?_
 refine hiter _ _ fun it s₂ wr J T I hT hJ x₂ e₂=>?_
 refine wpAny_newObj_type (wpAny_newFunctionEnv so.cell (by intro y hy;simp at hy) (fun h₁ hns₁ hsb₁=>?_) so.kind)
 dsimp only at hns₁ hsb₁ ⊢
 generalize hH2:s₂.heap.push { cls:=.type "list",dict:=none,data:=.seq ([]:List Value).toArray }=H2 at hns₁ hsb₁ ⊢
 have hCs:H2.objs.size=s₂.heap.objs.size+1:=by rw[← hH2,Heap.size_push]
 have hDC:s₂.heap.objs.size≠H2.objs.size:=by rw[hCs];exact Nat.ne_of_lt (Nat.lt_succ_self _)
 have h2none:∀a,s₂.heap.objs.size≤a→s₂.heap.get? a=none:=fun a ha=>by
  cases e:s₂.heap.get? a with
  |none=>rfl
  |some o'=>exact absurd (Heap.lt_size e) (Nat.not_lt.mpr ha)
 have hk2:∀b o,s₂.heap.get? b=some o→h₁.get? b=some o:=fun b o ho=>hsb₁.extBut b o (by rw[hCs];exact Nat.ne_of_lt (Nat.lt_succ_of_lt (Heap.lt_size ho))) (Heap.get?_push_of_some _ (hH2▸Heap.get?_push_of_some _ ho))
 obtain⟨x₃,e₃⟩:=x₂.grow ok (s':={ s₂ with heap:=h₁,toks:=s₂.toks+([]:List (Str×Value)).length }) rfl x₂.gens hk2
 have hD:=h2none _ (Nat.le_refl s₂.heap.objs.size)
 have hC:=h2none H2.objs.size (by rw[hCs];exact Nat.le_succ _)
 have fc:=bE0 ok x₂ (f.evo (e₁.trans e₂)) so hC hns₁ hk2
 have hacc:h₁.PlainList s₂.heap.objs.size #[]:=⟨_,hsb₁.extBut _ _ hDC (Heap.get?_push_of_some _ (hH2▸Heap.get?_push_size _ rfl))⟩
 obtain⟨fC1,fC2,fC3⟩:=rG ok x₂ hC
 obtain⟨fD1,fD2,fD3⟩:=rG ok x₂ hD
 have J₃:J 0 h₁:=I.frame _ _ _ hJ fun b _ o ho=>hk2 b o ho
 have bC:=fG e₂ hC
 have bD:=fG e₂ hD
 have loop:=hc A [H2.objs.size] (zF scope H2.objs.size env) it iter scope pos items T ρ₁ σ₁ s₁ wr J s₂.heap.objs.size (compPost (model B.prog B.w) A E use Q (.ref s₂.heap.objs.size) H2.objs.size) I (hT _ hit) R x₁
  ⟨bD,fun hm=>hDC (List.mem_singleton.mp hm),fD2,fD3⟩ [] hlen (fun ρ' s' c=>K s' ρ' _ _ ⟨c.st,e₁.trans (c.evo.forget fun a ha=>by rw[List.mem_singleton.mp ha];exact bC),fG e₁ bC,fG e₁ bD,Ne.symm hDC,c.own,fC2,fC3,c.rho,fD2,fD3,c.ns,c.acc⟩)
  0 ρ₁ { s₂ with heap:=h₁,toks:=s₂.toks+([]:List (Str×Value)).length } ⟨x₃,(e₂.trans e₃).weak,fc,J₃,Nat.zero_le _,rfl,fD1,[],hacc,rfl⟩
 refine codeAny_compStart_list loop ?_
 exact wpAny_mono (I.self 0 _ (fun it' s'=>it'=it∧s'={ s₂ with heap:=h₁,toks:=s₂.toks+([]:List (Str×Value)).length }) (fun _ _=>False) J₃ ⟨rfl,rfl⟩) (fun _ _ h=>by rw[h.1,h.2];exact loop) fun _ _ e=>e.elim
end
section
variable {B:Bs}{k:Nat}{G:Gl}{n:Nat}
theorem ns_data{h:Heap}{a:Addr}{m}(hn:h.Ns a m){o:Obj}(ho:h.get? a=some o):(o.cls=.type "tuple"→∀vs n,o.data≠ .seq vs n)∧(o.cls=.type "code"→∀vs,o.data≠ .fields vs):=by
 obtain⟨o',es,ep,ho',hd,_⟩:=hn
 rw[ho]at ho';cases ho'
 exact⟨fun _ vs n e=>(by rw[hd]at e;cases e),fun _ vs e=>(by rw[hd]at e;cases e)⟩
theorem qD(ok:BsOk B){ρ ρ':List Addr}{σ σ₂:Sto}{h₀:Heap}{s':Shared}{X:List Addr}{D:Addr}{xs:List PV}(x:St B ρ' σ₂ s')(e:Evo B X ρ σ h₀ ρ' σ₂ s'.heap)(h0:h₀.get? D=none)(hρ:D∉ρ')(ht:D∉B.Tb)(hb:B.h₀.get? D=none)
  {vs:List Value} (hp:s'.heap.PlainList D vs.toArray) (hr:VRs B ρ' s'.heap xs vs):
  St B (ρ'++[D]) (σ₂++[⟨0,.lst xs⟩]) s'∧Evo B X ρ σ h₀ (ρ'++[D]) (σ₂++[⟨0,.lst xs⟩]) s'.heap∧(ρ'++[D])[σ₂.length]?=some D∧Vk B ρ' s'.heap (ρ'++[D]) s'.heap:=by
 obtain⟨m,ho⟩:=id hp
 exact x.adopt ok e h0 hρ ht hb ho (by simp) fun ρ'' vk=>⟨vs,hp,VRs.vk vk _ hr⟩
theorem mS{C:Addr}{h h':Heap}(hs:Heap.SameBut C h h'):∀b o,b∉[C]→h.get? b=some o→h'.get? b=some o:=fun b o hb ho=>hs.extBut b o (fun e=>hb (e▸List.mem_singleton_self _)) ho
theorem sW(ok:BsOk B){C:Addr}{ρ:List Addr}{σ:Sto}{s:Shared}{m}(x:St B ρ σ s)(hn:s.heap.Ns C m)(h1:C∉ρ)(h2:C∉B.Tb)(h3:B.h₀.get? C=none){h':Heap}(hs:Heap.SameBut C s.heap h'):
  St B ρ σ { s with heap:=h' }∧Vk B ρ s.heap ρ h':=
 x.alter ok (wr:=[C]) (h':=h') (tk:=s.toks) (fun a ha=>by rw[List.mem_singleton.mp ha];exact⟨h1,h2,h3,fun o ho=>ns_data hn ho⟩) (mS hs)
theorem gR(ok:BsOk B){cx:Cx}{σ σ₁ σ₂:Sto}{elt tgt iter:Expr}{ifs:List Expr}{scope:Scope}{pos:Pos}{items:List PV}{w:Option (Nat×Nat)}{xs:List PV}
  (hsc:fD cx scope=true) (hit:cP iter tgt=true) (hi:It1 B k cx σ iter items w σ₁) (hc:gM B k ⟨scope.names,capt cx scope.names⟩ σ₁ elt tgt ifs w items xs σ₂) (hlen:xs.length≤100000):
  E1 B k cx σ (.ListComp elt [⟨tgt,iter,ifs,0⟩] scope pos) (.lst σ₂.length) (σ₂++[⟨0,.lst xs⟩]):=by
 intro A X env ρ s R x f
 show wpAny _ A (eval _ env) _ _ s
 rw[eval_ListComp]
 show wpAny _ A (comprehension (.ListComp elt [⟨tgt,iter,ifs,0⟩] scope pos) scope env _ (newList []) false (eval iter env) none) _ _ s
 refine tB ok hsc hit hi hc hlen R x f fun s' ρ' D C K=>?_
 obtain⟨m,hm⟩:=K.ns
 obtain⟨vs,hp,hvs⟩:=K.acc
 refine⟨m,hm,fun h' hs'=>?_⟩
 obtain⟨x₁,vk₁⟩:=sW ok K.st hm K.cr K.ct K.cb hs'
 obtain⟨x₂,e₂,hat,_⟩:=qD ok x₁ (K.evo.alter (wr:=[C]) (fun a ha=>by rw[List.mem_singleton.mp ha];exact K.c0) (mS hs')) K.d0 K.dr K.dt K.db (hp.at fun o ho=>hs'.extBut D o (Ne.symm K.ne) ho) (VRs.vk vk₁ _ hvs)
 exact⟨_,x₂,e₂,D,rfl,hat⟩
theorem jR{β:Type}{r:β}(ihc:yX β B k G n)(ihi:eD0 β B k G n){cx:Cx}{σ:Sto}{elt:Expr}{gens:List Comprehension}{scope:Scope}{p:Pos}{K:PV→Sto→Option β}{C:Prop}(h:evK G (n+1) cx σ (.ListComp elt gens scope p) K=some r)
  (c:∀tgt iter ifs items w σ₁ xs σ₂,gens=[⟨tgt,iter,ifs,0⟩]→fD cx scope=true→cP iter tgt=true→It1 B k cx σ iter items w σ₁→gM B k ⟨scope.names,capt cx scope.names⟩ σ₁ elt tgt ifs w items xs σ₂→xs.length≤100000→
   K (.lst σ₂.length) (σ₂++[⟨0,.lst xs⟩])=some r→C):C:=by
 obtain⟨g,hg,h⟩:=cB h
 obtain⟨tgt,iter,ifs,asy⟩:=g
 exact cV h fun hc h=>ihi h fun items w σ₁ h H1=>ihc h fun xs σ₂ h H2=>cV h fun hl h=>c tgt iter ifs items w σ₁ xs σ₂ (hc.1▸hg) hc.2.1 hc.2.2 H1 H2 hl h
theorem sound_ev{β:Type}(ok:BsOk B){mg mb}(gok:GlOk B k G mg mb)(ih:EvS β B k G n)(ihs:lE0 β B k G n)(iho:EvOS β B k G n)(iht:aA0 β B k G n)(ihc:yX β B k G n)(ihi:eD0 β B k G n):EvS β B k G (n+1):=fun {cx σ e K r C} h c=>by
 cases e with
 |Constant cc kk pos=>exact aY h fun u hc h=>c _ _ h (xF hc)
 |Name y pos=>
  obtain⟨v,h,hd,hv⟩:=bH0 h
  exact c _ _ h (oK gok hd hv)
 |BinOp l op e₂ pos=>
  refine ih h fun a σ₁ h H1=>ih h fun b σ₂ h H2=>?_
  obtain⟨v,σ',h,hb⟩:=zJ ok h
  exact c _ _ h (yH H1 H2 hb)
 |UnaryOp op y pos=>cases op with
  |USub=>exact ih h fun v σ₁ h H1=>dC (P:=fun v=>E1 B k cx σ y v σ₁→C) h (fun i h H1=>c _ _ h (gQ0 H1)) H1
  |Not=>exact ih h fun v σ₁ h H1=>mA h fun t h ht=>c _ _ h (gJ0 H1 ht)
  |_=>exact nos h
 |IfExp t a b pos=>
  refine iht h fun d σ₁ h H1=>dG h (fun e h=>?_) fun e h=>?_
  ·exact ih h fun v σ₂ h H2=>c _ _ h (eH0 (e▸H1) H2)
  ·exact ih h fun v σ₂ h H2=>c _ _ h (fN0 (e▸H1) H2)
 |BoolOp op vs pos=>
  obtain⟨y,z,rfl,h1⟩:=eW h
  refine ih h1 fun u σ₁ h H1=>mA (B:=B) h fun t h ht=>?_
  cases op with
  |And=>exact dG h (fun e h=>ih h fun v σ₂ h H2=>c _ _ h (aF0 H1 (e▸ht) H2)) fun e h=>c _ _ h (aQ0 H1 (e▸ht))
  |Or=>exact dG h (fun e h=>c _ _ h (fE0 H1 (e▸ht))) fun e h=>ih h fun v σ₂ h H2=>c _ _ h (gO0 H1 (e▸ht) H2)
 |Compare l ops rs pos=>
  refine fJ (P:=fun ops=>(∀v σ',K v σ'=some r→E1 B k cx σ (.Compare l ops rs pos) v σ'→C)→C) h (fun op h=>fJ (P:=fun rs=>(∀v σ',K v σ'=some r→E1 B k cx σ (.Compare l [op] rs pos) v σ'→C)→C) h fun d h c=>?_) c
  refine vN h fun hm h=>nA h (fun S hS h=>?_) fun _ h=>?_
  ·exact ih h fun v σ₁ h H1=>dC (P:=fun v=>E1 B k cx σ l v σ₁→C) h (fun i h H1=>c _ _ h (yY gok hm hS H1)) H1
  ·exact ih h fun a σ₁ h H1=>ih h fun b σ₂ h H2=>aY h fun t ht h=>c _ _ h (eV0 hm H1 H2 ht)
 |Tuple es kk pos=>exact cV h fun hl h=>ihs h fun vs σ₁ h H=>c _ _ h (xQ ok hl H)
 |List es pos=>exact cV h fun hl h=>ihs h fun vs σ₁ h H=>c _ _ h (bB0 ok hl H)
 |Dict ks vs pos=>
  obtain⟨rfl,h1⟩:=dJ h
  obtain⟨rfl,h2⟩:=dJ h1
  exact c _ _ h2 (aD0 ok)
 |Subscript val sl pos=>
  rcases sliceOr_some h with⟨lo,hi,st,p,rfl,h1⟩ | ⟨hs,h1⟩
  ·refine ih h1 fun a σ₁ h H1=>iho h fun l σ₂ h H2=>iho h fun hh σ₃ h H3=>iho h fun kk σ₄ h H4=>?_
   obtain⟨v,σ',h,hb⟩:=gR0 ok h
   exact c _ _ h (oA ok H1 H2 H3 H4 hb)
  ·refine ih h1 fun a σ₁ h H1=>ih h fun i σ₂ h H2=>?_
   obtain⟨v,h,hb⟩:=gE0 h
   exact c _ _ h (fS0 hs H1 H2 hb)
 |Call f args kws pos=>
  obtain⟨rfl,h1⟩:=dJ h
  refine qU (P:=fun f=>(∀v σ',K v σ'=some r→E1 B k cx σ (.Call f args [] pos) v σ'→C)→C) h1 (fun g p h c=>?_) (fun o m apos h c=>?_) c
  ·obtain⟨hd,hk,h⟩:=bK0 h
   rcases ite_some h with⟨rfl,h⟩ | ⟨_,h⟩
   ·obtain⟨a,t,rfl,h⟩:=eW h
    obtain⟨tp,rfl,hkt,h⟩:=vB h
    exact ih h fun v σ₁ h1 H1=>sG (P:=fun v=>E1 B k cx σ a v σ₁→C) h1 (fun i h2 H1=>aY h2 fun xs hx h2=>c _ _ h2 (nF gok hd hk hkt (xB h) H1 hx)) H1
   ·refine ihs h fun vs σ₁ h H=>nA h (fun F hF h=>?_) fun _ h=>?_
    ·obtain⟨f,hf,fok⟩:=gok.fn g F hF
     exact kJ h fun v σ' e h=>c _ _ h (nW gok hd hk H (.inl hf) fok.able fun A ρ s vals R x r=>fok.run A ρ _ s vs vals v σ' R x r e)
    ·obtain⟨f,v,σ',h,hf,able,run⟩:=bK_some gok h
     exact c _ _ h (nW gok hd hk H (.inr (gok.bg _ _ hf)) able run)
  ·refine cV h fun hc h=>nA h (fun T hT h=>?_) fun _ h=>?_
   ·refine ihs h fun vs σ₁ h H=>fJ (P:=fun vs=>Es B k cx σ args vs σ₁→C) h (fun v h H=>dC (P:=fun v=>Es B k cx σ args [v] σ₁→C) h (fun i h H=>?_) H) H
    have E:=tW gok hc.1 hc.2.2 hT H
    cases hTi:T i with
    |none=>rw[hTi]at h E;exact c _ _ h E
    |some x=>rw[hTi]at h E;exact c _ _ h E
   ·exact ih h fun a σ₁ h H1=>ihs h fun vs σ₂ h H2=>cV h fun hk h=>vG hc.1 hc.2.1 hc.2.2 ok gok h H1 H2 hk.1 hk.2 c
 |ListComp elt gens scope pos=>
  refine jR ihc ihi h fun tgt iter ifs items w σ₁ xs σ₂ hg h1 h2 H1 H2 hl h3=>?_
  subst hg
  exact c _ _ h3 (gR ok h1 h2 H1 H2 hl)
 |_=>exact nos h
end
noncomputable def mR:List String:=["enumerate","zip","dict_itemiterator","dict_reverseitemiterator","odict_iterator","itertools.zip_longest","itertools.pairwise"]
theorem pair_no{T:String}(hT:mR.contains T=false){b:Bool}:¬ ((["enumerate","zip","dict_itemiterator","dict_reverseitemiterator","odict_iterator","itertools.zip_longest","itertools.pairwise"].contains T&&b)=true):=fun h'=>by
 rw[show (["enumerate","zip","dict_itemiterator","dict_reverseitemiterator","odict_iterator","itertools.zip_longest","itertools.pairwise"].contains T)=false from hT,Bool.false_and]at h'
 cases h'
theorem iQ{M:Model}{A:Around}{E:Value→Shared→Prop}{s:Shared}{t:Expr}{I:Addr}{v:Value}{o:Obj}{T:String}{Q:Unit→Shared→Prop}(ht:(∃a b c,t=.Tuple a b c)∨∃a c,t=.List a c)(ho:s.heap.get? I=some o)(hc:o.cls=.type T)(hT:mR.contains T=false)(h:Q () s):
  wpAny M A (letOwnedTupleGo t (.ref I) v) Q E s:=by
 have core:∀a,wpAny M A (letOwnedTupleGo (.Tuple [] 0 default) (.ref I) (.ref a)) Q E s:=fun a=>by
  refine wpAny_bind (wpAny_load ho ?_)
  obtain⟨cl,dc,dd,sl⟩:=o
  obtain rfl:cl=.type T:=hc
  cases dd with
  |fields vs=>exact wpAny_ite_false (decide_eq_false (pair_no hT)) (wpAny_pure h)
  |_=>exact wpAny_pure h
 rcases ht with⟨a,b,c,rfl⟩ | ⟨a,c,rfl⟩
 ·cases v with
  |ref a=>exact core a
  |_=>exact wpAny_pure h
 ·cases v with
  |ref a=>exact core a
  |_=>exact wpAny_pure h
theorem cW{M:Model}{A:Around}{E:Value→Shared→Prop}{s:Shared}{t:Expr}{I:Addr}{v:Value}{o:Obj}{T:String}{Q:Unit→Shared→Prop}(ho:s.heap.get? I=some o)(hc:o.cls=.type T)(hT:mR.contains T=false)(h:Q () s):
  wpAny M A (letOwnedTupleGo t (.ref I) v) Q E s:=by
 cases t with
 |Tuple a b c=>exact iQ (.inl ⟨a,b,c,rfl⟩) ho hc hT h
 |List a c=>exact iQ (.inr ⟨a,c,rfl⟩) ho hc hT h
 |_=>exact wpAny_pure h
section
variable {B:Bs}{A:Around}{ρ₀:List Addr}{σ₀:Sto}{s₀:Shared}
theorem sameBut_keep{I:Addr}{h h':Heap}(hs:Heap.SameBut I h h'):∀b o,b∉[I]→h.get? b=some o→h'.get? b=some o:=fun b o hb ho=>hs.extBut b o (by simpa using hb) ho
theorem dX{I:Addr}{h h':Heap}(hs:Heap.ExtBut I h h'):∀b o,b∉[I]→h.get? b=some o→h'.get? b=some o:=fun b o hb ho=>hs b o (by simpa using hb) ho
theorem oR{wr ρ:List Addr}{h h':Heap}(hobj:∀a∈wr,∃o vs,h.get? a=some o∧o.data=.fields vs∧o.cls≠ .type "tuple"∧o.cls≠ .type "code")(hk:∀b o,b∉wr→h.get? b=some o→h'.get? b=some o){pv:PV}{v:Value}
  (r:VR B ρ h pv v):VR B ρ h' pv v:=VR.vk ⟨fun _ _ e=>e,fun a o vs n ho hc _ h1 _=>⟨hk a o (fun hm=>by
   obtain⟨o',_,ho',_,hc',_⟩:=hobj a hm
   rw[ho]at ho';cases ho';exact hc' hc) ho,h1⟩⟩ _ r
theorem Itr.str{I:Addr}{x:Str}{t:Tok}{ty:String}(hh:A.handled=none)(hty:ty="str_ascii_iterator"∨ty="str_iterator")(hI:s₀.heap.get? I=none):
  Itr B A (.ref I) (signs x) none (fun _=>True) ρ₀ σ₀ s₀ [I] (fun i h=>h.IsStrIter I ty x t i):=by
 have hobj:∀(j:Nat) (h:Heap),h.IsStrIter I ty x t j→∀a∈[I],∃o vs,h.get? a=some o∧o.data=.fields vs∧o.cls≠ .type "tuple"∧o.cls≠ .type "code":=fun j h ⟨o,ho,hc,hd⟩ a ha=>by
  simp at ha;subst ha
  refine⟨o,_,ho,hd,?_,?_⟩<;>rw[hc]<;>rcases hty with rfl | rfl<;>decide
 have hsig:∀(j:Nat) (pv:PV),(signs x)[j]?=some pv→∃c,x.cps[j]?=some c∧pv=PV.str ⟨#[c]⟩:=fun j pv hj=>by
  unfold signs at hj
  rw[List.getElem?_map]at hj
  cases hc:x.cps.toList[j]? with
  |none=>rw[hc]at hj;cases hj
  |some c=>rw[hc]at hj;cases hj;exact⟨c,by simpa using hc,rfl⟩
 exact {
  fresh:=fun a ha=>by simp at ha;subst ha;exact hI
  obj:=hobj
  frame:=fun j h h' ⟨o,ho,r⟩ hk=>⟨o,hk I (by simp) o ho,r⟩
  self:=fun j s Q E st hQ=>by
   rcases hty with rfl | rfl
   ·exact wpAny_pyIter_striter_ascii st hQ
   ·exact wpAny_pyIter_striter_wide st hQ
  next:=fun j pv X ρ σ s tg _ hj e xs st hw=>by
   obtain⟨c,hc,rfl⟩:=hsig j pv hj
   have fin:∀h' tk,h'.IsStrIter I ty x t (j+1)→Heap.SameBut I s.heap h'→wpAny (model B.prog B.w) A (letOwnedTupleGo tg (.ref I) (.str ⟨#[c]⟩ s.toks)) (fun _ s''=>∃h'' tk',s''={ s with heap:=h'',toks:=tk' }∧
     (∀b o,b∉[I]→s.heap.get? b=some o→h''.get? b=some o)∧h''.IsStrIter I ty x t (j+1)∧VR B ρ h'' (.str ⟨#[c]⟩) (.str ⟨#[c]⟩ s.toks)) (fun _ _=>False) { s with heap:=h',toks:=tk }:=fun h' tk hit hs'=>by
    obtain⟨o,ho,hcl,hd⟩:=id hit
    exact cW ho hcl (by rcases hty with rfl | rfl<;>decide) ⟨h',tk,rfl,sameBut_keep hs',hit,_,rfl⟩
   rcases hty with rfl | rfl
   ·exact wpAny_pyNext_ascii_item st hc fun h' hit hs'=>⟨_,rfl,fin h' _ hit hs'⟩
   ·exact wpAny_pyNext_wide_item st hc fun h' hit hs'=>⟨_,rfl,fin h' _ hit hs'⟩
  done:=fun X ρ σ s e xs st hw=>by
   have hlen:(signs x).length=x.cps.size:=by simp[signs]
   rw[hlen]at st
   rcases hty with rfl | rfl
   ·exact wpAny_pyNext_ascii_end hh st (by simp) fun h' he'=>⟨rfl,h',s.toks,rfl,dX he'⟩
   ·exact wpAny_pyNext_wide_end hh st (by simp) fun h' he'=>⟨rfl,h',s.toks,rfl,dX he'⟩ }
theorem Itr.range{I:Addr}{a c:Int}{n:Nat}(hh:A.handled=none)(hI:s₀.heap.get? I=none):
  Itr B A (.ref I) ((List.range n).map fun (k:Nat)=>.int (a+c * (k:Int))) none (fun _=>True) ρ₀ σ₀ s₀ [I] (fun i h=>IsRangeIter h I (a+(i:Nat) * c) ((n:Int) - (i:Nat)) c):=by
 have hobj:∀(j:Nat) (h:Heap),IsRangeIter h I (a+(j:Nat) * c) ((n:Int) - (j:Nat)) c→∀b∈[I],∃o vs,h.get? b=some o∧o.data=.fields vs∧o.cls≠ .type "tuple"∧o.cls≠ .type "code":=fun j h ho b hb=>by
  simp at hb;subst hb
  exact⟨_,_,ho,rfl,by simp,by simp⟩
 exact {
  fresh:=fun b hb=>by simp at hb;subst hb;exact hI
  obj:=hobj
  frame:=fun j h h' ho hk=>hk I (by simp) _ ho
  self:=fun j s Q E st hQ=>wpAny_pyIter_rangeiter st hQ
  next:=fun j pv X ρ σ s tg _ hj e xs st hw=>by
   rw[List.getElem?_map]at hj
   have hjn:j < n:=by
    rcases Nat.lt_or_ge j n with h | h
    ·exact h
    ·rw[List.getElem?_eq_none (by simpa using h)]at hj;cases hj
   rw[List.getElem?_range hjn]at hj
   cases hj
   refine wpAny_pyNext_range_item st (by lia) fun h' hit' hs'=>⟨_,rfl,?_⟩
   have e1:a+((j+1:Nat):Int) * c=a+(j:Int) * c+c:=by push_cast;rw[Int.add_mul,Int.one_mul,Int.add_assoc]
   have e2:(n:Int) - ((j+1:Nat):Int)=(n:Int) - (j:Int) - 1:=by push_cast;lia
   refine cW (T:="range_iterator") hit' rfl (by decide) ⟨h',_,rfl,sameBut_keep hs',?_,s.toks,?_⟩
   ·show IsRangeIter h' I _ _ c
    rw[e1,e2];exact hit'
   ·show Value.int _ _=Value.int _ _
    rw[Int.mul_comm c]
  done:=fun X ρ σ s e xs st hw=>by
   have hlen:((List.range n).map fun (k:Nat)=>PV.int (a+c * (k:Int))).length=n:=by simp
   rw[hlen]at st
   exact wpAny_pyNext_range_end hh st (by lia) fun h' he'=>⟨rfl,h',s.toks,rfl,dX he'⟩ }
theorem Itr.tuple{I t:Addr}{xs:List PV}{vs:Array Value}(hh:A.handled=none)(_:St B ρ₀ σ₀ s₀)(hI:s₀.heap.get? I=none)(ht:s₀.heap.IsTuple t vs)(h1:t∉ρ₀)(h2:t∉B.Tb)(hr:VRs B ρ₀ s₀.heap xs vs.toList):
  Itr B A (.ref I) xs none (fun _=>True) ρ₀ σ₀ s₀ [I] (fun i h=>h.IsTupleIter I t i):=by
 have hobj:∀(j:Nat) (h:Heap),h.IsTupleIter I t j→∀b∈[I],∃o vs,h.get? b=some o∧o.data=.fields vs∧o.cls≠ .type "tuple"∧o.cls≠ .type "code":=fun j h ⟨o,ho,hc,hd⟩ b hb=>by
  simp at hb;subst hb
  exact⟨o,_,ho,hd,by rw[hc];decide,by rw[hc];decide⟩
 have keepT:∀{X ρ:List Addr} {σ:Sto} {h:Heap},Evo B X ρ₀ σ₀ s₀.heap ρ σ h→h.IsTuple t vs:=fun e=>by
  obtain⟨o,ho,hc,n,hd⟩:=id ht
  exact⟨o,(e.vk.tup t o vs n ho hc hd h1 h2).1,hc,n,hd⟩
 have hlen:vs.size=xs.length:=by have:=hr.length;simpa using this
 exact {
  fresh:=fun b hb=>by simp at hb;subst hb;exact hI
  obj:=hobj
  frame:=fun j h h' ⟨o,ho,r⟩ hk=>⟨o,hk I (by simp) o ho,r⟩
  self:=fun j s Q E st hQ=>wpAny_pyIter_tupleiter st hQ
  next:=fun j pv X ρ σ s tg _ hj e x st hw=>by
   obtain⟨v,hv,hvr⟩:=hr.get hj
   refine wpAny_pyNext_tuple_item st (keepT e) (by simpa using hv) fun h' hit' hs'=>⟨v,rfl,?_⟩
   obtain⟨o,ho,hc,hd⟩:=id hit'
   exact cW ho hc (by decide) ⟨h',s.toks,rfl,sameBut_keep hs',hit',oR (hobj j _ st) (sameBut_keep hs') (VR.evo e _ hvr)⟩
  done:=fun X ρ σ s e x st hw=>wpAny_pyNext_tuple_end hh st (keepT e) (by simp[hlen]) fun h' he'=>⟨rfl,h',s.toks,rfl,dX he'⟩ }
theorem Itr.list{I l:Addr}{i ver:Nat}{xs:List PV}{vs:List Value}{c:Cell}(hh:A.handled=none)(_:St B ρ₀ σ₀ s₀)(hI:s₀.heap.get? I=none)(hc:σ₀[i]?=some c)(hv:c.ver=ver)(hl:ρ₀[i]?=some l)
  (hp:s₀.heap.PlainList l vs.toArray) (hr:VRs B ρ₀ s₀.heap xs vs):
  Itr B A (.ref I) xs (some (i,ver)) (fun _=>True) ρ₀ σ₀ s₀ [I] (fun j h=>h.IsListIter I l j):=by
 have hobj:∀(j:Nat) (h:Heap),h.IsListIter I l j→∀b∈[I],∃o vs,h.get? b=some o∧o.data=.fields vs∧o.cls≠ .type "tuple"∧o.cls≠ .type "code":=fun j h ⟨o,ho,hc,hd⟩ b hb=>by
  simp at hb;subst hb
  exact⟨o,_,ho,hd,by rw[hc];decide,by rw[hc];decide⟩
 have keepL:∀{X ρ:List Addr} {σ:Sto} {h:Heap},Evo B X ρ₀ σ₀ s₀.heap ρ σ h→watch σ (some (i,ver))=true→h.IsList l vs.toArray:=fun {X ρ σ h} e hw=>by
  obtain⟨c',h1,h2,h3⟩:=e.ver i c hc
  unfold watch at hw
  simp only[h1]at hw
  have hve:c'.ver=ver:=Nat.eq_of_beq_eq_true hw
  obtain⟨n,ho⟩:=id hp
  exact⟨_,(h3 (hv.trans hve.symm)).2 l hl _ ho,rfl,n,rfl⟩
 exact {
  fresh:=fun b hb=>by simp at hb;subst hb;exact hI
  obj:=hobj
  frame:=fun j h h' ⟨o,ho,r⟩ hk=>⟨o,hk I (by simp) o ho,r⟩
  self:=fun j s Q E st hQ=>wpAny_pyIter_listiter st hQ
  next:=fun j pv X ρ σ s tg _ hj e x st hw=>by
   obtain⟨v,hv',hvr⟩:=hr.get hj
   refine wpAny_pyNext_list_item st (keepL e hw) (by simpa using hv') fun h' hit' hs'=>⟨v,rfl,?_⟩
   obtain⟨o,ho,hcl,hd⟩:=id hit'
   exact cW ho hcl (by decide) ⟨h',s.toks,rfl,sameBut_keep hs',hit',oR (hobj j _ st) (sameBut_keep hs') (VR.evo e _ hvr)⟩
  done:=fun X ρ σ s e x st hw=>wpAny_pyNext_list_end hh st (keepL e hw) (by simp[hr.length]) fun h' he'=>⟨rfl,h',s.toks,rfl,dX he'⟩ }
end
section
variable {prog:Program}{w:World}{A:Around}{E:Value→Shared→Prop}{s:Shared}
noncomputable def Hands(prog:Program)(w:World)(A:Around)(it:Addr)(x:Value)(P:Heap→Prop)(s:Shared):Prop:=
 ∀(E:Value→Shared→Prop) (Q:Value→Shared→Prop),(∀h',P h'→Heap.SameBut it s.heap h'→Q x { s with heap:=h' })→wpAny (model prog w) A (Builtin.SmallTypes.nextOf (.ref it)) Q E s
theorem wN{it t:Addr}{i:Nat}{items:Array Value}{x:Value}(hit:s.heap.IsTupleIter it t i)(ht:s.heap.IsTuple t items)(hx:items[i]?=some x):
  Hands prog w A it x (fun h=>h.IsTupleIter it t (i+1)) s:=fun E Q hQ=>by
 obtain⟨o,ho,hc,hd⟩:=id hit
 obtain⟨ol,hol,_,nl,hdl⟩:=ht
 unfold Builtin.SmallTypes.nextOf
 refine wpAny_bind (wpAny_callSpecial?_slot (name:=Str.ofString "__next__") hit.typeIs F.slot_tuple_iterator_next
  (wpAny_call_entry F.slot_tuple_iterator_next hit.typeIs F.entry_tuple_iterator_next ?_ (F.args_tuple_iterator_next_1 _)))
 show wpAny _ _ (field (.ref it) 0 >>= _) _ _ s
 refine wpAny_bind (wpAny_field ho hd (x:=.ref t) rfl ?_)
 show wpAny _ _ (if (Value.ref t==Value.none)=true then _ else _) _ _ s
 rw[if_neg (show ¬ ((Value.ref t==Value.none)=true) from Bool.false_ne_true)]
 show wpAny _ _ (field (.ref it) 1 >>= _) _ _ s
 refine wpAny_bind (wpAny_field ho hd (x:=.int i 0) rfl ?_)
 show wpAny _ _ (seqItems? (.ref t) >>= _) _ _ s
 refine wpAny_bind (wpAny_seqItems hol hdl ?_)
 simp only[Int.toNat_natCast,hx]
 refine wpAny_bind (wpAny_setField ho hd (by simp -iota) (wpAny_pure ⟨x,rfl,wpAny_pure (hQ _ ?_ (Heap.SameBut.update ..))⟩))
 exact⟨_,Heap.get?_update_self _ ho (Obj.isFreed_of_fields (Obj.data_mapFields hd _)),(Obj.cls_mapFields ..).trans hc,by
  rw[Obj.data_mapFields hd];simp -iota [rawInt]⟩
theorem fC0{e it:Addr}{i:Nat}{x old:Value}{P:Heap→Prop}{Q:Option Value→Shared→Prop}
  (he:IsEnum s.heap e it i old) (hne:e≠it) (hin:∀A',Hands prog w A' it x P s) (hP:∀h h',P h→(∀o,h.get? it=some o→h'.get? it=some o)→P h')
  (hQ:∀h',IsEnumOut h' e it ((i:Int)+1) x s.heap.objs.size→P h'→h'.get? s.heap.objs.size=some { cls:=.type "tuple",data:=.seq #[.int i s.toks,x] }→
   (∀b o,b≠e→b≠it→s.heap.get? b=some o→h'.get? b=some o)→Q (some (.ref s.heap.objs.size)) { s with heap:=h',toks:=s.toks+1 }):
  wpAny (model prog w) A (pyNext (.ref e)) Q E s:=by
 obtain⟨hp,g,d,tk,os⟩:=s
 have hT:(⟨hp,g,d,tk,os⟩:Shared).TypeIs (.ref e) "enumerate":=⟨_,he,rfl⟩
 unfold pyNext
 refine wpAny_bind (wpAny_attempt (wpAny_callSpecial?_slot (name:=Str.ofString "__next__") hT F.slot_enumerate_next
  (wpAny_call_entry F.slot_enumerate_next hT F.entry_enumerate_next ?_ (F.args_enumerate_next_1 _))))
 show wpAny _ _ (field (.ref e) 2 >>= _) _ _ _
 refine wpAny_bind (wpAny_field he rfl (x:=.ref it) rfl (wpAny_bind (hin _ _ _ fun h₁ hP₁ hs₁=>?_)))
 replace hs₁:Heap.SameBut it hp h₁:=hs₁
 have he₁:IsEnum h₁ e it i old:=(hs₁.2 e hne).trans he
 show wpAny _ _ (field (.ref e) 3 >>= _) _ _ ⟨h₁,g,d,tk,os⟩
 refine wpAny_bind (wpAny_field he₁ rfl (x:=rawInt i) rfl ?_)
 show wpAny _ _ (field (.ref e) 4 >>= _) _ _ ⟨h₁,g,d,tk,os⟩
 refine wpAny_bind (wpAny_field he₁ rfl (x:=.none) rfl ?_)
 show wpAny _ _ (mkInt i >>= _) _ _ ⟨h₁,g,d,tk,os⟩
 refine wpAny_bind (wpAny_mkInt ?_)
 show wpAny _ _ (setField (.ref e) 3 (rawInt ((i:Int)+1)) >>= _) _ _ ⟨h₁,g,d,tk+1,os⟩
 refine wpAny_bind (wpAny_setField_rec he₁ (by simp -iota) fun h₂ he₂ hs₂=>?_)
 replace hs₂:Heap.SameBut e h₁ h₂:=hs₂
 replace he₂:IsEnum h₂ e it ((i:Int)+1) old:=he₂
 show wpAny _ _ (setField (.ref e) 4 .none >>= _) _ _ ⟨h₂,g,d,tk+1,os⟩
 refine wpAny_bind (wpAny_setField_rec he₂ (by simp -iota) fun h₃ he₃ hs₃=>?_)
 replace hs₃:Heap.SameBut e h₂ h₃:=hs₃
 replace he₃:IsEnum h₃ e it ((i:Int)+1) old:=he₃
 show wpAny _ _ (newTuple [.int i tk,x] >>= _) _ _ ⟨h₃,g,d,tk+1,os⟩
 refine wpAny_bind (wpAny_newTuple ?_)
 have hsz:h₃.objs.size=hp.objs.size:=by rw[hs₃.1,hs₂.1,hs₁.1]
 have he₄:IsEnum (h₃.push { cls:=.type "tuple",data:=.seq #[.int i tk,x] }) e it ((i:Int)+1) old:=Heap.get?_push_of_some _ he₃
 have ht₄:(h₃.push { cls:=.type "tuple",data:=.seq #[.int i tk,x] }).get? hp.objs.size=some { cls:=.type "tuple",data:=.seq #[.int i tk,x] }:=by rw[← hsz];exact Heap.get?_push_size _ rfl
 have hk₄:∀b o,b≠e→b≠it→hp.get? b=some o→(h₃.push { cls:=.type "tuple",data:=.seq #[.int i tk,x] }).get? b=some o:=fun b o hbe hbi hb=>Heap.get?_push_of_some _ (hs₃.extBut b o hbe (hs₂.extBut b o hbe (hs₁.extBut b o hbi hb)))
 have hP₄:P (h₃.push { cls:=.type "tuple",data:=.seq #[.int i tk,x] }):=hP _ _ hP₁ fun o ho=>Heap.get?_push_of_some _ (hs₃.extBut it o (Ne.symm hne) (hs₂.extBut it o (Ne.symm hne) ho))
 generalize h₃.push { cls:=.type "tuple",data:=.seq #[.int i tk,x] }=h₄ at he₄ ht₄ hk₄ hP₄
 show wpAny _ _ (Builtin.SmallTypes.ownedTupleIsFree (.ref e) >>= _) _ _ ⟨h₄,g,d,tk+1,os⟩
 rw[hsz]
 clear he₃ hs₃ he₂ hs₂ he₁ hs₁ hP₁ hsz h₃ h₂ h₁
 have hel:e < hp.objs.size:=Heap.lt_size he
 refine wpAny_bind ?_
 unfold Builtin.SmallTypes.ownedTupleIsFree
 refine wpAny_bind (wpAny_field he₄ rfl (x:=.none) rfl (wpAny_pure ?_))
 simp -iota only[if_true]
 refine wpAny_bind (wpAny_rule ?_)
 refine wpAny_bind (wpAny_field he₄ rfl (x:=old) rfl ?_)
 refine wpAny_bind (wpAny_setField_rec he₄ (by simp -iota) fun h₅ he₅ hs₅=>?_)
 replace hs₅:Heap.SameBut e h₄ h₅:=hs₅
 replace he₅:IsEnum h₅ e it ((i:Int)+1) x:=he₅
 show wpAny _ _ (Builtin.SmallTypes.ownedTupleHandOut (.ref e) (.ref hp.objs.size) >>= _) _ _ ⟨h₅,g,d,tk+1,os⟩
 refine wpAny_bind ?_
 unfold Builtin.SmallTypes.ownedTupleHandOut
 refine wpAny_bind (wpAny_setField_rec he₅ (by simp -iota) fun h₆ he₆ hs₆=>?_)
 replace hs₆:Heap.SameBut e h₅ h₆:=hs₆
 replace he₆:IsEnumOut h₆ e it ((i:Int)+1) x hp.objs.size:=he₆
 refine wpAny_setField_rec he₆ (by simp -iota) fun h₇ he₇ hs₇=>?_
 replace hs₇:Heap.SameBut e h₆ h₇:=hs₇
 replace he₇:IsEnumOut h₇ e it ((i:Int)+1) x hp.objs.size:=he₇
 have up:∀b o,b≠e→h₄.get? b=some o→h₇.get? b=some o:=fun b o hb ho=>hs₇.extBut b o hb (hs₆.extBut b o hb (hs₅.extBut b o hb ho))
 refine wpAny_bind (wpAny_letGo (wpAny_pure ⟨_,rfl,wpAny_pure (hQ h₇ he₇ (hP _ _ hP₄ fun o ho=>up it o (Ne.symm hne) ho) (up _ _ (Nat.ne_of_gt hel) ht₄) fun b o hbe hbi hb=>up b o hbe (hk₄ b o hbe hbi hb))⟩))
theorem iX0{e it t:Addr}{i:Nat}{items:Array Value}{old:Value}{Q:Option Value→Shared→Prop}(hh:A.handled=none)
  (he:IsEnum s.heap e it i old) (hit:s.heap.IsTupleIter it t i) (ht:s.heap.IsTuple t items) (hx:items[i]?=none)
  (hQ:∀h',Heap.ExtBut it s.heap h'→Q none { s with heap:=h' }):wpAny (model prog w) A (pyNext (.ref e)) Q E s:=by
 have hT:s.TypeIs (.ref e) "enumerate":=⟨_,he,rfl⟩
 unfold pyNext
 refine wpAny_bind (wpAny_attempt (wpAny_callSpecial?_slot (name:=Str.ofString "__next__") hT F.slot_enumerate_next
  (wpAny_call_entry F.slot_enumerate_next hT F.entry_enumerate_next ?_ (F.args_enumerate_next_1 _))))
 show wpAny _ _ (field (.ref e) 2 >>= _) _ _ _
 refine wpAny_bind (wpAny_field he rfl (x:=.ref it) rfl (wpAny_bind ?_))
 obtain⟨o,ho,hc,hd⟩:=id hit
 obtain⟨ol,hol,_,nl,hdl⟩:=ht
 unfold Builtin.SmallTypes.nextOf
 refine wpAny_bind (wpAny_callSpecial?_slot (name:=Str.ofString "__next__") hit.typeIs F.slot_tuple_iterator_next
  (wpAny_call_entry F.slot_tuple_iterator_next hit.typeIs F.entry_tuple_iterator_next ?_ (F.args_tuple_iterator_next_1 _)))
 show wpAny _ _ (field (.ref it) 0 >>= _) _ _ s
 refine wpAny_bind (wpAny_field ho hd (x:=.ref t) rfl ?_)
 show wpAny _ _ (if (Value.ref t==Value.none)=true then _ else _) _ _ s
 rw[if_neg (show ¬ ((Value.ref t==Value.none)=true) from Bool.false_ne_true)]
 show wpAny _ _ (field (.ref it) 1 >>= _) _ _ s
 refine wpAny_bind (wpAny_field ho hd (x:=.int i 0) rfl ?_)
 show wpAny _ _ (seqItems? (.ref t) >>= _) _ _ s
 refine wpAny_bind (wpAny_seqItems hol hdl ?_)
 rw[Int.toNat_natCast]
 dsimp only
 rw[hx]
 refine wpAny_bind (wpAny_rule (wpAny_bind (wpAny_setField ho hd (by simp -iota) ?_)))
 show wpAny _ _ (newExc (.type "StopIteration") [] >>= _) _ _ _
 refine wpAny_bind ?_
 delta newExc newTuple
 refine wpAny_bind (wpAny_newObj_type ?_ (by size_fits))
 refine wpAny_bind (m:=firstArgMember _ _) (wpAny_of_eq (a:=Value.none) (by first | rfl | (simp -iota only[firstArgMember];rfl)) ?_)
 refine wpAny_newObj_type ?_ (by size_fits)
 delta raiseNew
 refine wpAny_bind (wpAny_handled ?_)
 first | rw[show A.in1.handled=none from hh] | rw[show A.in1.in1.handled=none from hh] | rw[hh]
 refine wpAny_bind (wpAny_pure (wpAny_throw ?_))
 refine wpAny_bind (wpAny_isInstance (T:="StopIteration") (b:=true) ⟨_,Heap.get?_push_size _ rfl,rfl⟩ isSubtype_stop ?_)
 exact wpAny_pure (hQ _ (((Heap.SameBut.update ..).extBut.push _).push _))
theorem wp_called{cls:Value}{Q:Bool→Shared→Prop}(h:∀b,Q b s):wpAny M A (Builtin.SmallTypes.calledThroughType cls) Q E s:=by
 unfold Builtin.SmallTypes.calledThroughType
 exact wpAny_bind (wpAny_stack_any fun st=>wpAny_pure (h _))
open AutoSeq1 (wpAny_loadPart') in
theorem nE(l:Addr)(items:Array Value)(n:Nat)(dct:Option Addr)(sl:Array (Option Value)):
  Meets (Builtin.«enumerate.__new__» ⟨[.type "enumerate",.ref l],[]⟩) (fun _ R s=>s.heap.get? l=some { cls:=.type "tuple",dict:=dct,data:=.seq items n,slots:=sl }∧
   R (.ok (.ret (.ref (s.heap.push { cls:=.type "tuple_iterator",data:=.fields #[.ref l,.int 0 0] }).objs.size)))
    { s with heap:=(s.heap.push { cls:=.type "tuple_iterator",data:=.fields #[.ref l,.int 0 0] }).push { cls:=.type "enumerate",data:=.fields #[.none,.bool false,.ref s.heap.objs.size,rawInt 0,.none,.none] } }):=
 .of_wp fun prog w A R s h=>by
  obtain⟨hp,g,d,tk,os⟩:=s;obtain⟨hl,h⟩:=h
  have hsub:=sub_enumerate
  have hL:Heap.IsTuple (Shared.heap ⟨hp,g,d,tk,os⟩) l items:=⟨_,hl,rfl,n,rfl⟩
  wp_walk using wpAny_loadPart' hl,wp_called
  intro b
  cases b
  ·wp_walk using wpAny_loadPart' hl,wpAny_pyIter_tuple hL
   exact⟨_,rfl,h⟩
  ·wp_walk using wpAny_loadPart' hl,wpAny_pyIter_tuple hL
   exact⟨_,rfl,h⟩
theorem oH{l:Addr}{items:Array Value}{Q:Value→Shared→Prop}(hL:s.heap.IsTuple l items)
  (h:∀h',IsEnum h' (s.heap.objs.size+1) s.heap.objs.size 0 .none→h'.IsTupleIter s.heap.objs.size l 0→ 
   (∀b o,s.heap.get? b=some o→h'.get? b=some o)→Q (.ref (s.heap.objs.size+1)) { s with heap:=h' }):
  wpAny (model prog w) A (call (.type "enumerate") [.ref l]) Q E s:=by
 obtain⟨⟨c,dct,dt,sl⟩,hl,hc,n,hd⟩:=hL
 replace hc:c=.type "tuple":=hc
 replace hd:dt=.seq items n:=hd
 subst hc hd
 refine callType_new F.called_enumerate (by decide) (F.typeCall_enumerate_1 _) (F.newCall_enumerate_1 _) (fun obj=>F.args_object_init_2 obj _) F.entry_enumerate_new
  (nE l items n dct sl) ⟨hl,?_⟩
 have hz:(s.heap.push { cls:=.type "tuple_iterator",data:=.fields #[.ref l,.int 0 0] }).objs.size=s.heap.objs.size+1:=Heap.size_push ..
 show _∧_
 rw[hz]
 have he:IsEnum ((s.heap.push { cls:=.type "tuple_iterator",data:=.fields #[.ref l,.int 0 0] }).push
   { cls:=.type "enumerate",data:=.fields #[.none,.bool false,.ref s.heap.objs.size,rawInt 0,.none,.none] }) (s.heap.objs.size+1) s.heap.objs.size 0 .none:=by
  have:=Heap.get?_push_size (s.heap.push { cls:=.type "tuple_iterator",data:=.fields #[.ref l,.int 0 0] })
   (o:={ cls:=.type "enumerate",data:=.fields #[.none,.bool false,.ref s.heap.objs.size,rawInt 0,.none,.none] }) rfl
  rw[hz]at this;exact this
 exact⟨⟨_,he,rfl⟩,h _ he ⟨_,Heap.get?_push_of_some _ (Heap.get?_push_size _ rfl),rfl,rfl⟩ fun b o x=>Heap.get?_push_of_some _ (Heap.get?_push_of_some _ x)⟩
end
section
variable {B:Bs}{A:Around}{ρ₀:List Addr}{σ₀:Sto}{s₀:Shared}
theorem oX:∀{xs:List PV} {k j:Nat} {pv:PV},(enumed k xs)[j]?=some pv→∃x,xs[j]?=some x∧pv=.tup [.int ((k+j:Nat):Int),x]
 |[],k,j,pv,h=>by cases h
 |x::xs,k,0,pv,h=>by cases h;exact⟨x,rfl,rfl⟩
 |x::xs,k,j+1,pv,h=>by
  obtain⟨y,h1,h2⟩:=oX (xs:=xs) (k:=k+1) (j:=j) h
  refine⟨y,h1,?_⟩
  rw[h2,show k+1+j=k+(j+1) by lia]
theorem pV:∀{xs:List PV} {k:Nat},(enumed k xs).length=xs.length
 |[],k=>rfl
 |x::xs,k=>by show (enumed (k+1) xs).length+1=_;rw[pV];rfl
theorem Itr.enum(ok:BsOk B){e it t:Addr}{xs:List PV}{vs:Array Value}(hh:A.handled=none)(_:St B ρ₀ σ₀ s₀)(he0:s₀.heap.get? e=none)(hi0:s₀.heap.get? it=none)(hne:e≠it)
  (ht:s₀.heap.IsTuple t vs) (h1:t∉ρ₀) (h2:t∉B.Tb) (hr:VRs B ρ₀ s₀.heap xs vs.toList):
  Itr B A (.ref e) (enumed 0 xs) none (fun tg=>∃elts k pos,tg=.Tuple elts k pos) ρ₀ σ₀ s₀ [e,it] (fun j h=>(∃old,IsEnum h e it j old)∧h.IsTupleIter it t j):=by
 have hobj:∀(j:Nat) (h:Heap),((∃old,IsEnum h e it j old)∧h.IsTupleIter it t j)→∀b∈[e,it],∃o vs,h.get? b=some o∧o.data=.fields vs∧o.cls≠ .type "tuple"∧o.cls≠ .type "code":=fun j h ⟨⟨old,hE⟩,o,ho,hc,hd⟩ b hb=>by
  rcases List.mem_cons.mp hb with rfl | hb
  ·exact⟨_,_,hE,rfl,by simp,by simp⟩
  ·simp at hb;subst hb
   exact⟨o,_,ho,hd,by rw[hc];decide,by rw[hc];decide⟩
 have keepT:∀{X ρ:List Addr} {σ:Sto} {h:Heap},Evo B X ρ₀ σ₀ s₀.heap ρ σ h→h.IsTuple t vs:=fun e=>by
  obtain⟨o,ho,hc,n,hd⟩:=id ht
  exact⟨o,(e.vk.tup t o vs n ho hc hd h1 h2).1,hc,n,hd⟩
 have hlen:vs.size=xs.length:=by have:=hr.length;simpa using this
 exact {
  fresh:=fun b hb=>by
   rcases List.mem_cons.mp hb with rfl | hb
   ·exact he0
   ·simp at hb;subst hb;exact hi0
  obj:=hobj
  frame:=fun j h h' ⟨⟨old,hE⟩,o,ho,r⟩ hk=>⟨⟨old,hk e (by simp) _ hE⟩,o,hk it (by simp) o ho,r⟩
  self:=fun j s Q E ⟨⟨old,hE⟩,_⟩ hQ=>wpAny_pyIter_enum hE hQ
  next:=fun j pv X ρ σ s tg hT hj ev x st hw=>by
   obtain⟨elts,k,pos,rfl⟩:=hT
   obtain⟨y,hy,rfl⟩:=oX hj
   obtain⟨v,hv,hvr⟩:=hr.get hy
   obtain⟨⟨old,hE⟩,hit⟩:=id st
   refine fC0 hE hne (fun A'=>wN hit (keepT ev) (by simpa using hv)) (fun h h' ⟨o,ho,r⟩ hk=>⟨o,hk o ho,r⟩) fun h' hO hit' hT' hk=>⟨_,rfl,?_⟩
   refine wpAny_letOwnedTupleGo_enum hO fun h'' hE'' hs''=>⟨h'',s.toks+1,rfl,?_,⟨⟨v,?_⟩,?_⟩,?_⟩
   ·exact fun b o hb ho=>hs''.extBut b o (fun q=>hb (by simp[q])) (hk b o (fun q=>hb (by simp[q])) (fun q=>hb (by simp[q])) ho)
   ·have:((j:Int)+1)=((j+1:Nat):Int):=by push_cast;rfl
    rw[← this];exact hE''
   ·obtain⟨o,ho,r⟩:=hit';exact⟨o,hs''.extBut it o (Ne.symm hne) ho,r⟩
   ·have hTe:s.heap.objs.size≠e:=fun q=>by
     have:=Heap.lt_size hE
     rw[← q]at this;exact Nat.lt_irrefl _ this
    have all:∀b o,b∉[e,it]→s.heap.get? b=some o→h''.get? b=some o:=fun b o hb ho=>hs''.extBut b o (fun q=>hb (by simp[q])) (hk b o (fun q=>hb (by simp[q])) (fun q=>hb (by simp[q])) ho)
    refine⟨s.heap.objs.size,_,rfl,fun hm=>?_,fun hm=>?_,⟨_,hs''.extBut _ _ hTe hT',rfl,_,rfl⟩,?_⟩
    ·obtain⟨o,ho⟩:=x.alive hm;rw[get?_size]at ho;cases ho
    ·obtain⟨o,ho⟩:=ok.tb _ x.inv _ hm;rw[get?_size]at ho;cases ho
    ·refine⟨_,_,rfl,⟨s.toks,by simp⟩,_,_,rfl,oR (hobj j _ st) all (VR.evo ev _ hvr),rfl⟩
  done:=fun X ρ σ s ev x st hw=>by
   rw[pV]at st
   obtain⟨⟨old,hE⟩,hit⟩:=st
   refine iX0 hh hE hit (keepT ev) (by simp[hlen]) fun h' he'=>⟨rfl,h',s.toks,rfl,fun b o hb ho=>he' b o (fun q=>hb (by simp[q])) ho⟩ }
variable {k:Nat}{G:Gl}{n:Nat}
variable {cx:Cx}{σ σ₁:Sto}{β:Type}{r:β}
theorem fI0{e:Expr}{K:PV→Sto→Option β}(h:evK G n cx σ e K=some r):∀es kk p,e≠ .Set es kk p:=fun es kk p e=>by
 subst e
 cases n with
 |zero=>exact nos h
 |succ n=>exact nos h
theorem fJ0{e:Expr}(h:∀es kk p,e≠ .Set es kk p)(env:Env)(x:Value):foldedSetIterable e env x=pure x:=by
 cases e with
 |Set es kk p=>exact (h es kk p rfl).elim
 |_=>rfl
theorem pushed(ok:BsOk B){ρ:List Addr}{σ:Sto}{s:Shared}(x:St B ρ σ s)(o:Obj)(tk:Nat):St B ρ σ { s with heap:=s.heap.push o,toks:=tk }∧Evo B [] ρ σ s.heap ρ σ (s.heap.push o):=
 x.grow ok (s':={ s with heap:=s.heap.push o,toks:=tk }) rfl x.gens fun _ _ ho=>Heap.get?_push_of_some _ ho
theorem it_str(ok:BsOk B){e:Expr}{q:Str}(hf:∀env x,foldedSetIterable e env x=pure x)(H:E1 B k cx σ e (.str q) σ₁):It1 B k cx σ e (signs q) none σ₁:=⟨hf,fun A X env ρ s R x f Q E c=>
 H.use R x f fun va ρ₁ s₁ x₁ e₁ f₁ r₁=>c va s₁ ρ₁ s₁ x₁ e₁ fun E Q hQ=>by
  obtain⟨t,rfl⟩:=r₁
  cases ha:q.cps.all (· < 128)
  ·exact wpAny_pyIter_wide ha (hQ _ _ _ _ _ (Itr.str R.handled (.inr rfl) (get?_size _)) (fun _ _=>trivial) ⟨_,Heap.get?_push_size _ rfl,rfl,rfl⟩ (pushed ok x₁ _ _).1 (pushed ok x₁ _ s₁.toks).2)
  ·exact wpAny_pyIter_ascii ha (hQ _ _ _ _ _ (Itr.str R.handled (.inl rfl) (get?_size _)) (fun _ _=>trivial) ⟨_,Heap.get?_push_size _ rfl,rfl,rfl⟩ (pushed ok x₁ _ _).1 (pushed ok x₁ _ s₁.toks).2)⟩
theorem it_tup(ok:BsOk B){e:Expr}{xs:List PV}(hf:∀env x,foldedSetIterable e env x=pure x)(H:E1 B k cx σ e (.tup xs) σ₁):It1 B k cx σ e xs none σ₁:=⟨hf,fun A X env ρ s R x f Q E c=>
 H.use R x f fun va ρ₁ s₁ x₁ e₁ f₁ r₁=>c va s₁ ρ₁ s₁ x₁ e₁ fun E Q hQ=>by
  obtain⟨t,vs,rfl,h1,h2,ht,hr⟩:=r₁
  exact wpAny_pyIter_tuple ht (hQ _ _ _ _ _ (Itr.tuple R.handled x₁ (get?_size _) ht h1 h2 hr) (fun _ _=>trivial) ⟨_,Heap.get?_push_size _ rfl,rfl,rfl⟩ (pushed ok x₁ _ _).1 (pushed ok x₁ _ s₁.toks).2)⟩
theorem it_lst(ok:BsOk B){e:Expr}{i:Nat}{c:Cell}{xs:List PV}(hc:σ₁[i]?=some c)(hd:c.d=.lst xs)(hf:∀env x,foldedSetIterable e env x=pure x)(H:E1 B k cx σ e (.lst i) σ₁):It1 B k cx σ e xs (some (i,c.ver)) σ₁:=⟨hf,fun A X env ρ s R x f Q E q=>
 H.use R x f fun va ρ₁ s₁ x₁ e₁ f₁ r₁=>q va s₁ ρ₁ s₁ x₁ e₁ fun E Q hQ=>by
  obtain⟨l,rfl,hl⟩:=r₁
  have hcell:=x₁.cells i c l hc hl
  rw[hd]at hcell
  obtain⟨vs,hp,hr⟩:=hcell
  exact wpAny_pyIter_list hp.isList (hQ _ _ _ _ _ (Itr.list R.handled x₁ (get?_size _) hc rfl hl hp hr) (fun _ _=>trivial) ⟨_,Heap.get?_push_size _ rfl,rfl,rfl⟩ (pushed ok x₁ _ _).1 (pushed ok x₁ _ s₁.toks).2)⟩
theorem it_range(ok:BsOk B){mg mb}(gok:GlOk B k G mg mb){args:List Expr}{p pos:Pos}{vs:List PV}{a b c:Int}(hk:cx.names.lookup ("range":Str)=some .globalImplicit)(H:Es B k cx σ args vs σ₁)(habc:mO vs=some (a,b,c))
  (hc:c≠0∧c.natAbs < 1073741824∧Builtin.Range.small a b c=true∧0≤Builtin.Range.rangeSize a b c∧(Builtin.Range.rangeSize a b c).toNat≤1000):
  It1 B k cx σ (.Call (.Name "range" p) args [] pos) ((List.range (Builtin.Range.rangeSize a b c).toNat).map fun (k:Nat)=>.int (a+c * (k:Int))) none σ₁:=⟨fun env x=>rfl,fun A X env ρ s R x f Q E q=>by
 refine wpAny_Call_NameR (cT gok x f hk (by decide) (.inr (gok.bg _ (.type "range") rfl)) ?_)
 rw[cA H.star]
 refine dK "range" A _ s pos [] args env _ (H.run.use R x f fun vals ρ₁ s₁ x₁ e₁ f₁ r₁=>⟨⟨ρ₁,_,x₁⟩,?_⟩)
 have fin:∀(t u v:Tok) (tk:Nat),Q (.ref s₁.heap.objs.size) { s₁ with heap:=s₁.heap.push { cls:=.type "range",data:=.fields #[.int a t,.int b u,.int c v] },toks:=tk }:=fun t u v tk=>by
  obtain⟨x₂,e₂⟩:=pushed ok x₁ { cls:=.type "range",data:=.fields #[.int a t,.int b u,.int c v] } tk
  refine q _ _ ρ₁ _ x₂ (e₁.trans e₂) fun E Q hQ=>wpAny_pyIter_range (IsRange.new ..) hc.2.2.1 ?_
  obtain⟨x₃,e₃⟩:=pushed ok x₂ { cls:=.type "range_iterator",data:=.fields #[rawInt a,rawInt (Builtin.Range.rangeSize a b c),rawInt c] } tk
  refine hQ _ _ _ _ _ (Itr.range (a:=a) (c:=c) (n:=(Builtin.Range.rangeSize a b c).toNat) R.handled (get?_size _)) (fun _ _=>trivial) ?_ x₃ e₃
  show IsRangeIter _ _ _ _ _
  rw[show (((Builtin.Range.rangeSize a b c).toNat:Nat):Int) - ((0:Nat):Int)=Builtin.Range.rangeSize a b c by rw[Int.toNat_of_nonneg hc.2.2.2.1];exact Int.sub_zero _,show a+((0:Nat):Int) * c=a by simp]
  exact Heap.get?_push_size _ rfl
 refine fX0 (P:=fun vs x=>VRs B ρ₁ s₁.heap vs vals→(∀(t u v:Tok) (tk:Nat),Q (.ref s₁.heap.objs.size) { s₁ with heap:=s₁.heap.push { cls:=.type "range",data:=.fields #[.int x.1 t,.int x.2.1 u,.int x.2.2 v] },toks:=tk })→x.2.2≠0∧x.2.2.natAbs < 1073741824→wpAny (model B.prog B.w) A (call (.type "range") ([]++vals)) Q E s₁) habc ?_ ?_ ?_ r₁ fin ⟨hc.1,hc.2.1⟩
 ·intro b r₁ fin _
  obtain⟨_,us,rfl,⟨t,rfl⟩,h2⟩:=r₁
  obtain rfl:us=[]:=h2
  exact call_range_1 (fin _ _ _ _)
 ·intro a b r₁ fin _
  obtain⟨_,_,rfl,⟨t,rfl⟩,_,us,rfl,⟨u,rfl⟩,h3⟩:=r₁
  obtain rfl:us=[]:=h3
  exact call_range_2 (fin _ _ _ _)
 ·intro a b c r₁ fin hc
  obtain⟨_,_,rfl,⟨t,rfl⟩,_,_,rfl,⟨u,rfl⟩,_,us,rfl,⟨v,rfl⟩,h3⟩:=r₁
  obtain rfl:us=[]:=h3
  exact call_range_3 hc.1 (fin _ _ _ _) (.inl (PyProof.noPylong_small hc.2))⟩
theorem it_enum(ok:BsOk B){mg mb}(gok:GlOk B k G mg mb){args:List Expr}{p pos:Pos}{xs:List PV}(hk:cx.names.lookup ("enumerate":Str)=some .globalImplicit)(H:Es B k cx σ args [.tup xs] σ₁):
  It1 B k cx σ (.Call (.Name "enumerate" p) args [] pos) (enumed 0 xs) none σ₁:=⟨fun env x=>rfl,fun A X env ρ s R x f Q E q=>by
 refine wpAny_Call_NameR (cT gok x f hk (by decide) (.inr (gok.bg _ (.type "enumerate") rfl)) ?_)
 rw[cA H.star]
 refine dK "enumerate" A _ s pos [] args env _ (H.run.use R x f fun vals ρ₁ s₁ x₁ e₁ f₁ r₁=>⟨⟨ρ₁,_,x₁⟩,?_⟩)
 obtain⟨_,ws,rfl,⟨t,us,rfl,h1,h2,ht,hr⟩,h3⟩:=r₁
 obtain rfl:ws=[]:=h3
 refine oH ht fun h' hE hit hk=>q _ _ ρ₁ s₁ x₁ e₁ fun E Q hQ=>?_
 obtain⟨x₂,e₂⟩:=x₁.grow ok (s':={ s₁ with heap:=h' }) rfl x₁.gens hk
 have none1:s₁.heap.get? (s₁.heap.objs.size+1)=none:=by
  cases e:s₁.heap.get? (s₁.heap.objs.size+1)with
  |none=>rfl
  |some o=>exact absurd (Heap.lt_size e) (Nat.not_lt.mpr (Nat.le_succ _))
 refine wpAny_pyIter_enum hE (hQ _ _ _ _ _ (Itr.enum ok R.handled x₁ none1 (get?_size _) (Nat.succ_ne_self _) ht h1 h2 hr) (fun tg htg=>?_) ⟨⟨_,hE⟩,hit⟩ x₂ e₂)
 cases tg with
 |Tuple a b c=>exact⟨a,b,c,rfl⟩
 |_=>cases htg⟩
theorem bS0(ok:BsOk B){mg mb}(gok:GlOk B k G mg mb)(ih:EvS β B k G n)(ihs:lE0 β B k G n):eD0 β B k G (n+1):=fun {cx σ e K r C} h c=>by
 rcases iterK_some h with⟨args,p,pos,rfl,hk,h⟩ | ⟨args,p,pos,rfl,hk,h⟩ | h
 ·refine ihs h fun vs σ₁ h H=>aY h fun a ha h=>aY h fun l hl h=>?_
  obtain⟨hc,hl⟩:=grd_some (β:=List PV) hl
  obtain rfl:=Option.some.inj hl
  exact c _ _ _ h (it_range ok gok hk H ha hc)
 ·exact ihs h fun vs σ₁ h H=>fJ (P:=fun vs=>Es B k _ _ args vs σ₁→C) h (fun v h H=>mP (P:=fun v=>Es B k _ _ args [v] σ₁→C) h (fun xs h H=>c _ _ _ h (it_enum ok gok hk H)) H) H
 ·have hf:=fJ0 (fI0 h)
  refine ih h fun v σ₁ h H=>?_
  cases v with
  |str q=>exact c _ _ _ h (it_str ok hf H)
  |tup xs=>exact c _ _ _ h (it_tup ok hf H)
  |lst i=>
   unfold itV at h
   dsimp only at h
   cases hc:σ₁[i]? with
   |none=>rw[hc]at h;exact nos h
   |some cl=>
    rw[hc]at h
    dsimp only at h
    cases hd:cl.d with
    |lst xs=>rw[hd]at h;exact c _ _ _ h (it_lst ok hc hd hf H)
    |_=>rw[hd]at h;exact nos h
  |_=>exact nos h
end
section
variable {B:Bs}{k:Nat}{G:Gl}{n:Nat}{β:Type}
structure AllS (β:Type) (B:Bs) (k:Nat) (G:Gl) (n:Nat):Prop where
 ev:EvS β B k G n
 evs:lE0 β B k G n
 evO:EvOS β B k G n
 isT:aA0 β B k G n
 isTs:dC0 β B k G n
 tests:tV β B k G n
 comp:yX β B k G n
 it:eD0 β B k G n
theorem eQ(ok:BsOk B){mg mb}(gok:GlOk B k G mg mb):∀n,AllS β B k G n
 |0=>⟨fun h=>nos h,fun h=>nos h,fun h=>nos h,fun h=>nos h,fun h=>nos h,fun h=>nos h,fun h=>nos h,fun h=>nos h⟩
 |n+1=>
  have ih:=eQ ok gok n
  ⟨sound_ev ok gok ih.ev ih.evs ih.evO ih.isT ih.comp ih.it,eM0 ih.ev ih.evs,eJ0 ih.ev,hK0 ih.ev ih.isT ih.isTs,bQ0 ih.isT ih.isTs,yU ih.isT ih.tests,bM0 ok ih.ev ih.tests ih.comp,bS0 ok gok ih.ev ih.evs⟩
noncomputable def FlR(B:Bs)(ρ:List Addr)(h:Heap)(fl:Fl)(f:Flow):Prop:=match fl with
 |.nxt=>f=.next
 |.brk=>f=.brk
 |.ret v=>∃val,f=.ret val∧VR B ρ h v val
structure SEnd (B:Bs) (X:List Addr) (env:Env) (ρ:List Addr) (σ:Sto) (h:Heap) (fl:Fl) (cx':Cx) (σ':Sto) (f:Flow) (s':Shared) (ρ':List Addr):Prop where
 st:St B ρ' σ' s'
 evo:Evo B X ρ σ h ρ' σ' s'.heap
 fr:Fr B X cx' env ρ' s'.heap
 fl:FlR B ρ' s'.heap fl f
noncomputable def S1(B:Bs)(k:Nat)(cx:Cx)(σ:Sto)(t:Env→Sem Flow)(fl:Fl)(cx':Cx)(σ':Sto):Prop:=
 ∀{A X env ρ s} {Q:Flow→Shared→Prop} {E:Value→Shared→Prop},Room k A→St B ρ σ s→Fr B X cx env ρ s.heap→(∀f s' ρ',SEnd B X env ρ σ s.heap fl cx' σ' f s' ρ'→Q f s')→wpAny (model B.prog B.w) A (t env) Q E s
theorem SEnd.after{X:List Addr}{env:Env}{ρ ρ₁ ρ':List Addr}{σ σ₁:Sto}{h h₁:Heap}{fl:Fl}{cx':Cx}{σ':Sto}{f:Flow}{s':Shared}(p:SEnd B X env ρ₁ σ₁ h₁ fl cx' σ' f s' ρ')(e:Evo B X ρ σ h ρ₁ σ₁ h₁):
  SEnd B X env ρ σ h fl cx' σ' f s' ρ':=⟨p.st,e.trans p.evo,p.fr,p.fl⟩
structure FSt (B:Bs) (X:List Addr) (cx:Cx) (env:Env) (ρ₀:List Addr) (σ₀:Sto) (h₀:Heap) (J:Nat→Heap→Prop) (all items:List PV) (j:Nat) (ρ:List Addr) (σ:Sto) (s:Shared):Prop where
 st:St B ρ σ s
 evo:Evo B X ρ₀ σ₀ h₀ ρ σ s.heap
 fr:Fr B X cx env ρ s.heap
 at_:J j s.heap
 le:j≤all.length
 drop:all.drop j=items
noncomputable def oI(B:Bs)(k:Nat)(cx:Cx)(σ:Sto)(t:Expr)(body:List Stmt)(w:Option (Nat×Nat))(items:List PV)(fl:Fl)(cx':Cx)(σ':Sto):Prop:=
 ∀A X env it all T ρ₀ σ₀ s₀ wr J (R:Result→Shared→Prop),Itr B A it all w T ρ₀ σ₀ s₀ wr J→T t→Room k A→St B ρ₀ σ₀ s₀→(∀f s' ρ',SEnd B X env ρ₀ σ₀ s₀.heap fl cx' σ' f s' ρ'→R (.ok f) s')→
  ∀j ρ s,FSt B X cx env ρ₀ σ₀ s₀.heap J all items j ρ σ s→codeAny (model B.prog B.w) A (.forLoop t it body [] env) R s
noncomputable def eF(B:Bs)(k:Nat)(cx:Cx)(σ:Sto)(t:Expr)(body:List Stmt)(fl:Fl)(cx':Cx)(σ':Sto):Prop:=
 ∀A X env ρ s (R:Result→Shared→Prop),Room k A→St B ρ σ s→Fr B X cx env ρ s.heap→(∀f s' ρ',SEnd B X env ρ σ s.heap fl cx' σ' f s' ρ'→R (.ok f) s')→codeAny (model B.prog B.w) A (.whileLoop t body [] env) R s
noncomputable def ExS(β:Type)(B:Bs)(k:Nat)(G:Gl)(n:Nat):Prop:=∀{cx σ st} {K:Fl→Cx→Sto→Option β} {r:β} {C:Prop},exK G n cx σ st K=some r→(∀fl cx' σ',K fl cx' σ'=some r→S1 B k cx σ (exec st) fl cx' σ'→C)→C
noncomputable def fV0(β:Type)(B:Bs)(k:Nat)(G:Gl)(n:Nat):Prop:=∀{cx σ st} {K:Fl→Cx→Sto→Option β} {r:β} {C:Prop},cC G n cx σ st K=some r→(∀fl cx' σ',K fl cx' σ'=some r→S1 B k cx σ (execs st) fl cx' σ'→C)→C
noncomputable def ForS(β:Type)(B:Bs)(k:Nat)(G:Gl)(n:Nat):Prop:=∀{cx σ t body w items} {K:Fl→Cx→Sto→Option β} {r:β} {C:Prop},dZ G n cx σ t body w items K=some r→(∀fl cx' σ',K fl cx' σ'=some r→oI B k cx σ t body w items fl cx' σ'→C)→C
noncomputable def uT(β:Type)(B:Bs)(k:Nat)(G:Gl)(n:Nat):Prop:=∀{cx σ t body} {K:Fl→Cx→Sto→Option β} {r:β} {C:Prop},rE G n cx σ t body K=some r→(∀fl cx' σ',K fl cx' σ'=some r→eF B k cx σ t body fl cx' σ'→C)→C
section
variable {cx cx₁ cx₂:Cx}{σ σ₁ σ₂:Sto}{st:Stmt}{rest body:List Stmt}{fl:Fl}{v pv:PV}{t:Expr}{w:Option (Nat×Nat)}{items:List PV}
theorem fZ:S1 B k cx σ (execs []) .nxt cx σ:=fun _ x f q=>wpAny_execs_nil (q _ _ _ ⟨x,.refl ..,f,rfl⟩)
theorem aP(H1:S1 B k cx σ (exec st) .nxt cx₁ σ₁)(H2:S1 B k cx₁ σ₁ (execs rest) fl cx₂ σ₂):S1 B k cx σ (execs (st::rest)) fl cx₂ σ₂:=fun R x f q=>
 wpAny_execs_cons (H1 R x f fun f' s₁ ρ₁ p=>by
  obtain rfl:f'=.next:=p.fl
  exact H2 R p.st p.fr fun f'' s₂ ρ₂ p₂=>q f'' s₂ ρ₂ (p₂.after p.evo))
theorem ex_brk(H1:S1 B k cx σ (exec st) .brk cx₁ σ₁):S1 B k cx σ (execs (st::rest)) .brk cx₁ σ₁:=fun R x f q=>
 wpAny_execs_cons (H1 R x f fun f' s₁ ρ₁ p=>by
  obtain rfl:f'=.brk:=p.fl
  exact q _ _ _ p)
theorem mZ(H1:S1 B k cx σ (exec st) (.ret v) cx₁ σ₁):S1 B k cx σ (execs (st::rest)) (.ret v) cx₁ σ₁:=fun R x f q=>
 wpAny_execs_cons (H1 R x f fun f' s₁ ρ₁ p=>by
  obtain⟨val,hf,hv⟩:=p.fl
  subst hf
  exact q _ _ _ p)
theorem iG(ok:BsOk B)(hw:watch σ w=true):oI B k cx σ t body w [] .nxt cx σ:=by
 intro A X env it all T ρ₀ σ₀ s₀ wr J R I hT Rm x₀ q j ρ s c
 have hj:j=all.length:=Nat.le_antisymm c.le (drop_nil c.drop)
 subst hj
 exact cG (I.stop ok x₀ c.st c.evo c.fr c.at_ hw fun s' x' e' f' vk hk=>wpAny_execs_nil (q _ _ _ ⟨x',e',f',rfl⟩))
theorem pM(ok:BsOk B)(hw:watch σ w=true)(hb:aH cx t pv=some cx₁){A:Around}{X:List Addr}{env:Env}{it:Value}{all:List PV}{T:Expr→Prop}{ρ₀:List Addr}{σ₀:Sto}{s₀:Shared}{wr:List Addr}{J:Nat→Heap→Prop}{R:Result→Shared→Prop}
  (I:Itr B A it all w T ρ₀ σ₀ s₀ wr J) (hT:T t) (Rm:Room k A) (x₀:St B ρ₀ σ₀ s₀) {j:Nat} {ρ:List Addr} {s:Shared} (c:FSt B X cx env ρ₀ σ₀ s₀.heap J all (pv::items) j ρ σ s) (H1:S1 B k cx₁ σ (execs body) fl cx₂ σ₁)
  (q:∀f s' ρ',SEnd B X env ρ₀ σ₀ s₀.heap fl cx₂ σ₁ f s' ρ'→FSt B X cx₂ env ρ₀ σ₀ s₀.heap J all items (j+1) ρ' σ₁ s'→(match f with
   |.next | .cont=>codeAny (model B.prog B.w) A (.forLoop t it body [] env) R s'
   |.brk=>R (.ok .next) s'
   |.ret v=>R (.ok (.ret v)) s')):codeAny (model B.prog B.w) A (.forLoop t it body [] env) R s:=by
 obtain⟨hj,hrest⟩:=mN c.drop
 refine cG (I.turn ok Rm x₀ c.st c.evo c.fr hT hj c.at_ hw hb (fun v s' h=>h) fun s₃ d=>?_)
 exact H1 Rm d.st d.fr fun f s₄ ρ₄ p=>q f s₄ ρ₄ (p.after d.evo) ⟨p.st,d.evo.trans p.evo,p.fr,I.keepJ ok x₀ d.st d.j p.evo,(List.getElem?_eq_some_iff.mp hj).1,hrest⟩
theorem fA(ok:BsOk B)(hw:watch σ w=true)(hb:aH cx t pv=some cx₁)(H1:S1 B k cx₁ σ (execs body) .nxt cx₂ σ₁){cx₃:Cx}(H2:oI B k cx₂ σ₁ t body w items fl cx₃ σ₂):oI B k cx σ t body w (pv::items) fl cx₃ σ₂:=by
 intro A X env it all T ρ₀ σ₀ s₀ wr J R I hT Rm x₀ q j ρ s c
 refine pM ok hw hb I hT Rm x₀ c H1 fun f s' ρ' p d=>?_
 obtain rfl:f=.next:=p.fl
 exact H2 A X env it all T ρ₀ σ₀ s₀ wr J R I hT Rm x₀ q (j+1) ρ' s' d
theorem for_brk(ok:BsOk B)(hw:watch σ w=true)(hb:aH cx t pv=some cx₁)(H1:S1 B k cx₁ σ (execs body) .brk cx₂ σ₁):oI B k cx σ t body w (pv::items) .nxt cx₂ σ₁:=by
 intro A X env it all T ρ₀ σ₀ s₀ wr J R I hT Rm x₀ q j ρ s c
 refine pM ok hw hb I hT Rm x₀ c H1 fun f s' ρ' p d=>?_
 obtain rfl:f=.brk:=p.fl
 exact q _ _ _ ⟨p.st,p.evo,p.fr,rfl⟩
theorem for_ret(ok:BsOk B)(hw:watch σ w=true)(hb:aH cx t pv=some cx₁)(H1:S1 B k cx₁ σ (execs body) (.ret v) cx₂ σ₁):oI B k cx σ t body w (pv::items) (.ret v) cx₂ σ₁:=by
 intro A X env it all T ρ₀ σ₀ s₀ wr J R I hT Rm x₀ q j ρ s c
 refine pM ok hw hb I hT Rm x₀ c H1 fun f s' ρ' p d=>?_
 obtain⟨val,hf,hv⟩:=p.fl
 subst hf
 exact q _ _ _ p
theorem vE(ht:Tr B k cx σ t true σ₁){A:Around}{X:List Addr}{env:Env}{R:Result→Shared→Prop}(Rm:Room k A){ρ:List Addr}{s:Shared}(x:St B ρ σ s)(f:Fr B X cx env ρ s.heap)(H1:S1 B k cx σ₁ (execs body) fl cx₂ σ₂)
  (q:∀f s' ρ',SEnd B X env ρ σ s.heap fl cx₂ σ₂ f s' ρ'→(match f with
   |.next | .cont=>codeAny (model B.prog B.w) A (.whileLoop t body [] env) R s'
   |.brk=>R (.ok .next) s'
   |.ret v=>R (.ok (.ret v)) s')):codeAny (model B.prog B.w) A (.whileLoop t body [] env) R s:=
 eZ (ht.use Rm x f fun b ρ₁ s₁ x₁ e₁ f₁ hb=>by
  subst hb
  rw[if_pos rfl]
  exact H1 Rm x₁ f₁ fun f s₄ ρ₄ p=>q f s₄ ρ₄ (p.after e₁.weak))
theorem jO(ht:Tr B k cx σ t true σ₁)(H1:S1 B k cx σ₁ (execs body) .nxt cx₁ σ₂){σ₃:Sto}(H2:eF B k cx₁ σ₂ t body fl cx₂ σ₃):eF B k cx σ t body fl cx₂ σ₃:=by
 intro A X env ρ s R Rm x f q
 refine vE ht Rm x f H1 fun f' s' ρ' p=>?_
 obtain rfl:f'=.next:=p.fl
 exact H2 A X env ρ' s' R Rm p.st p.fr fun g s'' ρ'' p'=>q g s'' ρ'' (p'.after p.evo)
theorem wh_brk(ht:Tr B k cx σ t true σ₁)(H1:S1 B k cx σ₁ (execs body) .brk cx₁ σ₂):eF B k cx σ t body .nxt cx₁ σ₂:=by
 intro A X env ρ s R Rm x f q
 refine vE ht Rm x f H1 fun f' s' ρ' p=>?_
 obtain rfl:f'=.brk:=p.fl
 exact q _ _ _ ⟨p.st,p.evo,p.fr,rfl⟩
theorem wh_ret(ht:Tr B k cx σ t true σ₁)(H1:S1 B k cx σ₁ (execs body) (.ret v) cx₁ σ₂):eF B k cx σ t body (.ret v) cx₁ σ₂:=by
 intro A X env ρ s R Rm x f q
 refine vE ht Rm x f H1 fun f' s' ρ' p=>?_
 obtain⟨val,hf,hv⟩:=p.fl
 subst hf
 exact q _ _ _ p
theorem gX(ht:Tr B k cx σ t false σ₁):eF B k cx σ t body .nxt cx σ₁:=by
 intro A X env ρ s R Rm x f q
 refine eZ (ht.use Rm x f fun b ρ₁ s₁ x₁ e₁ f₁ hb=>?_)
 subst hb
 rw[if_neg Bool.false_ne_true]
 exact wpAny_execs_nil (q _ _ _ ⟨x₁,e₁.weak,f₁,rfl⟩)
end
theorem hC0(ih:ExS β B k G n)(ihs:fV0 β B k G n):fV0 β B k G (n+1):=fun {cx σ sts K r C} h c=>by
 cases sts with
 |nil=>exact c _ _ _ h fZ
 |cons st rest=>
  refine ih h fun fl cx₁ σ₁ h H1=>?_
  cases fl with
  |nxt=>exact ihs h fun _ _ _ h H2=>c _ _ _ h (aP H1 H2)
  |brk=>exact c _ _ _ h (ex_brk H1)
  |ret v=>exact c _ _ _ h (mZ H1)
theorem gS0(ok:BsOk B)(ihs:fV0 β B k G n)(ihf:ForS β B k G n):ForS β B k G (n+1):=fun {cx σ t body w items K r C} h c=>by
 refine lU h fun hw h=>?_
 cases items with
 |nil=>exact c _ _ _ h (iG ok hw)
 |cons pv rest=>
  refine aY h fun cx₁ hb h=>ihs h fun fl cx₂ σ₁ h H1=>?_
  cases fl with
  |nxt=>exact ihf h fun _ _ _ h H2=>c _ _ _ h (fA ok hw hb H1 H2)
  |brk=>exact c _ _ _ h (for_brk ok hw hb H1)
  |ret v=>exact c _ _ _ h (for_ret ok hw hb H1)
theorem xI(iht:aA0 β B k G n)(ihs:fV0 β B k G n)(ihw:uT β B k G n):uT β B k G (n+1):=fun {cx σ t body K r C} h c=>by
 refine iht h fun b σ₁ h ht=>dG h (fun e h=>?_) fun e h=>c _ _ _ h (gX (e▸ht))
 refine ihs h fun fl cx₁ σ₂ h H1=>?_
 cases fl with
 |nxt=>exact ihw h fun _ _ _ h H2=>c _ _ _ h (jO (e▸ht) H1 H2)
 |brk=>exact c _ _ _ h (wh_brk (e▸ht) H1)
 |ret v=>exact c _ _ _ h (wh_ret (e▸ht) H1)
end
section
variable {B:Bs}{k:Nat}{G:Gl}{n:Nat}{β:Type}
noncomputable def jE(l:LE)(nvs:List (Str×PV)):LE:=nvs.foldl (fun l p=>cX l p.1 p.2) l
theorem fP:∀{nvs:List (Str×PV)} {l:LE} (y:Str),(nvs.map (·.1)).Nodup→(jE l nvs).lookup y=(nvs.lookup y).or (l.lookup y)
 |[],l,y,_=>by simp[jE]
 |(m,v)::r,l,y,hd=>by
  rw[List.map_cons,List.nodup_cons]at hd
  show (jE (cX l m v) r).lookup y=_
  rw[fP y hd.2,List.lookup_cons]
  cases hy:y==m with
  |true=>
   have e:y=m:=by simpa using hy
   subst e
   have hn:r.lookup y=none:=by
    cases h:r.lookup y with
    |none=>rfl
    |some w=>exact absurd (List.mem_map.mpr ⟨(y,w),mem_of_lookup h,rfl⟩) hd.1
   rw[hn,iW];rfl
  |false=>
   have hne:y≠m:=by simpa using hy
   rw[fV _ _ hne]
theorem eE:∀{nvs:List (Str×PV)} (y:Str) (v:PV),(nvs.map (·.1)).Nodup→(nvs.lookup y=some v↔(y,v)∈nvs)
 |[],y,v,_=>by simp
 |(m,w)::r,y,v,hd=>by
  rw[List.map_cons,List.nodup_cons]at hd
  rw[List.lookup_cons]
  cases hy:y==m with
  |true=>
   have e:y=m:=by simpa using hy
   subst e
   constructor
   ·intro h;cases h;exact List.mem_cons_self
   ·intro h
    rcases List.mem_cons.mp h with h | h
    ·cases h;rfl
    ·exact absurd (List.mem_map.mpr ⟨_,h,rfl⟩) hd.1
  |false=>
   have hne:y≠m:=by simpa using hy
   dsimp only
   rw[eE y v hd.2]
   constructor
   ·exact List.mem_cons_of_mem _
   ·intro h
    rcases List.mem_cons.mp h with h | h
    ·cases h;exact absurd rfl hne
    ·exact h
theorem pD{nvs:List (Str×PV)}(y:Str)(hd:(nvs.map (·.1)).Nodup):nvs.reverse.lookup y=nvs.lookup y:=by
 have hd':(nvs.reverse.map (·.1)).Nodup:=by rw[List.map_reverse];exact List.pairwise_reverse.mpr (List.Pairwise.imp (fun h=>Ne.symm h) hd)
 apply Option.ext
 intro v
 rw[eE y v hd',eE y v hd,List.mem_reverse]
theorem Fr.congr{X:List Addr}{cx cx':Cx}{env:Env}{ρ:List Addr}{h:Heap}(f:Fr B X cx env ρ h)(hn:cx'.names=cx.names)(hl:∀y,cx'.le.lookup y=cx.le.lookup y):Fr B X cx' env ρ h where
 kind:=f.kind
 glob:=f.glob
 bt:=f.bt
 loc:=by rw[hn];simp only[hl];exact f.loc
 cel:=by rw[hn];simp only[hl];exact f.cel
 fre:=by rw[hn];simp only[hl];exact f.fre
 glb:=by rw[hn];exact f.glb
 dom:=by rw[hn];simp only[hl];exact f.dom
 own:=f.own
 ofX:=f.ofX
 ofc:=f.ofc
 apart:=f.apart
theorem jV(ok:BsOk B){A:Around}{X:List Addr}{env:Env}{ρ:List Addr}{σ:Sto}{Q:Unit→Shared→Prop}{E:Value→Shared→Prop}:∀{nvs:List (Str×PV×Value)} {cx:Cx} {s:Shared},(∀p∈nvs,stores cx p.1=true)→St B ρ σ s→Fr B X cx env ρ s.heap→(∀p∈nvs,VR B ρ s.heap p.2.1 p.2.2)→
  (∀s',St B ρ σ s'→Evo B X ρ σ s.heap ρ σ s'.heap→Fr B X ⟨cx.names,jE cx.le (nvs.map fun p=>(p.1,p.2.1))⟩ env ρ s'.heap→Q () s')→wpAny (model B.prog B.w) A (assignInOrder (nvs.map fun p=>bindName env p.1) (nvs.map fun p=>p.2.2)) Q E s
 |[]=>fun _ x f _ q=>wpAny_pure (q _ x (.refl ..) f)
 |p::r=>fun hs x f hr q=> 
  assignInOrder_cons (wpAny_bindName (jX (v:=p.2.1) (cx':=⟨_,cX _ p.1 p.2.1⟩) ok (if_pos (hs p List.mem_cons_self)) x f (hr p List.mem_cons_self) fun _ x₁ e₁ f₁=>jV ok (nvs:=r) (cx:=⟨_,cX _ p.1 p.2.1⟩) (fun p hp=>hs p (List.mem_cons_of_mem _ hp)) x₁ f₁ (fun p hp=>VR.evo e₁ _ (hr p (List.mem_cons_of_mem _ hp))) fun s₂ x₂ e₂ f₂=>q s₂ x₂ (e₁.trans e₂) f₂))
theorem pO:∀{es:List Expr} {vs:List PV} {cx cx':Cx},eG cx es vs=some cx'→∃names:List Str,es.map jB=names.map some∧names.length=vs.length∧(∀m∈names,stores cx m=true)∧cx'=⟨cx.names,jE cx.le (names.zip vs)⟩
 |[],[],cx,cx',h=>by obtain rfl:=Option.some.inj h;exact⟨[],rfl,rfl,fun _ h=>absurd h List.not_mem_nil,rfl⟩
 |e::es,v::vs,cx,cx',h=>by
  obtain⟨m,p,cx₁,rfl,h1,h2⟩:=hV h
  obtain⟨hs,h1⟩:=grd_some (β:=Cx) h1
  obtain rfl:=Option.some.inj h1
  obtain⟨names,a,b,c,d⟩:=pO h2
  exact⟨m::names,congrArg (some m::·) a,congrArg (· +1) b,List.forall_mem_cons.mpr ⟨hs,c⟩,d⟩
 |[],_::_,_,_,h=>nos h
 |_::_,[],_,_,h=>nos h
theorem bA0{value:Expr}{cx:Cx}{σ:Sto}{K:PV→Sto→Option β}{r:β}(h:evK G n cx σ value K=some r):(∀a b c d,value≠ .SetComp a b c d)∧∀a b c d e,value≠ .DictComp a b c d e:=by
 refine⟨fun a b c d e=>?_,fun a b c d e e'=>?_⟩
 ·subst e
  cases n with
  |zero=>exact nos h
  |succ n=>exact nos h
 ·subst e'
  cases n with
  |zero=>exact nos h
  |succ n=>exact nos h
theorem rW{value:Expr}{t:Option Expr}{line:Nat}{env:Env}(h1:∀a b c d,value≠ .SetComp a b c d)(h2:∀a b c d e,value≠ .DictComp a b c d e):
  (∃elt gens sc p,value=.ListComp elt gens sc p)∨swapsWith value t line env=pure false:=by
 cases value with
 |ListComp elt gens sc p=>exact .inl ⟨_,_,_,_,rfl⟩
 |SetComp a b c d=>exact (h1 _ _ _ _ rfl).elim
 |DictComp a b c d e=>exact (h2 _ _ _ _ _ rfl).elim
 |_=>exact .inr rfl
theorem nV{value:Expr}{es:List Expr}{kk:Nat}{p:Pos}{line:Nat}{env:Env}:swapsWithSole [.Tuple es kk p] value line env=pure false:=by
 cases value<;>rfl
theorem zT{elt:Expr}{gens:List Comprehension}{sc:Scope}{p q:Pos}{m:Str}{line:Nat}{env:Env}:∃b:Bool,swapsWithSole [.Name m q] (.ListComp elt gens sc p) line env=pure b:=⟨_,rfl⟩
theorem kQ(g:Expr→Option Str)(hg:∀e m,g e=some m→jB e=some m):∀ts:List Expr,(ts.filterMap g).length=ts.length→ts.map jB=(ts.filterMap g).map some
 |[],_=>rfl
 |e::es,h=>by
  cases hge:g e with
  |none=>
   rw[List.filterMap_cons,hge]at h
   have:=List.length_filterMap_le g es
   simp only[List.length_cons]at h
   lia
  |some m=>
   rw[List.filterMap_cons,hge]at h ⊢
   simp only[List.length_cons,List.map_cons]at h ⊢
   rw[hg e m hge,kQ g hg es (by lia)]
theorem jP{α:Type _}{P:α→Prop}{c:Prop} [Decidable c] {a b:α}(h1:c→P a)(h2:¬c→P b):P (if c then a else b):=by
 by_cases h:c
 ·rw[if_pos h];exact h1 h
 ·rw[if_neg h];exact h2 h
theorem swapped_cases{ts:List Expr}{kk:Nat}{p:Pos}{value:Expr}{env:Env}(hbad:oZ (.Tuple ts kk p) value=true):
  swappedStores [.Tuple ts kk p] value env=pure none∨∃names:List Str,ts.map jB=names.map some∧swappedStores [.Tuple ts kk p] value env=pure (some names):=by
 cases value with
 |Tuple vs kk' p'=>
  have hb:=(Bool.and_eq_true_iff.mp hbad).2
  unfold swappedStores
  dsimp only
  generalize hP:(fun X:Sem (Option (List Str))=>X=pure none∨∃names:List Str,ts.map jB=names.map some∧X=pure (some names))=P
  have hn:P (pure none):=hP▸ .inl rfl
  suffices z:P _ by rw[← hP]at z;exact z
  refine jP (fun _=>hn) fun _=>jP (fun _=>hn) fun _=>jP (fun _=>hn) fun h3=>jP (fun _=>hn) fun h4=>jP (fun h5=>?_) fun _=>?_
  ·exact absurd ((show (!(vs.all (constantsAlone 8)) || vs.all (foldedForSure 8))=true from hb)) (by rw[h5];exact h4)
  ·rw[← hP]
   refine .inr ⟨_,kQ _ (fun e m he=>?_) ts ?_,rfl⟩
   ·cases e with
    |Name=>exact (grd_some he).2
    |_=>exact nos he
   ·exact Classical.not_not.mp fun z=>h3 (Bool.or_eq_true_iff.mpr (.inl (bne_iff_ne.mpr z)))
 |_=>exact .inl rfl
end
section
variable {B:Bs}{k:Nat}{G:Gl}{n:Nat}{β:Type}{r:β}
theorem Fr.ext2{X:List Addr}{cx:Cx}{env:Env}{ρ:List Addr}{h h':Heap}(f:Fr B X cx env ρ h)(vk:Vk B ρ h ρ h')(hX:∀a∈X,∀o,h.get? a=some o→h'.get? a=some o)(hc:∀y c,env.cells.lookup y=some c→∀o,h.get? c=some o→h'.get? c=some o):
  Fr B X cx env ρ h':=f.move vk fun a o hm h1 _ ho _=>⟨hm.elim (fun ha=>hX a ha o ho) fun h=>h.elim fun y hy=>hc y a hy o ho,h1⟩
theorem gF0{as bs:List Str}(h:as.map some=bs.map some):as=bs:=by
 have:=congrArg (List.filterMap id) h
 simpa [List.filterMap_map]using this
theorem lG0(ok:BsOk B){cx cx':Cx}{σ σ₁ σ₂:Sto}{elt tgt iter:Expr}{ifs:List Expr}{scope:Scope}{pos cpos q:Pos}{m:Str}{items:List PV}{w:Option (Nat×Nat)}{xs:List PV}
  (hsc:fD cx scope=true) (hit:cP iter tgt=true) (hi:It1 B k cx σ iter items w σ₁) (hc:gM B k ⟨scope.names,capt cx scope.names⟩ σ₁ elt tgt ifs w items xs σ₂) (hlen:xs.length≤100000)
  (hb:gH cx m (.lst σ₂.length)=some cx') {A:Around} {X:List Addr} {env:Env} {ρ:List Addr} {s:Shared} (R:Room k A) (x:St B ρ σ s) (f:Fr B X cx env ρ s.heap) {Q:Value→Shared→Prop} {E:Value→Shared→Prop}
  (c:∀v s' ρ',SEnd B X env ρ σ s.heap .nxt cx' (σ₂++[⟨0,.lst xs⟩]) .next s' ρ'→Q v s'):
  wpAny (model B.prog B.w) A (comprehension (.ListComp elt [⟨tgt,iter,ifs,0⟩] scope pos) scope env cpos (newList []) false (eval iter env) (some fun v=>assign (.Name m q) env v)) Q E s:=by
 refine tB ok hsc hit hi hc hlen R x f fun s' ρ' D C K=>?_
 obtain⟨mm,hm⟩:=K.ns
 obtain⟨vs,hp,hvs⟩:=K.acc
 obtain⟨x₂,e₂,hat,vk₂⟩:=qD ok K.st K.evo K.d0 K.dr K.dt K.db hp hvs
 have hCρ2:C∉ρ'++[D]:=fun hmem=>(List.mem_append.mp hmem).elim K.cr fun h=>K.ne (List.mem_singleton.mp h)
 show wpAny _ A (assign (.Name m q) env (.ref D)) _ _ s'
 refine iD ok R (t:=.Name m q) (v:=.lst σ₂.length) hb x₂ (f.evo e₂) ⟨D,rfl,hat⟩ fun s₃ x₃ e₃ f₃=>?_
 have hCX:C∉X:=fun hx=>by obtain⟨_,_,_,o,ho,_⟩:=f.ofX C hx;rw[K.c0]at ho;exact nos ho
 have hm3:s₃.heap.Ns C mm:=hm.at' fun o ho=>e₃.kp.keep C o ho hCρ2 K.ct fun hx=>absurd hx hCX
 refine⟨mm,hm3,fun h' hs'=>?_⟩
 obtain⟨x₄,vk₄⟩:=sW ok x₃ hm3 hCρ2 K.ct K.cb hs'
 refine c _ _ _ ⟨x₄,(e₂.weak.trans e₃).alter (wr:=[C]) (fun a ha=>by rw[List.mem_singleton.mp ha];exact K.c0) (mS hs'),f₃.ext2 vk₄ (fun a ha o ho=>hs'.extBut a o (fun e=>hCX (e▸ha)) ho) fun y c hc o ho=>hs'.extBut c o (fun e=>?_) ho,rfl⟩
 obtain⟨_,_,o',ho',_⟩:=f.ofc y c hc
 rw[e,K.c0]at ho'
 exact nos ho'
theorem mU(ok:BsOk B){cx cx':Cx}{σ σ₁:Sto}{m:Str}{q pos:Pos}{value:Expr}{v:PV}(H:E1 B k cx σ value v σ₁)(hb:gH cx m v=some cx'){A:Around}{X:List Addr}{env:Env}{ρ:List Addr}{s:Shared}(hs:swapsWith value (some (.Name m q)) pos.line env=pure false)
  (R:Room k A) (x:St B ρ σ s) (f:Fr B X cx env ρ s.heap) {Q:Flow→Shared→Prop} {E:Value→Shared→Prop} (c:∀f s' ρ',SEnd B X env ρ σ s.heap .nxt cx' σ₁ f s' ρ'→Q f s'):wpAny (model B.prog B.w) A (exec (.Assign [.Name m q] value pos) env) Q E s:=
 wpAny_Assign_Name (H.use R x f fun _ _ _ x₁ e₁ f₁ r₁=>jX ok hb x₁ f₁ r₁ fun _ x₂ e₂ f₂=>c _ _ _ ⟨x₂,e₁.weak.trans e₂,f₂,rfl⟩) hs
theorem kI0(ok:BsOk B){cx cx':Cx}{σ σ₁ σ₂:Sto}{elt tgt iter:Expr}{ifs:List Expr}{scope:Scope}{pos p q:Pos}{m:Str}{items:List PV}{w:Option (Nat×Nat)}{xs:List PV}
  (hsc:fD cx scope=true) (hit:cP iter tgt=true) (hi:It1 B k cx σ iter items w σ₁) (hc:gM B k ⟨scope.names,capt cx scope.names⟩ σ₁ elt tgt ifs w items xs σ₂) (hlen:xs.length≤100000)
  (hb:gH cx m (.lst σ₂.length)=some cx'):S1 B k cx σ (exec (.Assign [.Name m q] (.ListComp elt [⟨tgt,iter,ifs,0⟩] scope p) pos)) .nxt cx' (σ₂++[⟨0,.lst xs⟩]):=fun {A X env ρ s Q E} R x f c=>by
 obtain⟨b,hsb⟩:=@zT elt [⟨tgt,iter,ifs,0⟩] scope p q m pos.line env
 cases b with
 |false=>exact mU ok (gR ok hsc hit hi hc hlen) hb hsb R x f c
 |true=>
  show wpAny _ A (exec _ env) _ _ s
  rw[PyProof.Rows.exec_Assign]
  refine wpAny_bind (wpAny_standAt ?_)
  rw[hsb]
  refine wpAny_bind (wpAny_pure ?_)
  rw[if_pos rfl]
  exact wpAny_bind (wpAny_bind (lG0 (q:=q) (cpos:=firstIterPos [⟨tgt,iter,ifs,0⟩] p) (pos:=p) ok hsc hit hi hc hlen hb R x f fun _ s' ρ' h=>wpAny_pure (wpAny_pure (c _ _ _ h))))
theorem lZ(ok:BsOk B)(all:∀m,AllS β B k G m){cx:Cx}{σ:Sto}{m:Str}{q pos:Pos}{value:Expr}{K:Fl→Cx→Sto→Option β}{C:Prop}(h:(evK G n cx σ value fun v σ₁=>opt (gH cx m v) fun cx'=>K .nxt cx' σ₁)=some r)
  (c:∀fl cx' σ',K fl cx' σ'=some r→S1 B k cx σ (exec (.Assign [.Name m q] value pos)) fl cx' σ'→C):C:=by
 have hn:=bA0 h
 by_cases hl:∃elt gens sc p,value=.ListComp elt gens sc p
 ·obtain⟨elt,gens,sc,p,rfl⟩:=hl
  cases n with
  |zero=>exact nos h
  |succ n=>
   refine jR (all n).comp (all n).it h fun tgt iter ifs items w σ₁ xs σ₂ hg h1 h2 H1 H2 hlen h3=>aY h3 fun cx' hb h4=>?_
   subst hg
   exact c _ _ _ h4 (kI0 ok h1 h2 H1 H2 hlen hb)
 ·exact (all n).ev h fun v σ₁ h H=>aY h fun cx' hb h=>c _ _ _ h fun R x f q=>mU ok H hb ((rW hn.1 hn.2).resolve_left hl) R x f q
theorem kU0:∀(ns:List Str) (as:List PV) (bs:List Value),ns.length=as.length→bs.length=as.length→(ns.zip (as.zip bs)).map (·.1)=ns∧(ns.zip (as.zip bs)).map (·.2.2)=bs∧(ns.zip (as.zip bs)).map (fun p=>(p.1,p.2.1))=ns.zip as:=fun ns as bs h1 h2=>by
  have hl:(as.zip bs).length=ns.length:=by rw[List.length_zip,h2,Nat.min_self,h1]
  have e2:(ns.zip (as.zip bs)).map (·.2)=as.zip bs:=List.map_snd_zip (Nat.le_of_eq hl)
  refine⟨List.map_fst_zip (Nat.le_of_eq hl.symm),?_,?_⟩
  ·refine (List.map_map (g:=fun p:PV×Value=>p.2) (f:=fun p:Str×PV×Value=>p.2)).symm.trans ?_
   rw[e2]
   exact List.map_snd_zip (Nat.le_of_eq h2)
  ·refine (show _=(ns.zip (as.zip bs)).map (Prod.map id (·.1)) from rfl).trans (List.zip_map_right.symm.trans ?_)
   rw[List.map_fst_zip (Nat.le_of_eq h2.symm)]
theorem kY0{ρ:List Addr}{h:Heap}:∀{as:List PV} {bs:List Value},VRs B ρ h as bs→∀p∈as.zip bs,VR B ρ h p.1 p.2
 |[],_=>fun _ p hp=>absurd hp List.not_mem_nil
 |a::as,bs=>fun r p hp=>by
  obtain⟨v,t,rfl,h1,h2⟩:=r
  rcases List.mem_cons.mp hp with rfl | hp
  ·exact h1
  ·exact kY0 h2 p hp
theorem zip3_vr{ρ:List Addr}{h:Heap}:∀(ns:List Str) {as:List PV} {bs:List Value},VRs B ρ h as bs→∀p∈ns.zip (as.zip bs),VR B ρ h p.2.1 p.2.2:=fun _ _ _ r p hp=>kY0 r p.2 (List.of_mem_zip hp).2
theorem lO(ok:BsOk B){cx cx':Cx}{σ σ₁:Sto}{ts:List Expr}{kk:Nat}{q pos:Pos}{value:Expr}{vs:List PV}(hst:oZ (.Tuple ts kk q) value=true)(H:E1 B k cx σ value (.tup vs) σ₁)
  (hb:eG cx ts vs=some cx'):S1 B k cx σ (exec (.Assign [.Tuple ts kk q] value pos)) .nxt cx' σ₁:=fun {A X env ρ s Q E} R x f c=>by
 rcases swapped_cases (env:=env) hst with hw | ⟨names,hnames,hw⟩
 ·exact Assign_Tuple (H.use R x f fun va ρ₁ s₁ x₁ e₁ f₁ r₁=>iD (t:=.Tuple ts kk q) (v:=.tup vs) ok R (show aH cx (.Tuple ts kk q) (.tup vs)=some cx' from hb) x₁ f₁ r₁ fun s₂ x₂ e₂ f₂=>c _ _ _ ⟨x₂,e₁.weak.trans e₂,f₂,rfl⟩) nV hw
 ·refine Assign_Tuple_swapped (H.use R x f fun va ρ₁ s₁ x₁ e₁ f₁ r₁=>?_) nV hw
  obtain⟨names',h1,h2,h3,rfl⟩:=pO hb
  obtain rfl:=gF0 (hnames.symm.trans h1)
  have hnd:names.Nodup:=by
   have:(ts.map jB).Nodup:=of_decide_eq_true (Bool.and_eq_true_iff.mp hst).1
   rw[hnames]at this
   exact List.Pairwise.of_map _ (fun a b hab e=>hab (by rw[e])) this
  obtain⟨a,us,rfl,ha1,ha2,ht,hr⟩:=r₁
  have hlen:=hr.length
  have hsz:us.size=names.length:=by rw[h2];exact hlen
  rw[← hsz]
  refine wpAny_unpackItems_tuple R.handled ht fun h' he'=>?_
  obtain⟨x₂,e₂⟩:=x₁.grow ok (s':={ s₁ with heap:=h' }) rfl x₁.gens fun b o ho=>he' b o (fun e=>by rw[e,get?_size]at ho;exact nos ho) ho
  obtain⟨t1,t2,t3⟩:=kU0 names vs us.toList h2 hlen
  have hr2:=zip3_vr names (VRs.evo e₂ _ hr)
  revert t1 t2 t3 hr2
  generalize names.zip (vs.zip us.toList)=trip
  intro t1 t2 t3 hr2
  have hk1:((names.zip vs).map (·.1)).Nodup:=by rw[List.map_fst_zip (Nat.le_of_eq h2)];exact hnd
  have hA:(names.reverse.map fun n=>bindName env n)=trip.reverse.map (fun p=>bindName env p.1):=by rw[← t1,← List.map_reverse,List.map_map];rfl
  have hB:us.toList.reverse=trip.reverse.map (fun p=>p.2.2):=by rw[← t2,List.map_reverse]
  rw[hA,hB]
  refine jV ok (nvs:=trip.reverse) (cx:=cx) (fun p hp=>h3 p.1 (t1▸List.mem_map.mpr ⟨p,List.mem_reverse.mp hp,rfl⟩)) x₂ (f₁.evo e₂) (fun p hp=>hr2 p (List.mem_reverse.mp hp)) fun s₃ x₃ e₃ f₃=>c _ _ _ ⟨x₃,(e₁.trans e₂).weak.trans e₃,f₃.congr rfl fun y=>?_,rfl⟩
  show (jE _ _).lookup y=(jE _ _).lookup y
  rw[List.map_reverse,t3,fP y hk1,fP y (by rw[List.map_reverse];exact List.pairwise_reverse.mpr (List.Pairwise.imp (fun h=>Ne.symm h) hk1)),pD y hk1]
end
section
variable {B:Bs}{k:Nat}{G:Gl}{n:Nat}{β:Type}
theorem sE{ρ:List Addr}{h:Heap}:∀{xs:List PV} {vs:List Value} (i:Nat),VRs B ρ h xs vs→VRs B ρ h (xs.eraseIdx i) (vs.eraseIdx i)
 |[],vs,i,r=>by rw[show vs=[]from r];exact rfl
 |x::xs,vs,0,r=>by obtain⟨v,t,rfl,h1,h2⟩:=r;exact h2
 |x::xs,vs,i+1,r=>by obtain⟨v,t,rfl,h1,h2⟩:=r;exact⟨v,_,rfl,h1,sE i h2⟩
theorem mX{o i:Expr}{pos:Pos}{env:Env}:delete (.Subscript o i pos) env=(do
  let ov ← eval o env
  let iv ← holding [ov] (eval i env)
  standAt pos
  holding [ov,iv] (delItem ov iv)
  release [ov,iv] []):=rfl
section
variable {cx cx':Cx}{σ σ₁ σ₂:Sto}{a b:List Stmt}{t e:Expr}{v u:PV}{fl:Fl}{pos:Pos}
theorem nZ{bb:Bool}(H:Tr B k cx σ t bb σ₁)(H2:S1 B k cx σ₁ (execs (if bb then a else b)) fl cx' σ₂):S1 B k cx σ (exec (.If t a b pos)) fl cx' σ₂:=fun R x f q=>
 wpAny_If (H.use R x f fun b' ρ₁ s₁ x₁ e₁ f₁ hb=>by
  have e:b'=bb:=hb
  subst e
  cases b' with
  |true=>exact H2 R x₁ f₁ fun f s' ρ' p=>q f s' ρ' (p.after e₁.weak)
  |false=>exact H2 R x₁ f₁ fun f s' ρ' p=>q f s' ρ' (p.after e₁.weak))
theorem hZ0(H:E1 B k cx σ e v σ₁):S1 B k cx σ (exec (.Return (some e) pos)) (.ret v) cx σ₁:=fun R x f q=>wpAny_Return_some (H.use R x f fun va _ _ x₁ e₁ f₁ r₁=>q _ _ _ ⟨x₁,e₁.weak,f₁,va,rfl,r₁⟩)
theorem st_expr(hs:∀env,swapsWith e none pos.line env=pure false)(H:E1 B k cx σ e v σ₁):S1 B k cx σ (exec (.Expr e pos)) .nxt cx σ₁:=fun {A X env ρ s Q E} R x f q=>wpAny_Expr_any (H.use R x f fun va ρ₁ s₁ x₁ e₁ f₁ r₁=>q _ _ _ ⟨x₁,e₁.weak,f₁,rfl⟩) (by unfold interactive;rw[f.kind];rfl) (hs env)
theorem gM0{m:Option Expr}(H:Tr B k cx σ t true σ₁):S1 B k cx σ (exec (.Assert t m pos)) .nxt cx σ₁:=fun R x f q=>wpAny_Assert_holds (H.use R x f fun _ _ _ x₁ e₁ f₁ hb=>⟨hb,q _ _ _ ⟨x₁,e₁.weak,f₁,rfl⟩⟩)
theorem lP0:S1 B k cx σ (exec (.Break pos)) .brk cx σ:=fun _ x f q=>wpAny_Break (q _ _ _ ⟨x,.refl ..,f,rfl⟩)
theorem st_aug(ok:BsOk B){y:Str}{q:Pos}{op:Operator}{r:PV}(ha:cx.le.lookup y=some u)(H:E1 B k cx σ e v σ₁)(hr:xO B op u v r)(hbd:gH cx y r=some cx'):S1 B k cx σ (exec (.AugAssign (.Name y q) op e pos)) .nxt cx' σ₁:=fun {A X env ρ s Q E} R x f c=>by
 refine wpAny_AugAssign_Name ?_
 have fin:∀va,VR B ρ s.heap u va→wpAny (model B.prog B.w) A (eval e env) (fun v s₂=>wpAny (model B.prog B.w) A (inplaceOp op va v) (fun r s₃=>wpAny (model B.prog B.w) A (storeName env y r) (fun _=>Q .next) E s₃) E s₂) E s:=fun va hva=>
  H.use R x f fun vb ρ₁ s₁ x₁ e₁ f₁ r₁=>(hr A ρ₁ σ₁ s₁ va vb x₁ (VR.evo e₁ _ hva) r₁).use fun vr ρ₂ s₂ x₂ e₂ r₂=>jX ok hbd x₂ (f₁.evo e₂) r₂ fun s₃ x₃ e₃ f₃=>c _ _ _ ⟨x₃,(e₁.trans e₂).weak.trans e₃,f₃,rfl⟩
 rcases stores_some (grd_some (β:=Cx) hbd).1 with hl | hl
 ·obtain⟨m,hns,hm⟩:=f.loc
  obtain⟨hk,hv⟩:=hm y hl
  obtain⟨val,e1,e2⟩:=hv u ha
  exact wpAny_loadName_local f.kind hk hns e1 (fin val e2)
 ·obtain⟨hk,c',w,hc,_,hw,hv⟩:=f.cel y hl
  obtain⟨val,rfl,e2⟩:=hv u ha
  exact wpAny_loadName_cell f.kind hk hc hw (fin val e2)
theorem lI0{j n:Int}(h0:j < 0)(h1:0≤j+n)(hn:n≤10000): -9223372036854775808≤j∧j < 9223372036854775808∧j+n < n:=by lia
theorem fits_of{xs:List PV}{j:Int}{p:Nat}(hlen:xs.length≤10000)(hp:seqIndex? j xs.length=some p):Builtin.List.listFitsIndex j=true∧p < xs.length:=by
 have hn:(xs.length:Int)≤10000:=Int.ofNat_le.mpr hlen
 have:(-(2:Int) ^ 63≤j∧j < 2 ^ 63)∧p < xs.length:=by
  rcases seqIndex_cases hp with⟨h0,h1,rfl⟩ | ⟨h0,h1,rfl⟩
  ·obtain⟨q1,q2,q3⟩:=lI0 h0 h1 hn
   exact⟨⟨q1,q2⟩,(Int.toNat_lt h1).mpr q3⟩
  ·exact⟨⟨Int.le_trans (by decide) h0,Int.lt_of_lt_of_le h1 (Int.le_trans hn (by decide))⟩,(Int.toNat_lt h0).mpr h1⟩
 refine⟨?_,this.2⟩
 unfold Builtin.List.listFitsIndex
 exact Bool.and_eq_true _ _▸⟨decide_eq_true this.1.1,decide_eq_true this.1.2⟩
theorem st_del(ok:BsOk B){l jx:Expr}{q:Pos}{i p:Nat}{j:Int}{xs:List PV}(H1:E1 B k cx σ l (.lst i) σ₁)(H2:E1 B k cx σ₁ jx (.int j) σ₂)(hxs:bM σ₂ i=some xs)(hlen:xs.length≤10000)(hp:seqIndex? j xs.length=some p):
  S1 B k cx σ (exec (.Delete [.Subscript l jx q] pos)) .nxt cx (aC σ₂ i (.lst (xs.eraseIdx p))):=fun {A X env ρ s Q E} R x f c=>by
 refine wpAny_Delete (wpAny_deleteEach_cons ?_)
 rw[mX]
 refine wpAny_bind (H1.use R x f fun va ρ₁ s₁ x₁ e₁ f₁ r₁=>wpAny_bind (wpAny_holding (H2.use R x₁ f₁ fun vk ρ₂ s₂ x₂ e₂ f₂ r₂=>?_)))
 obtain⟨a,rfl,ha⟩:=VR.evo e₂ _ r₁
 obtain⟨u,rfl⟩:=r₂
 obtain⟨vs,hpl,hr⟩:=x₂.list hxs ha
 have hsz:vs.toArray.size=xs.length:=hr.length
 obtain⟨hfit,hpi⟩:=fits_of hlen hp
 have hpv:p < vs.toArray.size:=hsz.symm▸hpi
 refine wpAny_bind (wpAny_standAt (wpAny_bind (wpAny_holding (wpAny_delItem_plain hpl hfit (by rw[hsz];exact hp) (fun h' hp' hs'=>?_) (by rw[hsz];exact Nat.le_trans hlen (by decide))))))
 refine PyProof.Rows.wpAny_release' (wpAny_deleteEach_nil ?_)
 have hp'':h'.PlainList a (vs.eraseIdx p).toArray:=by
  have e:vs.toArray.eraseIdxIfInBounds p=(vs.eraseIdx p).toArray:=by
   unfold Array.eraseIdxIfInBounds
   rw[dif_pos hpv]
   exact List.eraseIdx_toArray ..
  rw[← e];exact hp'
 obtain⟨mm,ho'⟩:=id hp''
 obtain⟨x₃,e₃⟩:=x₂.set ok (s':={ s₂ with heap:=h' }) (d:=.lst (xs.eraseIdx p)) rfl rfl ha (fun b o hb ho=>hs'.extBut b o hb ho)
  (fun σ' e=>⟨vs.eraseIdx p,hp'',sE p (VRs.evo e _ hr)⟩) ⟨_,ho',fun vs h=>by cases h⟩
 have e123:=(e₁.trans e₂).trans e₃
 exact c _ _ _ ⟨x₃,e123.weak,f.evo e123,rfl⟩
theorem bC0{it:Expr}{body:List Stmt}{items:List PV}{w:Option (Nat×Nat)}(hok:cP it t=true)(hi:It1 B k cx σ it items w σ₁)(H:oI B k cx σ₁ t body w items fl cx' σ₂):S1 B k cx σ (exec (.For t it body [] pos)) fl cx' σ₂:=fun {A X env ρ s _ _} R x f q=>
 wpAny_For (hi.run A X env ρ s R x f _ _ fun _ _ ρ₁ s₁ x₁ e₁ hiter=>hiter _ _ fun itv s₂ wr J T I hT hJ x₂ e₂=>H A X env itv items T ρ₁ σ₁ s₁ wr J _ I (hT t hok) R x₁ (fun f s' ρ' p=>q f s' ρ' (p.after e₁.weak)) 0 ρ₁ s₂ ⟨x₂,e₂.weak,f.evo (e₁.trans e₂),hJ,Nat.zero_le _,rfl⟩) (hi.fold env)
theorem qV{body:List Stmt}(H:eF B k cx σ t body fl cx' σ₂):S1 B k cx σ (exec (.While t body [] pos)) fl cx' σ₂:=fun {A X env ρ s _ _} R x f q=>wpAny_While (H A X env ρ s _ R x f fun f s' ρ' p=>q f s' ρ' p)
end
section
variable {cx:Cx}{σ:Sto}{K:Fl→Cx→Sto→Option β}{r:β}{C:Prop}
theorem fD0{cx cx':Cx}{t:Expr}{v:PV}(h:aH cx t v=some cx'):(¬ ∃m q,t=.Name m q)→∃es kk q vs,t=.Tuple es kk q∧v=.tup vs∧eG cx es vs=some cx':=
 tF (P:=fun t v=>(¬ ∃m q,t=.Name m q)→∃es kk q vs,t=.Tuple es kk q∧v=.tup vs∧eG cx es vs=some cx') h (fun n p _ _ hn=>(hn ⟨n,p,rfl⟩).elim) fun es kk p vs h _=>⟨es,kk,p,vs,rfl,rfl,h⟩
theorem gW0(ok:BsOk B)(all:∀m,AllS β B k G m){ts:List Expr}{v:Expr}{pos:Pos}(h:exK G (n+1) cx σ (.Assign ts v pos) K=some r)(c:∀fl cx' σ',K fl cx' σ'=some r→S1 B k cx σ (exec (.Assign ts v pos)) fl cx' σ'→C):C:=by
 obtain⟨t,e,h⟩:=cB h
 subst e
 refine lU h fun hok h=>?_
 by_cases hn:∃m q,t=.Name m q
 ·obtain⟨m,q,rfl⟩:=hn
  exact lZ ok all h c
 ·refine (all n).ev h fun x σ₁ h H=>aY h fun cx' hb h2=>?_
  obtain⟨es,kk,q,vs,rfl,rfl,hb⟩:=fD0 hb hn
  exact c _ _ _ h2 (lO ok hok H hb)
theorem el_aug(ok:BsOk B)(ih:EvS β B k G n){t:Expr}{op:Operator}{v:Expr}{pos:Pos}(h:exK G (n+1) cx σ (.AugAssign t op v pos) K=some r)(c:∀fl cx' σ',K fl cx' σ'=some r→S1 B k cx σ (exec (.AugAssign t op v pos)) fl cx' σ'→C):C:=by
 cases t with
 |Name y q=>
   refine aY h fun u ha h=>ih h fun b σ₁ h H=>?_
   obtain⟨v,h,hr⟩:=eR0 (B:=B) h
   exact aY h fun cx' hb h=>c _ _ _ h (st_aug ok ha H hr hb)
 |_=>exact nos h
theorem el_expr(ih:EvS β B k G n){e:Expr}{pos:Pos}(h:exK G (n+1) cx σ (.Expr e pos) K=some r)(c:∀fl cx' σ',K fl cx' σ'=some r→S1 B k cx σ (exec (.Expr e pos)) fl cx' σ'→C):C:=by
 cases e with
 |Call a b d p=>exact ih h fun v σ₁ h H=>c _ _ _ h (st_expr (fun _=>rfl) H)
 |_=>exact nos h
theorem fG0{ts:List Expr}{f:Expr→Expr→Option β}(h:delK ts f=some r):∃l j q,ts=[.Subscript l j q]∧f l j=some r:=by
 obtain⟨t,e,h⟩:=cB h
 subst e
 cases t with
 |Subscript l j q=>exact⟨l,j,q,rfl,h⟩
 |_=>exact nos h
theorem el_del(ok:BsOk B)(ih:EvS β B k G n){ts:List Expr}{pos:Pos}(h:exK G (n+1) cx σ (.Delete ts pos) K=some r)(c:∀fl cx' σ',K fl cx' σ'=some r→S1 B k cx σ (exec (.Delete ts pos)) fl cx' σ'→C):C:=by
 obtain⟨l,jx,q,e,h⟩:=fG0 h
 subst e
 refine ih h fun a σ₁ h H1=>?_
 obtain⟨i,e,h⟩:=cR h
 subst e
 refine ih h fun b σ₂ h H2=>?_
 obtain⟨j,e,h⟩:=aZ h
 subst e
 exact aY h fun xs hxs h=>cV h fun hlen h=>aY h fun p hp h=>c _ _ _ h (st_del ok H1 H2 hxs (Nat.le_of_not_lt hlen) hp)
end
theorem kT0(ok:BsOk B)(all:∀m,AllS β B k G m)(ihs:fV0 β B k G n)(ihf:ForS β B k G n)(ihw:uT β B k G n):ExS β B k G (n+1):=fun {cx σ st K r C} h c=>by
 cases st with
 |Assign ts v pos=>exact gW0 ok all h c
 |AugAssign t op v pos=>exact el_aug ok (all n).ev h c
 |If t a b pos=>exact (all n).isT h fun bb σ₁ h H=>dG h (fun e h=>ihs h fun _ _ _ h H2=>c _ _ _ h (nZ (e▸H) H2)) fun e h=>ihs h fun _ _ _ h H2=>c _ _ _ h (nZ (e▸H) H2)
 |Return v pos=>exact aY h fun e he h=>(all n).ev h fun v σ₁ h H=>c _ _ _ h (he▸hZ0 H)
 |Expr e pos=>exact el_expr (all n).ev h c
 |Assert t m pos=>cases m with
  |none=>exact (all n).isT h fun bb σ₁ h H=>lU h fun e h=>c _ _ _ h (gM0 (e▸H))
  |some _=>exact nos h
 |Break pos=>exact c _ _ _ h lP0
 |Delete ts pos=>exact el_del ok (all n).ev h c
 |For t it body els pos=> 
  obtain⟨e,h⟩:=dJ h
  subst e
  exact lU h fun hok h=>(all n).it h fun items w σ₁ h H=>ihf h fun _ _ _ h H2=>c _ _ _ h (bC0 hok H H2)
 |While t body els pos=>
  obtain⟨e,h⟩:=dJ h
  subst e
  exact ihw h fun _ _ _ h H2=>c _ _ _ h (qV H2)
 |_=>exact nos h
structure AllX (β:Type) (B:Bs) (k:Nat) (G:Gl) (n:Nat):Prop where
 ex:ExS β B k G n
 exs:fV0 β B k G n
 fr:ForS β B k G n
 wh:uT β B k G n
theorem kI(ok:BsOk B){mg mb}(gok:GlOk B k G mg mb):∀n,AllX β B k G n
 |0=>⟨fun h=>nos h,fun h=>nos h,fun h=>nos h,fun h=>nos h⟩
 |n+1=>
  have ih:=kI ok gok n
  have all:=eQ (β:=β) ok gok
  ⟨kT0 ok all ih.exs ih.fr ih.wh,hC0 ih.ex ih.exs,gS0 ok ih.exs ih.fr,xI (all n).isT ih.exs ih.wh⟩
end
theorem tO{kindOf:Str→Option NameKind}{x:Str}(hx:kindOf x=some .local):∀{binds:List (Str×Value)} {m:Str→Option Value},(binds.map (·.1)).Nodup→bindL kindOf binds m x=(binds.lookup x).or (m x)
 |[],m,_=>by simp[bindL]
 |(n,v)::r,m,hd=>by
  rw[List.map_cons,List.nodup_cons]at hd
  unfold bindL
  rw[tO hx hd.2,List.lookup_cons]
  cases hxn:x==n with
  |true=>
   have e:x=n:=by simpa using hxn
   subst e
   have hn:r.lookup x=none:=by
    cases h:r.lookup x with
    |none=>rfl
    |some w=>exact absurd (List.mem_map.mpr ⟨(x,w),mem_of_lookup h,rfl⟩) hd.1
   rw[hn,if_pos hx];simp
  |false=>
   have hne:x≠n:=by simpa using hxn
   split
   ·simp[hne]
   ·rfl
theorem sV{kindOf:Str→Option NameKind}{x:Str}(hx:kindOf x≠some .local):∀{binds:List (Str×Value)} {m:Str→Option Value},(binds.map (·.1)).Nodup→bindC kindOf binds m x=(binds.lookup x).or (m x)
 |[],m,_=>by simp[bindC]
 |(n,v)::r,m,hd=>by
  rw[List.map_cons,List.nodup_cons]at hd
  unfold bindC
  rw[sV hx hd.2,List.lookup_cons]
  cases hxn:x==n with
  |true=>
   have e:x=n:=by simpa using hxn
   subst e
   have hn:r.lookup x=none:=by
    cases h:r.lookup x with
    |none=>rfl
    |some w=>exact absurd (List.mem_map.mpr ⟨(x,w),mem_of_lookup h,rfl⟩) hd.1
   rw[hn,if_neg hx];simp
  |false=>
   have hne:x≠n:=by simpa using hxn
   split
   ·rfl
   ·simp[hne]
theorem dM{x:Str}:∀{names:List (Str×NameKind)} {n:Nat} {acc:List (Str×Addr)},((x,NameKind.cell)∈names∨(acc.lookup x).isSome=true)→((cellsFrom n names acc).lookup x).isSome=true
 |[],n,acc,h=>h.elim (fun h=>nomatch h) fun h=>h
 |(m,kd)::r,n,acc,h=>by
  unfold cellsFrom
  split
  ·rename_i hk
   refine dM ?_
   rcases h with h | h
   ·rcases List.mem_cons.mp h with e | h
    ·cases e;right;simp[List.lookup_cons]
    ·exact .inl h
   ·right
    rw[List.lookup_cons]
    cases x==m
    ·exact h
    ·rfl
  ·rename_i hk
   refine dM ?_
   rcases h with h | h
   ·rcases List.mem_cons.mp h with e | h
    ·cases e;simp at hk
    ·exact .inl h
   ·exact .inr h
section
variable {B:Bs}{k:Nat}{G:Gl}
theorem bE{ρ:List Addr}{h:Heap}{x:Str}{v:PV}:∀{ps:List Str} {args:List PV} {vals:List Value},VRs B ρ h args vals→(ps.zip args).lookup x=some v→∃val,(ps.zip vals).lookup x=some val∧VR B ρ h v val
 |[],args,vals,r,e=>by simp at e
 |p::ps,[],vals,r,e=>by simp at e
 |p::ps,a::args,vals,r,e=>by
  obtain⟨w,ws,rfl,h1,h2⟩:=r
  rw[List.zip_cons_cons,List.lookup_cons]at e ⊢
  cases hx:x==p with
  |true=>rw[hx]at e;cases e;exact⟨w,rfl,h1⟩
  |false=>rw[hx]at e;exact bE h2 e
structure DefAt (B:Bs) (a:Addr) (fd:FuncData) (names:List (Str×NameKind)) (params:List Str) (body:List Stmt):Prop where
 obj:∃o,B.h₀.get? a=some o∧o.data=.func fd
 tb:a∉B.Tb
 code:∃c o vs t,fd.code=.ref c∧c∉B.Tb∧B.h₀.get? c=some o∧o.data=.fields vs∧vs[1]?=some (.str fd.qualname t)
 body:fd.body=.stmts body
 clo:fd.closure=[]
 nms:fd.scope.names=names
 kind:fd.scope.kind=.function
 gen:fd.scope.isGenerator=false
 co:fd.scope.isCoroutine=false
 glob:fd.globals=mainNs
 bt:fd.builtins=builtinsNs
 bind:∀vals:List Value,vals.length=params.length→bindArgs fd ⟨vals,[]⟩=pure (params.zip vals)
 nodup:params.Nodup
 pk:∀p∈params,names.lookup p=some .local∨names.lookup p=some .cell
theorem pW(ok:BsOk B){a:Addr}{fd:FuncData}{names:List (Str×NameKind)}{params:List Str}{body:List Stmt}(D:DefAt B a fd names params body){F:Fn}
  (H:∀args σ v σ',F args σ=some (v,σ')→args.length=params.length∧∃fl cx',S1 B k ⟨names,params.zip args⟩ σ (execs body) fl cx' σ'∧(fl=.ret v∨fl=.nxt∧v=.none)):
  FnOk B (k+1) (.ref a) F where
 able:=let ⟨o,ho,hd⟩:=D.obj;fM ho D.tb hd
 run:=fun A ρ σ s args vals v σ' R x hr h=>Ok.intro fun Q q=>by
  obtain⟨o,ho,hd⟩:=D.obj
  obtain⟨hlen,fl,cx',H,hfl⟩:=H args σ v σ' h
  have hvl:vals.length=params.length:=by rw[hr.length,hlen]
  have hkp:∀b o,B.h₀.get? b=some o→b∉B.Tb→s.heap.get? b=some o:=x.base
  have hlim:s.heap.NoLimit:=let ⟨mc,hn,hz⟩:=ok.lim;⟨mc,hn.at' fun o ho=>x.base _ o ho ok.stat,hz⟩
  obtain⟨c,oc,vs,t,hc,hct,hco,hcd,hcq⟩:=D.code
  have hcode:s.heap.CodeRec fd.code fd.qualname:=⟨c,oc,vs,t,hc,x.base c oc hco hct,hcd,hcq⟩
  have hmap:(params.zip vals).map (·.1)=params:=List.map_fst_zip (by lia)
  have hnd:((params.zip vals).map (·.1)).Nodup:=by rw[hmap];exact D.nodup
  have hpk:∀y∈params.zip vals,fd.scope.names.lookup y.1=some .local∨(fd.scope.names.lookup y.1=some .cell∧((cellsFrom (s.heap.objs.size+1) fd.scope.names []).lookup y.1).isSome=true):=fun y hy=>by
   have hy':y.1∈params:=by rw[← hmap];exact List.mem_map.mpr ⟨y,hy,rfl⟩
   rw[D.nms]
   rcases D.pk y.1 hy' with h | h
   ·exact .inl h
   ·exact .inr ⟨h,dM (.inl (mem_of_lookup h))⟩
  refine wpAny_call (codeAny_call_cells R.lim (x.base a o ho D.tb) hd hlim hcode D.body (D.bind vals hvl) D.clo hpk (fun s₁ ic=>?_) D.co D.gen D.kind)
  generalize hE:callEnvC fd s.heap.objs.size a=env at ic ⊢
  have hloc:env.locals=s.heap.objs.size:=by rw[← hE];rfl
  have hnames:env.scope.names=names:=by rw[← hE];exact D.nms
  have hcells:env.cells=cellsFrom (s.heap.objs.size+1) names []:=by rw[← hE];show cellsFrom _ fd.scope.names []=_;rw[D.nms]
  have hkindOf:∀y,env.kindOf y=names.lookup y:=fun y=>by show env.scope.names.lookup y=_;rw[hnames]
  have dead:∀b,s.heap.objs.size≤b→s.heap.get? b=none:=fun b hb=>by
   cases e:s.heap.get? b with
   |none=>rfl
   |some o=>exact absurd (Heap.lt_size e) (Nat.not_lt.mpr hb)
  have fresh:∀b,s.heap.objs.size≤b→b∉ρ∧b∉B.Tb∧B.h₀.get? b=none:=fun b hb=>by
   have hb':=dead b hb
   refine⟨fun hm=>?_,fun hm=>?_,?_⟩
   ·obtain⟨o,ho⟩:=x.alive hm;rw[hb']at ho;cases ho
   ·obtain⟨o,ho⟩:=ok.tb _ x.inv _ hm;rw[hb']at ho;cases ho
   ·cases h0:B.h₀.get? b with
    |none=>rfl
    |some o=>
     by_cases ht:b∈B.Tb
     ·obtain⟨o',ho'⟩:=ok.tb _ x.inv _ ht;rw[hb']at ho';cases ho'
     ·rw[x.base b o h0 ht]at hb';cases hb'
  obtain⟨h₁,tk,hs₁⟩:=ic.toInCall.same
  obtain⟨x₁,e₁⟩:=x.grow ok (s':=s₁) (by rw[hs₁]) (by rw[hs₁];exact x.gens) ic.toInCall.keep
  have hr₁:=VRs.evo e₁ _ hr
  let X:List Addr:=env.locals::names.filterMap fun y=>env.cells.lookup y.1
  have hcab:∀y c,env.cells.lookup y=some c→s.heap.objs.size≤c:=fun y c hc=>by
   have:=ic.above y c (mem_of_lookup hc)
   rw[hloc]at this
   exact Nat.le_of_lt this
  have fr:Fr B X ⟨names,params.zip args⟩ env ρ s₁.heap:={
   kind:=by rw[← hE];exact D.kind
   glob:=by rw[← hE];exact D.glob
   bt:=by rw[← hE];exact D.bt
   loc:=⟨_,ic.toInCall.ns,fun y hy=>⟨by rw[hkindOf];exact hy,fun u hu=>by
    obtain⟨val,hv,hvr⟩:=bE hr₁ hu
    exact⟨val,by rw[tO (by rw[hkindOf];exact hy) hnd,hv];rfl,hvr⟩⟩⟩
   cel:=fun y hy=>by
    have hs:=dM (n:=s.heap.objs.size+1) (acc:=[]) (.inl (mem_of_lookup hy))
    obtain⟨c,hc⟩:=Option.isSome_iff_exists.mp hs
    rw[← hcells]at hc
    refine⟨by rw[hkindOf];exact hy,c,_,hc,List.mem_cons_of_mem _ (List.mem_filterMap.mpr ⟨(y,.cell),mem_of_lookup hy,hc⟩),ic.cell y c hc,fun u hu=>?_⟩
    obtain⟨val,hv,hvr⟩:=bE hr₁ hu
    have hnl:env.kindOf y≠some .local:=by rw[hkindOf,show names.lookup y=some .cell from hy];decide
    exact⟨val,by rw[sV hnl hnd,hv];rfl,hvr⟩
   fre:=fun y hy u hu=>by
    obtain⟨val,hv,hvr⟩:=bE hr₁ hu
    have:y∈params:=by rw[← hmap];exact List.mem_map.mpr ⟨_,mem_of_lookup hv,rfl⟩
    dsimp only at hy
    rcases D.pk y this with h | h<;>rw[h]at hy<;>cases hy
   glb:=fun y hy=>by rw[hkindOf];exact hy
   dom:=fun y u hu=>by
    obtain⟨val,hv,hvr⟩:=bE hr₁ hu
    have:y∈params:=by rw[← hmap];exact List.mem_map.mpr ⟨_,mem_of_lookup hv,rfl⟩
    rcases D.pk y this with h | h
    ·exact .inl h
    ·exact .inr (.inl h)
   own:=List.mem_cons_self
   ofX:=fun b hb=>by
    rcases List.mem_cons.mp hb with rfl | hb
    ·obtain⟨h1,h2,h3⟩:=fresh env.locals (by rw[hloc];exact Nat.le_refl _)
     obtain⟨o',es,ep,ho',hd',_⟩:=ic.toInCall.ns
     exact⟨h1,h2,h3,o',ho',.inl ⟨_,_,hd'⟩⟩
    ·obtain⟨⟨y,kd⟩,hy,hc⟩:=List.mem_filterMap.mp hb
     obtain⟨h1,h2,h3⟩:=fresh b (hcab y b hc)
     obtain⟨o',ho',hd'⟩:=ic.cell y b hc
     exact⟨h1,h2,h3,o',ho',.inr ⟨_,hd'⟩⟩
   ofc:=fun y c hc=>by
    obtain⟨h1,h2,h3⟩:=fresh c (hcab y c hc)
    obtain⟨o',ho',hd'⟩:=ic.cell y c hc
    exact⟨h1,h2,o',ho',.inr ⟨_,hd'⟩⟩
   apart:=fun y z c hy hz=>name_of_addr ic.apart (mem_of_lookup hy) (mem_of_lookup hz) }
  have Xdead:∀b∈X,s.heap.get? b=none:=fun b hb=>by
   rcases List.mem_cons.mp hb with rfl | hb
   ·exact dead _ (by rw[hloc];exact Nat.le_refl _)
   ·obtain⟨⟨y,kd⟩,hy,hc⟩:=List.mem_filterMap.mp hb
    exact dead _ (hcab y b hc)
  refine H (R.deeper env) x₁ fr fun f s' ρ' p=>?_
  rcases hfl with rfl | ⟨rfl,rfl⟩
  ·obtain⟨val,hf,hv⟩:=p.fl
   subst hf
   exact q _ _ ρ' p.st ((e₁.weak.trans p.evo).forget Xdead) hv
  ·have hf:f=.next:=p.fl
   subst hf
   exact q _ _ ρ' p.st ((e₁.weak.trans p.evo).forget Xdead) rfl
theorem fn_ok(ok:BsOk B){mg mb}(gok:GlOk B k G mg mb){a:Addr}{fd:FuncData}{names:List (Str×NameKind)}{params:List Str}{body:List Stmt}(D:DefAt B a fd names params body)(n:Nat):
  FnOk B (k+1) (.ref a) (runK G n names params body):=pW ok D fun args σ v σ' h=>by
 obtain⟨hlen,h⟩:=grd_some h
 refine⟨hlen,(kI (β:=PV×Sto) ok gok n).exs h fun fl cx' σ₂ hK H=>?_⟩
 cases fl with
 |ret u=>
  obtain⟨rfl,rfl⟩:=Prod.mk.inj (Option.some.inj hK)
  exact⟨_,_,H,.inl rfl⟩
 |nxt=>
  obtain⟨rfl,rfl⟩:=Prod.mk.inj (Option.some.inj hK)
  exact⟨_,_,H,.inr ⟨rfl,rfl⟩⟩
 |brk=>exact nos hK
end
section
variable {B:Bs}{A:Around}{ρ:List Addr}{σ:Sto}{s:Shared}
theorem insOk_t{d:CD}(h:tG d=true):∃k:Int,d=.ins [("_initial_size",.int k)]:=by
 cases d with
 |ins kvs=>
  cases kvs with
  |nil=>exact Bool.noConfusion h
  |cons p l=>
   cases l with
   |cons _ _=>exact Bool.noConfusion h
   |nil=>
    obtain⟨n,v⟩:=p
    cases v with
    |int k=>exact⟨k,congrArg (fun n=>CD.ins [(n,.int k)]) (of_decide_eq_true h)⟩
    |_=>exact Bool.noConfusion h
 |_=>exact Bool.noConfusion h
theorem sT{i di:Nat}{c:Cell}{xs:List PV}(hc:σ[i]?=some c)(hd:c.d=.acc di xs)(h:aI σ (.lst i)=true):∃(c':Cell) (k:Int),σ[di]?=some c'∧c'.d=.ins [("_initial_size",.int k)]:=by
 have h:fX σ[i]? true (fun c=>xP σ c.d)=true:=h
 rw[hc]at h
 have h:xP σ c.d=true:=h
 rw[hd]at h
 obtain⟨c',hc',h⟩:=jG h
 exact⟨c',(insOk_t h).imp fun k e=>And.intro hc' e⟩
theorem lG(x:St B ρ σ s){i di:Nat}{c:Cell}{xs:List PV}{a:Addr}(hc:σ[i]?=some c)(hd:c.d=.acc di xs)(ha:ρ[i]?=some a)(hok:aI σ (.lst i)=true):
  ∃(vs:List Value) (n:Nat) (D:Addr) (oD:Obj) (k:Int) (t:Tok),ρ[di]?=some D∧s.heap.get? a=some { cls:=.ref B.cls,data:=.seq vs.toArray n,dict:=some D }∧VRs B ρ s.heap xs vs∧s.heap.get? D=some oD∧
   InstAt s.heap a { cls:=.ref B.cls,data:=.seq vs.toArray n,dict:=some D } B.cls (some oD)∧
   lookIn "_initial_size" oD=some (some (.int k t))∧(∀name:Str,name≠"_initial_size"→lookIn name oD=some none):=by
 have hcell:=x.cells i c a hc ha
 rw[hd]at hcell
 obtain⟨vs,n,D,ho,hr,hD⟩:=hcell
 obtain⟨c',k,hc',hd'⟩:=sT hc hd hok
 have hins:=x.cells di c' D hc' hD
 rw[hd']at hins
 obtain⟨m,⟨oD,es,ep,hoD,hdD,hk,hm⟩,hl⟩:=hins
 have hany:es.toList.any (·.refKey)=false:=by
  rw[List.any_eq_false];intro e he;obtain⟨y,t,h⟩:=hk e (by simpa using he);simp[DictEntry.refKey,h]
 have look:∀name,lookIn name oD=some (m name):=fun name=>by
  rw[← hm name]
  unfold lookIn nsFind findBy
  rw[hdD]
  dsimp only
  rw[← Array.find?_toList]
  cases es.toList.find? (·.key.isStr name)with
  |some e=>rfl
  |none=>simp[hany]
 have h1:=hl "_initial_size"
 simp only[List.lookup_cons,beq_self_eq_true]at h1
 obtain⟨v,hv,t,rfl⟩:=h1
 refine⟨vs,n,D,oD,k,t,hD,ho,hr,hoD,⟨ho,rfl,rfl,hoD⟩,by rw[look,hv],fun name hne=>?_⟩
 have h2:=hl name
 have hb:(name==("_initial_size":Str))=false:=by simpa using hne
 simp only[List.lookup_cons,hb,List.lookup_nil]at h2
 rw[look,h2]
theorem iS:(Manifest.canonical "list.__getattribute__" !="object.__getattribute__")=false:=by decide+kernel
theorem rQ(x:St B ρ σ s){K:Frag}(hK:∀b o,K.lookup b=some o→B.h₀.get? b=some o∧b∉B.Tb){i di:Nat}{c:Cell}{xs:List PV}{a f:Addr}{name:Str}{pl:Sem Bool}{E:Value→Shared→Prop}{Q:Value×List Value→Shared→Prop}
  (hc:σ[i]?=some c) (hd:c.d=.acc di xs) (ha:ρ[i]?=some a) (hok:aI σ (.lst i)=true)
  (hga:findIn K (.ref B.cls) "__getattribute__"=some (some (.builtin "list.__getattribute__"))) (hk:findIn K (.ref B.cls) "__getattr__"=some none) (hf:findIn K (.ref B.cls) name=some (some (.ref f)))
  (ht:typeIn K (.ref f)=some (.type "function")) (hne:name≠"_initial_size") (h:Q (.ref f,[.ref a]) s):
  wpAny (model B.prog B.w) A (getMethod (.ref a) name pl) Q E s:=by
 obtain⟨vs,n,D,oD,k,t,hD,ho,hr,hoD,I,h1,h2⟩:=lG x hc hd ha hok
 have X:K.In s.heap:=fun b o e=>x.base b o (hK b o e).1 (hK b o e).2
 unfold getMethod specialOf
 refine wpAny_bind (wpAny_bind (I.type.here ((looks_findIn X hga).here ?_)))
 dsimp only
 rw[iS,if_neg (by decide)]
 refine wpAny_bind (wpAny_bind (I.type.here ((looks_findIn X hk).here ?_)))
 refine wpAny_bind (wpAny_bind (I.type.here ((looks_findIn X hf).here (wpAny_bind ((looks_typeIn X ht).here ?_)))))
 rw[if_neg (by decide+kernel)]
 refine wpAny_bind (wpAny_loadPart ho ?_)
 refine wpAny_bind (wpAny_bind (wpAny_loadPart hoD ?_))
 rw[nsLook_of (h2 name hne)]
 exact wpAny_pure (wpAny_bind (wpAny_rule (wpAny_pure h)))
end
section
variable {prog:Program}{w:World}{A:Around}{E:Value→Shared→Prop}{s:Shared}
theorem gP{owner n id:String}{b:Builtin}{self:Value}{rest:List Value}{Q:Value→Shared→Prop}
  (hsplit:splitId id=some (owner,n)) (hkind:(Manifest.find? owner).bind (·.attrs.lookup n)=some .slot∨(Manifest.find? owner).bind (·.attrs.lookup n)=some .method) (hq:plainId id=true)
  (hinst:∀(A:Around) (E:Value→Shared→Prop) (Q:Bool→Shared→Prop),Q true s→wpAny (model prog w) A (isInstance self (.type owner)) Q E s)
  (hb:entryFor table id=some b) (ha:argsOk id ⟨self::rest,[]⟩)
  (hc:wpAny (model prog w) A.in1 (b ⟨self::rest,[]⟩) (fun fin s'=>∃v,fin=.done (.ret v)∧Q v s') E s):wpAny (model prog w) A (call (.builtin id) (self::rest)) Q E s:=by
 have hk:builtinKind id=(Manifest.find? owner).bind (·.attrs.lookup n):=by simp only[builtinKind,hsplit]
 refine wpAny_call (codeAny_call_builtin hq hb ?_)
 have fin:wpAny (model prog w) A.in1 (b ⟨self::rest,[]⟩) _ _ s:=wpAny_mono hc (Q':=fun fin s'=>match fin with
   |.done f=>(match (Except.ok f:Result)with | .ok (.ret v)=>Q v s' | .ok _=>False | .error e=>E e s')
   |.again c'=>c'.quiet=true∧codeAny (model prog w) A c' (fun r s'=>match r with | .ok (.ret v)=>Q v s' | .ok _=>False | .error e=>E e s') s')
  (fun fin s' h'=>by obtain⟨v,rfl,hv⟩:=h';exact hv) fun _ _ h'=>h'
 rcases hkind with h | h<;>
 ·unfold checkBuiltinCall
  rw[hk,h,hsplit]
  dsimp only
  refine wpAny_bind (hinst _ _ _ ?_)
  refine if_f Bool.false_ne_true ?_
  cases hsig:Manifest.signature? id with
  |none=>exact wpAny_pure fin
  |some sig=>
   simp only[argsOk,hsig]at ha
   have h2:Bind.checkArgs id sig ⟨self::rest,[]⟩=pure ():=ha
   show wpAny _ A.in1 (Bind.checkArgs id sig ⟨self::rest,[]⟩) _ _ s
   rw[h2];exact wpAny_pure fin
end
section
variable {B:Bs}{A:Around}{ρ:List Addr}{σ:Sto}{s:Shared}
structure ClsOk (B:Bs) (K:Frag):Prop where
 at_:∀b o,K.lookup b=some o→B.h₀.get? b=some o∧b∉B.Tb
 ga:findIn K (.ref B.cls) "__getattribute__"=some (some (.builtin "list.__getattribute__"))
 gattr:findIn K (.ref B.cls) "__getattr__"=some none
 sub:mroIn K B.cls (.type "list")=some true
theorem ClsOk.in{K:Frag}(C:ClsOk B K)(x:St B ρ σ s):K.In s.heap:=fun b o e=>x.base b o (C.at_ b o e).1 (C.at_ b o e).2
theorem eU{K:Frag}(C:ClsOk B K)(x:St B ρ σ s){a:Addr}{o:Obj}(ho:s.heap.get? a=some o)(hc:o.cls=.ref B.cls){E:Value→Shared→Prop}{Q:Bool→Shared→Prop}(h:Q true s):
  wpAny (model B.prog B.w) A (isInstance (.ref a) (.type "list")) Q E s:=by
 unfold isInstance
 have hT:Looks (model B.prog B.w) s.heap (typeOf (.ref a)) (.ref B.cls):=hc▸(Looks.ld ho).andThen .now
 exact wpAny_bind (hT.here ((looks_mroIn (C.in x) C.sub).here h))
theorem pC{K:Frag}(C:ClsOk B K)(x:St B ρ σ s){i di:Nat}{c:Cell}{xs:List PV}{a:Addr}{name:Str}{id:String}{pl:Sem Bool}{E:Value→Shared→Prop}{Q:Value×List Value→Shared→Prop}
  (hc:σ[i]?=some c) (hd:c.d=.acc di xs) (ha:ρ[i]?=some a) (hok:aI σ (.lst i)=true)
  (hf:findIn K (.ref B.cls) name=some (some (.builtin id))) (hty:typeOf (.builtin id)=pure (.type "method_descriptor")) (hne:name≠"_initial_size") (h:Q (.builtin id,[.ref a]) s):
  wpAny (model B.prog B.w) A (getMethod (.ref a) name pl) Q E s:=by
 obtain⟨vs,n,D,oD,k,t,hD,ho,hr,hoD,I,h1,h2⟩:=lG x hc hd ha hok
 have X:=C.in x
 unfold getMethod specialOf
 refine wpAny_bind (wpAny_bind (I.type.here ((looks_findIn X C.ga).here ?_)))
 dsimp only
 rw[iS,if_neg (by decide)]
 refine wpAny_bind (wpAny_bind (I.type.here ((looks_findIn X C.gattr).here ?_)))
 refine wpAny_bind (wpAny_bind (I.type.here ((looks_findIn X hf).here (wpAny_bind (wpAny_of_eq hty ?_)))))
 rw[if_neg (by decide+kernel)]
 refine wpAny_bind (wpAny_loadPart ho ?_)
 refine wpAny_bind (wpAny_bind (wpAny_loadPart hoD ?_))
 rw[nsLook_of (h2 name hne)]
 exact wpAny_pure (wpAny_bind (wpAny_rule (wpAny_pure h)))
noncomputable def kS:Fn:=fun args σ=>two args fun a v=>eS a fun i=>opt σ[i]? fun c=>rR c.d fun di xs=>grd (xs.length≤10000) (some (.none,aC σ i (.acc di (xs++[v]))))
theorem aH0(ok:BsOk B){K:Frag}(C:ClsOk B K){k:Nat}:FnOk B k (.builtin "list.append") kS where
 able:=bR _
 run:=fun A ρ σ s args vals v σ' R x r h=>Ok.intro fun Q q=>by
  obtain⟨a0,u,e1,i1⟩:=eW h
  obtain⟨i,e2,i2⟩:=cR i1
  obtain⟨c,hc,i3⟩:=aA i2
  obtain⟨di,xs,hd,i4⟩:=eO i3
  obtain⟨hlen,i5⟩:=grd_some i4
  obtain⟨rfl,rfl⟩:=Prod.mk.inj (Option.some.inj i5)
  subst e1 e2
  obtain⟨_,_,rfl,⟨a,rfl,ha⟩,va,_,rfl,r2,r3⟩:=r
  rw[show _=[]from r3]
  have hcell:=x.cells i c a hc ha
  rw[hd]at hcell
  obtain⟨vs,n,D,ho,hr,hD⟩:=hcell
  have hl:vs.toArray.size≤10000:=by rw[List.size_toArray,hr.length];exact hlen
  refine gP (owner:="list") (n:="append") (by decide+kernel) (by first | exact .inl (by decide+kernel) | exact .inr (by decide+kernel)) (by decide+kernel) (fun A E Q q=>eU C x ho rfl q) entry_list_append (args_list_append _ _) ?_
  show wpAny _ _ (updateSeq a (·.push va) >>= fun _=>ret .none) _ _ s
  refine wpAny_bind ?_
  refine wpAny_updateSeq ho rfl (wpAny_pure ⟨.none,rfl,?_⟩) (Nat.le_trans hl (by decide)) (by rw[Array.size_push];exact Nat.le_trans (Nat.succ_le_succ hl) (by decide))
  have ho':(s.heap.update a (Obj.mapSeq (·.push va))).get? a=some { cls:=.ref B.cls,data:=.seq (vs++[va]).toArray (n+1),dict:=some D }:=by
   rw[Heap.get?_update_self _ ho (by simp[Obj.mapSeq,Obj.isFreed])]
   simp[Obj.mapSeq]
  obtain⟨x',e'⟩:=x.set ok (s':={ s with heap:=s.heap.update a (Obj.mapSeq (·.push va)) }) (d:=.acc di (xs++[u])) rfl rfl ha (fun b o hb ho=>(Heap.get?_update_other _ _ (Ne.symm hb)).trans ho)
   (fun σ' e=>⟨vs++[va],n+1,D,ho',VRs.append (VRs.evo e _ hr) ⟨va,[],rfl,VR.evo e _ r2,rfl⟩,hD⟩) ⟨_,ho',fun vs h=>by cases h⟩
  exact q _ _ ρ x' e' rfl
end
noncomputable def aheadP(P:Nat→Value→Prop):Nat→Value→Prop
 |0,_=>False
 |j+1,v=>P j v
noncomputable def mY(k:Int)(val:Nat→Int):Nat→Int
 |0=>k
 |j+1=>val j
noncomputable def aheadS(St:Nat→Shared→Prop):Nat→Shared→Prop
 |0,_=>False
 |j+1,s=>St j s
theorem WalksS.ahead{prog:Program}{w:World}{A:Around}{I:Addr}{fp wr:List Addr}{G:Array GenState→Array GenState→Prop}{n:Nat}{P:Nat→Value→Prop}{St:Nat→Shared→Prop}
  (W:WalksS prog w A I fp wr G n P St):WalksS prog w A I fp wr G (n+1) (aheadP P) (aheadS St) where
 sub:=W.sub
 grefl:=W.grefl
 gtrans:=W.gtrans
 frame:=fun i s h' tk st ht hk=>by
  cases i with
  |zero=>exact st
  |succ j=>exact W.frame j s h' tk st ht hk
 item:=fun i s Q E hi st hQ=>by
  cases i with
  |zero=>exact st.elim
  |succ j=>exact W.item j s Q E (by lia) st fun v s' hP hst hm=>hQ v s' hP hst hm
 done:=fun s Q E st hQ=>W.done s Q E st hQ
 self:=fun i s Q E st hQ=>by
  cases i with
  |zero=>exact st.elim
  |succ j=>exact W.self j s Q E st hQ
theorem kT(k:Int)(val:Nat→Int):∀n,preSum (mY k val) (n+1)=k+preSum val n
 |0=>by simp[preSum,mY]
 |n+1=>by
  rw[preSum,kT k val n]
  simp[preSum,mY,Int.add_assoc]
theorem hJ0(a b:Value):argsOk "sum" ⟨[a,b],[]⟩:=by unfold argsOk;kernel_rfl
section
variable {prog:Program}{w:World}{A:Around}{E:Value→Shared→Prop}{s:Shared}
theorem lR0{x:Value}{k:Int}{t:Tok}{Q:Value→Shared→Prop}(hk:0≤k∧k < 1000)
  (h:wpAny (model prog w) A.in1 (pyIter x) (fun it s₂=>∃I fp wr G n P St val,it=.ref I∧WalksS prog w A.in1 I fp wr G n P St∧St 0 s₂∧(∀b∈fp,b < s₂.heap.objs.size)∧
   (∀i v,P i v→∃t,v=.int (val i) t)∧
   ∀s' t',Moved wr G s₂ s'→Q (.int (k+preSum val n) t') s') E s):
  wpAny (model prog w) A (call (.builtin "sum") [x,.int k t]) Q E s:=by
 refine call_function_tree F.kind_sum F.plain_sum F.entry_sum (hJ0 _ _) ?_
 unfold Builtin.«sum»
 refine if_f (Nat.lt_irrefl 2) ?_
 refine wpAny_bind (wpAny_of_eq (show Builtin.Builtins.bindParams "sum" ["start"] 0 ⟨[.int k t],[]⟩=pure [some (.int k t)]from rfl) ?_)
 refine wpAny_bind (wpAny_mono h (fun it s₂ h₂=>?_) fun _ _ e=>e)
 obtain⟨I,fp,wr,G,n,P,St,val,rfl,W,hst,hfp,hval,hQ⟩:=h₂
 show wpAny _ _ (if (decide (-(2 ^ 63:Int)≤k)&&decide (k < 2 ^ 63))=true then _ else _) _ _ _
 rw[if_pos (by simp -iota;lia)]
 refine wpAny_bind (wpAny_rule (wpAny_bind (wpAny_mkInt ?_)))
 refine wpAny_bind (wpAny_pure ?_)
 simp -iota only[List.forIn_cons,List.forIn_nil]
 refine wpAny_bind (wpAny_bind (wpAny_bind (wpAny_isInstance (T:="int") (b:=false) (typeIs_int _ _ _) PySem.sub_int_str ?_)))
 refine if_f Bool.false_ne_true ?_
 refine wpAny_pure (wpAny_bind (wpAny_bind (wpAny_isInstance (T:="int") (b:=false) (typeIs_int _ _ _) PySem.sub_int_bytes ?_)))
 refine if_f Bool.false_ne_true ?_
 refine wpAny_pure (wpAny_bind (wpAny_bind (wpAny_isInstance (T:="int") (b:=false) (typeIs_int _ _ _) PySem.sub_int_bytearray ?_)))
 refine if_f Bool.false_ne_true ?_
 refine wpAny_pure (wpAny_pure ?_)
 refine wpAny_bind (wpAny_newObj_type ?_)
 have hSf:s₂.heap.objs.size∉fp:=fun hm=>Nat.lt_irrefl _ (hfp _ hm)
 have W':=WalksS.ahead W
 have hv':∀i v,aheadP P i v→∃t,v=.int (mY k val i) t:=fun i v hp=>by
  cases i with
  |zero=>exact hp.elim
  |succ j=>exact hval j v hp
 have e1:preSum (mY k val) 1=k:=by simp[preSum,mY]
 refine wpAny_pure ⟨plainId_quiet F.plain_sum_loop _,codeAny_sum_loopAnyS W' _ hv' s₂.heap.objs.size hSf n 1 _ s₂.toks 0 0 (.inl rfl) (by lia) (by lia)
  (W.frame 0 s₂ _ _ hst (by first | exact Nat.le_refl _ | exact Nat.le_succ _ | lia) fun b _ o e=>Heap.get?_push_of_some _ e) (by rw[e1];exact Heap.get?_push_size _ rfl) fun s' t' hm=>?_⟩
 rw[kT]
 exact hQ s' t' (hm.drop_new (by first | exact Nat.le_refl _ | exact Nat.le_succ _ | lia))
end
section
variable {B:Bs}{A:Around}{ρ:List Addr}{σ:Sto}{s:Shared}
theorem kD{o:Obj}{a:Addr}{h:Heap}{C:Addr}{M:Model}(ho:h.get? a=some o)(hc:o.cls=.ref C):Looks M h (typeOf (.ref a)) (.ref C):=hc▸(Looks.ld ho).andThen .now
theorem bF0{K:Frag}(C:ClsOk B K)(hf:findIn K (.ref B.cls) "__iter__"=some (some (.builtin "list.__iter__")))(x:St B ρ σ s){a:Addr}{o:Obj}(ho:s.heap.get? a=some o)(hc:o.cls=.ref B.cls)
  {E:Value→Shared→Prop} {Q:Value→Shared→Prop}
  (hQ:Q (.ref s.heap.objs.size) { s with heap:=s.heap.push { cls:=.type "list_iterator",data:=.fields #[.ref a,.int 0 0] } }):
  wpAny (model B.prog B.w) A (pyIter (.ref a)) Q E s:=by
 have X:=C.in x
 have hcall:∀Q':Value→Shared→Prop,Q' (.ref s.heap.objs.size) { s with heap:=s.heap.push { cls:=.type "list_iterator",data:=.fields #[.ref a,.int 0 0] } }→
   wpAny (model B.prog B.w) A (call (.builtin "list.__iter__") [.ref a]) Q' E s:=fun Q' h=>by
  refine gP (owner:="list") (n:="__iter__") (by decide+kernel) (by first | exact .inl (by decide+kernel) | exact .inr (by decide+kernel)) (by decide+kernel) (fun A E Q q=>eU C x ho hc q) entry_list_iter (args_list_iter _) ?_
  show wpAny _ _ (do ret (← newFields "list_iterator" [.ref a,rawInt 0])) _ _ s
  exact wpAny_bind (wpAny_newObj_type (wpAny_pure ⟨_,rfl,h⟩))
 have sp:∀{Q':Option Value→Shared→Prop},Q' (some (.builtin "list.__iter__")) s→wpAny (model B.prog B.w) A (specialOf (.ref a) "__iter__") Q' E s:=fun h=>wpAny_bind ((kD ho hc).here ((looks_findIn X hf).here h))
 unfold pyIter
 refine wpAny_bind (sp ?_)
 show wpAny _ A (callSpecialIfBoundUnlessNone? (.ref a) "__iter__" _ >>= _) Q E s
 have nxt:∀Q':Value→Shared→Prop,Q' (.ref s.heap.objs.size) { s with heap:=s.heap.push { cls:=.type "list_iterator",data:=.fields #[.ref a,.int 0 0] } }→
   wpAny (model B.prog B.w) A (specialOf (.ref s.heap.objs.size) "__next__" >>= fun r=>match r with
    |none=>do rule "iter.non-iterator";raiseError "TypeError" s!"iter() returned non-iterator of type '{← typeNameOf (.ref s.heap.objs.size)}'"
    |some _=>pure (.ref s.heap.objs.size)) Q' E { s with heap:=s.heap.push { cls:=.type "list_iterator",data:=.fields #[.ref a,.int 0 0] } }:=fun Q' h=>wpAny_bind (wpAny_specialOf (T:="list_iterator") ⟨_,Heap.get?_push_size _ rfl,rfl⟩ slot_listiter_next.lookup (wpAny_pure h))
 refine wpAny_bind ?_
 simp -iota only[callSpecialIfBoundUnlessNone?,bindSpecialIfBound?]
 refine wpAny_holding (wpAny_bind (wpAny_bind (sp ?_)))
 simp only[slot_list_iter.bind]
 refine wpAny_bind (wpAny_askSetting (wpAny_ite ?_))
 have fin:∀(Q':Option Value→Shared→Prop) (refuse:Sem Value),Q' (some (.ref s.heap.objs.size)) { s with heap:=s.heap.push { cls:=.type "list_iterator",data:=.fields #[.ref a,.int 0 0] } }→
   wpAny (model B.prog B.w) A (if (Value.builtin "list.__iter__"==Value.none)=true then (refuse >>= fun v=>pure (some v)) else (call (.builtin "list.__iter__") [.ref a] >>= fun v=>pure (some v))) Q' E s:=fun Q' refuse h=>by
  simp -iota only[builtin_beq_none,Bool.false_eq_true,if_false]
  exact wpAny_bind (hcall _ (wpAny_pure h))
 split
 ·exact wpAny_bind (wpAny_pure (wpAny_pure (fin _ _ (nxt _ hQ))))
 ·exact wpAny_tryCatch (wpAny_bind (wpAny_pure (wpAny_pure (fin _ _ (nxt _ hQ)))))
end
noncomputable def SeqAt(h:Heap)(a:Addr)(items:Array Value):Prop:=∃o,h.get? a=some o∧∃n,o.data=.seq items n
theorem SeqAt.at{h h':Heap}{a:Addr}{items:Array Value}(x:SeqAt h a items)(e:∀o,h.get? a=some o→h'.get? a=some o):SeqAt h' a items:=let ⟨o,ho,r⟩:=x;⟨o,e o ho,r⟩
section
variable {prog:Program}{w:World}{A:Around}{E:Value→Shared→Prop}{s:Shared}
theorem uG{it l:Addr}{i:Nat}{items:Array Value}{x:Value}{Q:Option Value→Shared→Prop}(hit:s.heap.IsListIter it l i)(hl:SeqAt s.heap l items)(hx:items[i]?=some x)
  (hQ:∀h',h'.IsListIter it l (i+1)→Heap.SameBut it s.heap h'→Q (some x) { s with heap:=h' }):wpAny (model prog w) A (pyNext (.ref it)) Q E s:=by
 obtain⟨o,ho,hc,hd⟩:=id hit
 obtain⟨ol,hol,nl,hdl⟩:=hl
 unfold pyNext
 refine wpAny_bind (wpAny_attempt (wpAny_callSpecial?_slot (name:=Str.ofString "__next__") hit.typeIs slot_listiter_next (wpAny_call_entry slot_listiter_next hit.typeIs entry_listiter_next ?_ (args_listiter_next _))))
 show wpAny _ _ (field (.ref it) 0 >>= _) _ _ s
 refine wpAny_bind (wpAny_field ho hd (x:=.ref l) rfl ?_)
 show wpAny _ _ (if (Value.ref l==Value.none)=true then _ else _) _ _ s
 rw[if_neg (show ¬ ((Value.ref l==Value.none)=true) from Bool.false_ne_true)]
 show wpAny _ _ (field (.ref it) 1 >>= _) _ _ s
 refine wpAny_bind (wpAny_field ho hd (x:=.int i 0) rfl ?_)
 show wpAny _ _ (seqItems? (.ref l) >>= _) _ _ s
 refine wpAny_bind (wpAny_seqItems hol hdl ?_)
 simp only[Int.toNat_natCast,hx]
 refine wpAny_bind (wpAny_setField ho hd (by simp -iota) (wpAny_pure ⟨x,rfl,wpAny_pure (hQ _ ?_ (Heap.SameBut.update ..))⟩))
 exact⟨_,Heap.get?_update_self _ ho (Obj.isFreed_of_fields (Obj.data_mapFields hd _)),(Obj.cls_mapFields ..).trans hc,by
  rw[Obj.data_mapFields hd];simp -iota [rawInt]⟩
theorem vZ{it l:Addr}{i:Nat}{items:Array Value}{Q:Option Value→Shared→Prop}(hh:A.handled=none)(hit:s.heap.IsListIter it l i)(hl:SeqAt s.heap l items)(hx:items[i]?=none)
  (hQ:∀h',Heap.ExtBut it s.heap h'→Q none { s with heap:=h' }):wpAny (model prog w) A (pyNext (.ref it)) Q E s:=by
 obtain⟨o,ho,hc,hd⟩:=id hit
 obtain⟨ol,hol,nl,hdl⟩:=hl
 unfold pyNext
 refine wpAny_bind (wpAny_attempt (wpAny_callSpecial?_slot (name:=Str.ofString "__next__") hit.typeIs slot_listiter_next (wpAny_call_entry slot_listiter_next hit.typeIs entry_listiter_next ?_ (args_listiter_next _))))
 show wpAny _ _ (field (.ref it) 0 >>= _) _ _ s
 refine wpAny_bind (wpAny_field ho hd (x:=.ref l) rfl ?_)
 show wpAny _ _ (if (Value.ref l==Value.none)=true then _ else _) _ _ s
 rw[if_neg (show ¬ ((Value.ref l==Value.none)=true) from Bool.false_ne_true)]
 show wpAny _ _ (field (.ref it) 1 >>= _) _ _ s
 refine wpAny_bind (wpAny_field ho hd (x:=.int i 0) rfl ?_)
 show wpAny _ _ (seqItems? (.ref l) >>= _) _ _ s
 refine wpAny_bind (wpAny_seqItems hol hdl ?_)
 simp only[Int.toNat_natCast,hx]
 refine wpAny_bind (wpAny_rule (wpAny_bind (wpAny_setField ho hd (by simp -iota) ?_)))
 show wpAny _ _ (newExc (.type "StopIteration") [] >>= _) _ _ _
 refine wpAny_bind ?_
 simp -iota only[newExc,newTuple]
 refine wpAny_bind (wpAny_newObj_type ?_ (by size_fits))
 refine wpAny_bind (m:=firstArgMember _ _) (wpAny_of_eq (a:=Value.none) (by first | rfl | (simp -iota only[firstArgMember];rfl)) ?_)
 refine wpAny_newObj_type ?_ (by size_fits)
 simp -iota only[raiseNew]
 refine wpAny_bind (wpAny_handled ?_)
 rw[show A.in1.handled=none from hh]
 refine wpAny_bind (wpAny_pure (wpAny_throw ?_))
 refine wpAny_bind (wpAny_isInstance (T:="StopIteration") (b:=true) ⟨_,Heap.get?_push_size _ rfl,rfl⟩ isSubtype_stop ?_)
 exact wpAny_pure (hQ _ (((Heap.SameBut.update ..).extBut.push _).push _))
theorem cD0(hh:A.handled=none)(I ax:Addr)(hne:ax≠I)(items:Array Value)(Ts:Nat→Addr)(vals:Nat→Array Value)
  (hit:∀j,j < items.size→items[j]?=some (.ref (Ts j))) (hTI:∀j,j < items.size→Ts j≠I):
  WalksU prog w A I (I::ax::(List.range items.size).map Ts) [I] items.size (fun j v=>v=vals j)
   (fun j h=>h.IsListIter I ax j∧SeqAt h ax items∧∀k,k < items.size→h.IsTuple (Ts k) (vals k))
   (fun j T h=>(j < items.size∧T=Ts j)∧h.IsListIter I ax (j+1)∧SeqAt h ax items∧∀k,k < items.size→h.IsTuple (Ts k) (vals k)) where
 sub:=fun b hb=>by simp -iota at hb;simp -iota [hb]
 frame:=fun _ _ _ st hk=>⟨st.1.at fun o e=>hk I (by simp -iota) o e,st.2.1.at fun o e=>hk ax (by simp -iota) o e,fun k hk'=>(st.2.2 k hk').at fun o e=>hk (Ts k) (List.mem_cons_of_mem _ (List.mem_cons_of_mem _ (List.mem_map.mpr ⟨k,List.mem_range.mpr hk',rfl⟩))) o e⟩
 item:=fun i s Q E hi st hQ=>by
  refine uG st.1 st.2.1 (x:=.ref (Ts i)) (hit i hi) fun h' hit' hs'=>?_
  have tup:∀k,k < items.size→h'.IsTuple (Ts k) (vals k):=fun k hk'=>(st.2.2 k hk').extBut hs'.extBut (hTI k hk')
  exact hQ (Ts i) (vals i) h' s.toks rfl (tup i hi) ⟨⟨hi,rfl⟩,hit',st.2.1.at fun o e=>hs'.extBut _ o hne e,tup⟩ fun b o hb e=>hs'.extBut b o (fun h=>hb (by simp -iota [h])) e
 go:=fun _ _ _ _ _ s Q _ hm hQ=>wpAny_letOwnedTupleGo_listiter hm.2.1 (hQ s.heap hm.2 fun _ _ _ e=>e)
 apart:=fun j T _ hm hmem=>by
  rcases List.mem_cons.mp hmem with e | e
  ·exact hTI j hm.1.1 (hm.1.2▸e)
  ·cases e
 done:=fun s Q E st hQ=>vZ hh st.1 st.2.1 (by simp -iota) fun h' he'=>hQ h' s.toks fun b o hb e=>he' b o (fun h=>hb (by simp -iota [h])) e
 self:=fun _ _ _ _ st hQ=>wpAny_pyIter_listiter st.1 hQ
end
section
variable {prog:Program}{w:World}{A:Around}{E:Value→Shared→Prop}{s:Shared}
structure GF (env:Env) (h:Heap) (m mg mb:Str→Option Value):Prop where
 kind:env.scope.kind=.function
 loc:h.Ns env.locals m
 glob:h.Ns env.globals mg
 bt:h.Ns env.builtins mb
theorem GF.keeps{env:Env}{h h':Heap}{m mg mb}(f:GF env h m mg mb)(hk:∀b o,h.get? b=some o→h'.get? b=some o):GF env h' m mg mb:=⟨f.kind,f.loc.keeps hk,f.glob.keeps hk,f.bt.keeps hk⟩
theorem pZ{env:Env}{x:Str}{v:Value}{p:Pos}{m mg mb}{Q:Value→Shared→Prop}(f:GF env s.heap m mg mb)(hk:env.kindOf x=some .local)(hm:m x=some v)(hd:(x==("__debug__":Str))=false)(h:Q v s):
  wpAny (model prog w) A (eval (.Name x p) env) Q E s:=wpAny_Name (wpAny_loadName_local f.kind hk f.loc hm h) hd
theorem cV0{env:Env}{x t:Str}{u:Tok}{p₁ p₂ pos:Pos}{m mg mb}{Q:Value→Shared→Prop}(f:GF env s.heap m mg mb)(hl:env.kindOf "len"=some .globalImplicit)(hk:env.kindOf x=some .local)
  (hm:m x=some (.str t u)) (hd:(x==("__debug__":Str))=false) (hne:∀y p,Expr.Name x p₂≠ .Starred y p) (hg:mg "len"=none) (hb:mb "len"=some (.builtin "len")) (ht:t.length≤1000000)
  (h:∀k tk,Q (.int t.length k) { s with toks:=tk }):wpAny (model prog w) A (eval (.Call (.Name "len" p₁) [.Name x p₂] [] pos) env) Q E s:=by
 refine wpAny_Call_NameR (Calls.Name_function_global f.kind hl (Calls.loadGlobal_builtin f.glob hg f.bt hb ?_) (by decide))
 rw[cA (by intro e he;simp at he;subst he;exact hne)]
 refine aQ (Calls.spliced_cons (pZ f hk hm hd (Calls.spliced_nil ?_)))
 show wpAny _ _ (call (.builtin "len") [.str t u]) _ _ _
 exact P.len_str (by lia) (h _ _)
theorem jA0{env:Env}{x y t t':Str}{u u':Tok}{p₁ p₂ p₃ q₁ q₂ q₃ pos:Pos}{m mg mb}{Q:Value→Shared→Prop}(f:GF env s.heap m mg mb)(hl:env.kindOf "len"=some .globalImplicit)(hx:env.kindOf x=some .local)(hy:env.kindOf y=some .local)
  (hmx:m x=some (.str t u)) (hmy:m y=some (.str t' u')) (hdx:(x==("__debug__":Str))=false) (hdy:(y==("__debug__":Str))=false) (hg:mg "len"=none) (hb:mb "len"=some (.builtin "len"))
  (ht:t.length≤1000000) (ht':t'.length≤1000000) (h:∀k tk,Q (.int ((t.length:Int)+t'.length) k) { s with toks:=tk }):
  wpAny (model prog w) A (eval (.BinOp (.Call (.Name "len" p₁) [.Name x p₂] [] p₃) .Add (.Call (.Name "len" q₁) [.Name y q₂] [] q₃) pos) env) Q E s:=by
 refine wpAny_BinOp (cV0 f hl hx hmx hdx (by intro y p;exact nofun) hg hb ht fun k tk=>cV0 (f.keeps fun _ _ e=>e) hl hy hmy hdy (by intro y p;exact nofun) hg hb ht' fun k' tk'=>?_)
 exact add_int (h _ _)
theorem gen_elt2{env:Env}{x y t t':Str}{u u' ue:Tok}{p₀ p₁ p₂ p₃ p₄ pos:Pos}{kk:Nat}{m mg mb}{Q:Value→Shared→Prop}(f:GF env s.heap m mg mb)(hl:env.kindOf "EMPTYSTRING"=some .globalImplicit)(hx:env.kindOf x=some .local)(hy:env.kindOf y=some .local)
  (hmx:m x=some (.str t u)) (hmy:m y=some (.str t' u')) (hdx:(x==("__debug__":Str))=false) (hdy:(y==("__debug__":Str))=false) (hg:mg "EMPTYSTRING"=some (.str "" ue))
  (hline:(p₁.endLine==pos.line)=true) (ht:t.length+t'.length≤1000000)
  (h:∀k h' tk,(∀b o,s.heap.get? b=some o→h'.get? b=some o)→Q (.str (Txt.join "" [t,t']) k) { s with heap:=h',toks:=tk }):
  wpAny (model prog w) A (eval (.Call (.Attribute (.Name "EMPTYSTRING" p₀) "join" p₁) [.Tuple [.Name x p₂,.Name y p₃] kk p₄] [] pos) env) Q E s:=by
 refine bJ rfl (by simp) hline (by intro e he;simp at he;subst he;exact nofun) (Calls.Name_function_global f.kind hl (Calls.loadGlobal_global f.glob hg fun pl=>?_) (by decide))
 refine qL _ _ _ _ _ _ _ _ (aQ (Calls.spliced_cons (wpAny_Tuple ?_)))
 rw[cA (by intro e he;simp at he;rcases he with rfl | rfl<;>exact nofun)]
 refine Calls.spliced_cons (pZ f hx hmx hdx (Calls.spliced_cons (pZ f hy hmy hdy (Calls.spliced_nil ⟨by show 2≤16777216;lia,Calls.spliced_nil ?_⟩))))
 show wpAny _ _ (call (.builtin "str.join") [.str "" ue,.ref s.heap.objs.size]) _ _ _
 refine join_tupleW (items:=#[.str t u,.str t' u']) (ys:=[t,t']) ⟨_,Heap.get?_push_size _ rfl,rfl,_,rfl⟩ (.cons _ _ (.cons _ _ .nil)) (by decide) (by simp;lia) fun k tk=>?_
 exact h k _ _ fun b o e=>Heap.get?_push_of_some _ e
end
structure CodesOk (B:Bs) (codes:List (Addr×Addr)):Prop where
 inv:∀h,B.inv h↔∀cp∈codes,∃ps,h.IsCode cp.1 cp.2 ps∧h.TableAt cp.1 cp.2 ps
 tb:∀a,a∈B.Tb↔∃c,(c,a)∈codes
 off:∀cp∈codes,cp.1∉B.Tb
 lim:B.h₀.NoLimit
 stat:cStatics∉B.Tb
theorem CodesOk.ok{B:Bs}{codes:List (Addr×Addr)}(C:CodesOk B codes):BsOk B where
 tb:=fun h hi a ha=>by
  obtain⟨c,hc⟩:=(C.tb a).mp ha
  obtain⟨ps,_,ht⟩:=(C.inv h).mp hi _ hc
  exact⟨_,ht.2⟩
 lim:=C.lim
 stat:=C.stat
 inv:=fun h h' hi hk hc=>(C.inv h').mpr fun cp hcp=>by
  obtain⟨ps,⟨o,vs,file,tf,flags,tg,inF,text,tt,op,g1,g2,r1,r2,r3,r4,r5,g3,r⟩,⟨o',vs',t1,t2,t3,t4⟩,t5⟩:=(C.inv h).mp hi cp hcp
  have hc':=hc cp.1 o' vs' t1 t2 t3
  have hp:=hk cp.2 ((C.tb cp.2).mpr ⟨cp.1,hcp⟩)
  have e:o=o':=by rw[g1]at t1;exact Option.some.inj t1
  exact⟨ps,⟨o,vs,file,tf,flags,tg,inF,text,tt,op,e▸hc',g2,r1,r2,r3,r4,r5,hp _ g3,r⟩,⟨o',vs',hc',t2,t3,t4⟩,hp _ t5⟩
theorem CodesOk.grown{B:Bs}{codes:List (Addr×Addr)}(C:CodesOk B codes){h h':Heap}(hi:B.inv h){c P:Addr}(hcp:(c,P)∈codes)(hone:∀c',(c',P)∈codes→c'=c)
  (hk:∀b o,b≠P→h.get? b=some o→h'.get? b=some o) (hn:∃ps,h'.IsCode c P ps∧h'.TableAt c P ps):B.inv h':=(C.inv h').mpr fun cp hm=>by
 by_cases hP:cp.2=P
 ·obtain⟨c',P'⟩:=cp
  dsimp only at hP
  subst hP
  rw[hone c' hm]
  exact hn
 ·obtain⟨ps,h1,h2⟩:=(C.inv h).mp hi cp hm
  have hc:cp.1≠P:=fun e=>C.off cp hm (e▸(C.tb P).mpr ⟨c,hcp⟩)
  exact⟨ps,h1.extBut (fun b o hb e=>hk b o hb e) hc hP,h2.extBut (fun b o hb e=>hk b o hb e) hc hP⟩
theorem St.regrow{B:Bs}{ρ:List Addr}{σ:Sto}{s s':Shared}(x:St B ρ σ s){P:Addr}(hP:P∈B.Tb)(hos:s'.os=s.os)(hg:AllBare s'.gens)
  (hk:∀b o,b≠P→s.heap.get? b=some o→s'.heap.get? b=some o) (hal:∃o,s'.heap.get? P=some o) (hinv:B.inv s'.heap):St B ρ σ s'∧Evo B [] ρ σ s.heap ρ σ s'.heap:=by
 have ev:Evo B [] ρ σ s.heap ρ σ s'.heap:=⟨⟨fun a o ho=>by
   by_cases ha:a=P
   ·exact ha▸hal
   ·exact⟨o,hk a o ha ho⟩,fun a o ho _ ht _=>hk a o (fun e=>ht (e▸hP)) ho⟩,⟨[],by simp,by simp⟩,fun i c hc=>⟨c,hc,Nat.le_refl _,fun _=>⟨rfl,fun a ha o ho=>hk a o (fun e=>x.off a (List.mem_of_getElem? ha) (e▸hP)) ho⟩⟩⟩
 exact⟨⟨hos.trans x.os,hg,fun a o ho ht=>hk a o (fun e=>ht (e▸hP)) (x.base a o ho ht),x.len,x.nodup,x.fresh,x.off,fun i c a hc ha=>CR.vk ev.vk c.d (fun o ho=>hk a o (fun e=>x.off a (List.mem_of_getElem? ha) (e▸hP)) ho) (x.cells i c a hc ha),hinv⟩,ev⟩
theorem WalksS.imp{prog:Program}{w:World}{A:Around}{I:Addr}{fp wr:List Addr}{G:Array GenState→Array GenState→Prop}{n:Nat}{P P':Nat→Value→Prop}{St:Nat→Shared→Prop}
  (W:WalksS prog w A I fp wr G n P St) (h:∀i v,P i v→P' i v):WalksS prog w A I fp wr G n P' St where
 sub:=W.sub
 grefl:=W.grefl
 gtrans:=W.gtrans
 frame:=W.frame
 item:=fun i s Q E hi st hQ=>W.item i s Q E hi st fun v s' hP hst hm=>hQ v s' (h _ _ hP) hst hm
 done:=W.done
 self:=W.self
section
variable {B:Bs}{A:Around}{ρ:List Addr}{σ:Sto}{s:Shared}{E:Value→Shared→Prop}
structure Made (B:Bs) (A:Around) (ρ:List Addr) (σ:Sto) (s:Shared) (g n:Nat) (F:Nat→Value→Prop) (s₅:Shared):Prop where
 walk:∃fp wr G St',WalksS B.prog B.w A.in4 g fp wr G n F St'∧St' 0 s₅∧(∀b∈fp,b < s₅.heap.objs.size)∧g∈fp∧(∀i s',St' i s'→s'.TypeIs (.ref g) "generator")∧
  ∀s',Moved wr G s₅ s'→∀tk,St B ρ σ { s' with toks:=tk }∧Evo B [] ρ σ s.heap ρ σ s'.heap
theorem dS0{codes:List (Addr×Addr)}(CO:CodesOk B codes){K:Frag}(CL:ClsOk B K)(hiter:findIn K (.ref B.cls) "__iter__"=some (some (.builtin "list.__iter__"))){k:Nat}(R:Room k A)(x:St B ρ σ s)
  {mg:Str→Option Value} {bm:Addr} {ob:Obj} (BM:BMod B.h₀ mainNs mg bm ob) (hgt:mainNs∉B.Tb) (hbt:bm∉B.Tb)
  {c P:Addr} (hcp:(c,P)∈codes) (hone:∀c',(c',P)∈codes→c'=c)
  {env:Env} (hcode:env.code=.ref c) (hglob:env.globals=mainNs)
  {elt iter:Expr} {xa xb:Str} {pa pb pt:Pos} {kt:Nat} {scope:Scope} {pos:Pos}
  (hco:scope.isCoroutine=false) (hclos:closureFor scope env=pure []) (hcell:∀y∈scope.names,y.2≠ .cell) (h0:scope.names.lookup (".0":Str)=some NameKind.local)
  (hxa:scope.names.lookup xa=some .local) (hxb:scope.names.lookup xb=some .local) (hab:xa≠xb) (hkind:scope.kind=.function) (hs:∀v,genFold iter env v=pure v)
  {a:Addr} {o:Obj} {items:Array Value} {nn:Nat} (ho:s.heap.get? a=some o) (hcls:o.cls=.ref B.cls) (hdata:o.data=.seq items nn) (haT:a∉B.Tb)
  {Ts:Nat→Addr} {va vb:Nat→Value} (hT:∀j,j < items.size→items[j]?=some (.ref (Ts j))∧s.heap.IsTuple (Ts j) #[va j,vb j]∧Ts j∉B.Tb)
  (heval:∀Q',Q' (.ref a) s→wpAny (model B.prog B.w) A (eval iter env) Q' E s)
  {F:Nat→Value→Prop}
  (helt:∀(A':Around) E' i (C:Addr) (code:Value) (s₂:Shared) m₂,A'.handled=none→A'.depth≤A.depth+1→A'.units≤A.units+8→i < items.size→s₂.heap.Ns C m₂→m₂ xa=some (va i)→m₂ xb=some (vb i)→
   (∀b o,b∉B.Tb→s.heap.get? b=some o→s₂.heap.get? b=some o)→wpAny (model B.prog B.w) A' (eval elt (genEnv scope [] C code builtinsNs env)) (fun y s₃=>F i y∧Keeps s₂ s₃) E' s₂)
  {Q:Value→Shared→Prop} (hQ:∀g s₅,Made B A ρ σ s g items.size F s₅→Q (.ref g) s₅):
  wpAny (model B.prog B.w) A (eval (.GeneratorExp elt [⟨.Tuple [.Name xa pa,.Name xb pb] kt pt,iter,[],0⟩] scope pos) env) Q E s:=by
 have hPT:P∈B.Tb:=(CO.tb P).mpr ⟨c,hcp⟩
 have ok:=CO.ok
 obtain⟨ps,hcd,htb⟩:=(CO.inv _).mp x.inv _ hcp
 have halt:a < s.heap.objs.size:=Heap.lt_size ho
 have hPlt:P < s.heap.objs.size:=Heap.lt_size htb.2
 have hTlt:∀j,j < items.size→Ts j < s.heap.objs.size:=fun j hj=>by obtain⟨_,⟨_,e,_⟩,_⟩:=hT j hj;exact Heap.lt_size e
 refine wpAny_GeneratorExp_walksQTD (cl:=[]) R.handled hco hclos hcell h0 hxa hxb hab hkind R.lim (heval _ (bF0 CL hiter x ho hcls ?_)) hs
 have hkI:∀b o',s.heap.get? b=some o'→(s.heap.push { cls:=.type "list_iterator",data:=.fields #[.ref a,.int 0 0] }).get? b=some o':=fun b o' e=>Heap.get?_push_of_some _ e
 have hlim:s.heap.NoLimit:=let ⟨mc,hn,hz⟩:=ok.lim;⟨mc,hn.at' fun o ho=>x.base _ o ho ok.stat,hz⟩
 refine⟨hlim.push _,?_⟩
 have W:=fun (A':Around) (hA:A'.handled=none)=>(cD0 (prog:=B.prog) (w:=B.w) hA s.heap.objs.size a (Nat.ne_of_lt halt) items Ts (fun j=>#[va j,vb j]) (fun j hj=>(hT j hj).1) fun j hj=>Nat.ne_of_lt (hTlt j hj)).bound
 have tail:∀(code:Value) (h₃:Heap) (tk₃:Nat),(∀b o',b≠P→(s.heap.push { cls:=.type "list_iterator",data:=.fields #[.ref a,.int 0 0] }).get? b=some o'→h₃.get? b=some o')→
   (s.heap.push { cls:=.type "list_iterator",data:=.fields #[.ref a,.int 0 0] }).objs.size≤h₃.objs.size→(∃ps,h₃.IsCode c P ps∧h₃.TableAt c P ps)→
   wpAny (model B.prog B.w) A (builtinsFor env.globals env.builtins) (fun bi s₄=>
    ∃I fp wr n₀ Pt St₀ Mid pz F,(Value.ref s.heap.objs.size)=.ref I∧(∀A':Around,A'.handled=none→WalksU B.prog B.w A' I fp wr n₀ Pt St₀ Mid)∧(∀i vals,Pt i vals→∃va vb,vals=#[va,vb])∧St₀ 0 s₄.heap∧(∀b∈fp,b < s₄.heap.objs.size)∧s₄.heap.NoLimit∧cStatics∉wr∧
     (∀href:Heap,(∀b o,s₄.heap.get? b=some o→href.get? b=some o)→
      QuietGenTD B.prog B.w (genEnv scope [] s₄.heap.objs.size code bi env) xa xb [] elt (List.range s₄.heap.objs.size) wr Pt pz F href (A.depth+1) (A.units+8))∧
     (∀a h₅ tk gs,gs.bare=true→s₄.heap.objs.size < a→h₅.objs.size=a+1→(∀b o,s₄.heap.get? b=some o→h₅.get? b=some o)→
      WalksS B.prog B.w A.in4 a (a::s₄.heap.objs.size::List.range s₄.heap.objs.size) (s₄.heap.objs.size::wr) (GenOnlyQ s₄.gens.size) (passing pz n₀ 0).length
       (fun j y=>∃i,(passing pz n₀ 0)[j]?=some i∧F i y) (GenAt B.prog B.w A.in4 a s₄.gens.size s₄.heap.objs.size (List.range s₄.heap.objs.size) wr pz n₀ F)→
      GenAt B.prog B.w A.in4 a s₄.gens.size s₄.heap.objs.size (List.range s₄.heap.objs.size) wr pz n₀ F 0 { s₄ with gens:=s₄.gens.push gs,toks:=tk,heap:=h₅ }→
      Q (.ref a) { s₄ with gens:=s₄.gens.push gs,toks:=tk,heap:=h₅ })) E { s with heap:=h₃,toks:=tk₃ }:=by
  intro code h₃ tk₃ hk₃ hsz₃ hct₃
  have hk:∀b o',b≠P→s.heap.get? b=some o'→h₃.get? b=some o':=fun b o' hb e=>hk₃ b o' hb (hkI b o' e)
  have hbase:∀b o',B.h₀.get? b=some o'→b∉B.Tb→h₃.get? b=some o':=fun b o' e ht=>hk b o' (fun e'=>ht (e'▸hPT)) (x.base b o' e ht)
  have hszI:s.heap.objs.size < h₃.objs.size:=by rw[Heap.size_push]at hsz₃;lia
  have hcP:cStatics≠P:=fun e=>ok.stat (e▸hPT)
  have hl₃:h₃.NoLimit:=let ⟨mc,hn,hz⟩:=ok.lim;⟨mc,hn.at' fun o ho=>hbase _ o ho ok.stat,hz⟩
  rw[hglob]
  refine wpAny_builtinsFor (BM.ns.at' fun o ho=>hbase _ o ho hgt) BM.name BM.ne (hbase _ _ BM.obj hbt) BM.cls BM.dict BM.data ?_
  refine⟨s.heap.objs.size,_,_,_,_,_,_,(fun _=>true),F,rfl,W,(fun i v hv=>⟨_,_,hv.2⟩),⟨?_,?_,fun j hj=>?_⟩,?_,hl₃,?_,fun href hhref=>?_,fun g h₅ tk gs hgb hag hsz₅ hk₅ WS hat=>?_⟩
  ·exact⟨_,hk₃ _ _ (Nat.ne_of_gt hPlt) (Heap.get?_push_size _ rfl),rfl,rfl⟩
  ·exact⟨o,hk a o (fun e=>haT (e▸hPT)) ho,nn,hdata⟩
  ·exact (hT j hj).2.1.at fun o e=>hk _ o (fun e'=>(hT j hj).2.2 (e'▸hPT)) e
  ·intro b hb
   rcases List.mem_cons.mp hb with rfl | hb
   ·exact hszI
   ·rcases List.mem_cons.mp hb with rfl | hb
    ·exact Nat.lt_trans halt hszI
    ·obtain⟨j,hj,rfl⟩:=List.mem_map.mp hb
     exact Nat.lt_trans (hTlt j (List.mem_range.mp hj)) hszI
  ·intro hm
   have hc:cStatics < s.heap.objs.size:=let ⟨_,hn,_⟩:=hlim;hn.lt
   rw[List.mem_singleton]at hm
   rw[hm]at hc
   exact Nat.lt_irrefl _ hc
  ·refine⟨fun A' E' i v₁ v₂ s₂ m₂ hA hD hU hP hn h1 h2 hkp=>wpAny_pure ⟨rfl,⟨_,_,rfl,fun _ _ e=>e⟩⟩,fun A' E' i v₁ v₂ s₂ m₂ hA hD hU hP hp hn h1 h2 hkp=>?_⟩
   obtain⟨hi,hv⟩:=hP
   obtain⟨e1,e2⟩:v₁=va i∧v₂=vb i:=by simpa using congrArg Array.toList hv
   subst e1 e2
   refine helt A' E' i _ code s₂ m₂ hA hD hU hi hn h1 h2 fun b o' hbT e=>?_
   have hb:b < s.heap.objs.size:=Heap.lt_size e
   exact hkp b (List.mem_range.mpr (Nat.lt_trans hb hszI)) (fun hm=>by rw[List.mem_singleton]at hm;exact Nat.ne_of_lt hb hm) o' (hhref b o' (hk b o' (fun e'=>hbT (e'▸hPT)) e))
  ·have hpass:passing (fun _=>true) items.size 0=List.range items.size:=by simp[passing]
   rw[hpass,List.length_range]at WS
   have WS':=WalksS.imp (P':=F) WS (by
    rintro j y ⟨i,hi,hF⟩
    have e:j=i:=by
     have:=List.getElem?_eq_some_iff.mp hi
     simp at this
     exact this.2
    exact e▸hF)
   refine hQ g _ ⟨_,_,_,_,WS',hat,?_,List.mem_cons_self,(fun i s' st=>st.1.typeIs),fun s' hm tk=>?_⟩
   ·intro b hb
    show b < h₅.objs.size
    rw[hsz₅]
    rcases List.mem_cons.mp hb with rfl | hb
    ·exact Nat.lt_succ_self _
    ·rcases List.mem_cons.mp hb with rfl | hb
     ·exact Nat.lt_succ_of_lt hag
     ·exact Nat.lt_succ_of_lt (Nat.lt_trans (List.mem_range.mp hb) hag)
   ·have hall:∀b o',b < h₃.objs.size→b≠s.heap.objs.size→h₃.get? b=some o'→s'.heap.get? b=some o':=fun b o' hb hbI e=>
     hm.heap b o' (by
      intro hmem
      rcases List.mem_cons.mp hmem with e' | hmem
      ·have e'':b=h₃.objs.size:=e'
       lia
      ·simp at hmem;exact hbI hmem) (hk₅ b o' e)
    have hold:∀b o',b≠P→s.heap.get? b=some o'→s'.heap.get? b=some o':=fun b o' hb e=>hall b o' (Nat.lt_trans (Heap.lt_size e) hszI) (Nat.ne_of_lt (Heap.lt_size e)) (hk b o' hb e)
    obtain⟨ps₃,hc₃,ht₃⟩:=hct₃
    have hP':=hall P _ (Nat.lt_trans hPlt hszI) (Nat.ne_of_lt hPlt) ht₃.2
    have hkc:∀b o',b≠s.heap.objs.size→h₃.get? b=some o'→s'.heap.get? b=some o':=fun b o' hb e=>hall b o' (Heap.lt_size e) hb e
    have hcI:c≠s.heap.objs.size:=Nat.ne_of_lt hcd.lt.1
    refine x.regrow (s':={ s' with toks:=tk }) hPT hm.os (GenOnlyQ.bare hm.gens (AllBare.push x.gens hgb)) hold ⟨_,hP'⟩ (CO.grown x.inv hcp hone hold ⟨ps₃,?_,?_⟩)
    ·exact hc₃.extBut (fun b o' hb e=>hkc b o' hb e) hcI (Nat.ne_of_lt hPlt)
    ·exact ht₃.extBut (fun b o' hb e=>hkc b o' hb e) hcI (Nat.ne_of_lt hPlt)
 cases hnf:codeAmong pos ps.toList with
 |none=>
  refine wpAny_genexprCodeX hcode (hcd.push _) (htb.push _) hnf fun c' h₃ tk₃ hx₃ hge hlt hcode₃ _ htab₃ _=>?_
  exact tail (.ref c') h₃ tk₃ (fun b o' hb e=>hx₃ b o' hb e) (Nat.le_trans hge (Nat.le_of_lt hlt)) ⟨_,hcode₃,htab₃⟩
 |some cv=>
  exact wpAny_genexprCode_hit hcode (hcd.push _) hnf (tail cv _ _ (fun b o' _ e=>e) (Nat.le_refl _) ⟨_,hcd.push _,htb.push _⟩)
end
structure MethDef (B:Bs) (a:Addr) (fd:FuncData) (names:List (Str×NameKind)) (params:List Str) (body:List Stmt) (clo:List (Str×Addr)):Prop where
 obj:∃o,B.h₀.get? a=some o∧o.data=.func fd
 tb:a∉B.Tb
 code:∃c o vs t,fd.code=.ref c∧c∉B.Tb∧B.h₀.get? c=some o∧o.data=.fields vs∧vs[1]?=some (.str fd.qualname t)
 body:fd.body=.stmts body
 closure:fd.closure=clo
 cell:∀x c,clo.lookup x=some c→c∉B.Tb∧∃o w,B.h₀.get? c=some o∧o.data=.cell w
 apart:∀x y c,clo.lookup x=some c→clo.lookup y=some c→x=y
 nms:fd.scope.names=names
 nocell:∀y∈names,y.2≠ .cell
 kind:fd.scope.kind=.function
 gen:fd.scope.isGenerator=false
 co:fd.scope.isCoroutine=false
 glob:fd.globals=mainNs
 bt:fd.builtins=builtinsNs
 nodup:params.Nodup
 pk:∀p∈params,names.lookup p=some .local
theorem gL{α:Type}:∀{l:List (Str×α)} {x:Str},(∀y∈l,y.1≠x)→l.lookup x=none
 |[],_,_=>rfl
 |(n,v)::r,x,h=>by
  rw[List.lookup_cons]
  have:(x==n)=false:=by simpa using fun e=>h (n,v) List.mem_cons_self e.symm
  rw[this]
  exact gL fun y hy=>h y (List.mem_cons_of_mem _ hy)
theorem wA{α:Type}{l:List (Str×α)}(hn:(l.map (·.1)).Nodup)(x:Str):l.reverse.lookup x=l.lookup x:=by
 induction l with
 |nil=>rfl
 |cons p r ih=>
  obtain⟨n,v⟩:=p
  rw[List.map_cons,List.nodup_cons]at hn
  have app:∀(a b:List (Str×α)),(a++b).lookup x=(a.lookup x).or (b.lookup x):=fun a b=>by
   induction a with
   |nil=>rfl
   |cons p a ih'=>
    obtain⟨m,u⟩:=p
    rw[List.cons_append,List.lookup_cons,List.lookup_cons]
    cases x==m with
    |true=>rfl
    |false=>exact ih'
  rw[List.reverse_cons,app,ih hn.2,List.lookup_cons,List.lookup_cons]
  cases hx:x==n with
  |false=>simp
  |true=>
   have e:x=n:=by simpa using hx
   subst e
   rw[gL fun y hy e=>hn.1 (List.mem_map.mpr ⟨y,hy,e⟩)]
   rfl
section
variable {B:Bs}{k:Nat}{A:Around}{ρ:List Addr}{σ:Sto}{s:Shared}
theorem St.dead{B:Bs}(ok:BsOk B){ρ:List Addr}{σ:Sto}{s:Shared}(x:St B ρ σ s){b:Addr}(hb:s.heap.get? b=none):b∉ρ∧b∉B.Tb∧B.h₀.get? b=none:=by
 refine⟨fun hm=>?_,fun hm=>?_,?_⟩
 ·obtain⟨o,ho⟩:=x.alive hm;rw[hb]at ho;cases ho
 ·obtain⟨o,ho⟩:=ok.tb _ x.inv _ hm;rw[hb]at ho;cases ho
 ·cases h0:B.h₀.get? b with
  |none=>rfl
  |some o=>
   by_cases ht:b∈B.Tb
   ·obtain⟨o',ho'⟩:=ok.tb _ x.inv _ ht;rw[hb]at ho';cases ho'
   ·rw[x.base b o h0 ht]at hb;cases hb
theorem St.noLimit{B:Bs}(ok:BsOk B){ρ:List Addr}{σ:Sto}{s:Shared}(x:St B ρ σ s):s.heap.NoLimit:=
 let ⟨mc,hn,hz⟩:=ok.lim;⟨mc,hn.at' fun o ho=>x.base _ o ho ok.stat,hz⟩
theorem tL(ok:BsOk B){a:Addr}{fd:FuncData}{names:List (Str×NameKind)}{params:List Str}{body:List Stmt}{clo:List (Str×Addr)}(D:MethDef B a fd names params body clo)
  (R:Room (k+1) A) (x:St B ρ σ s) {vals vals':List Value} {args:List PV} (hb:BindsTo s fd ⟨vals,[]⟩ (params.zip vals')) (hr:VRs B ρ s.heap args vals') (hlen:args.length=params.length) {v:PV} {σ':Sto}
  (h:∀s₁,St B ρ σ s₁→Evo B [] ρ σ s.heap ρ σ s₁.heap→Fr B [s.heap.objs.size] ⟨names,params.zip args⟩ (callEnv fd s.heap.objs.size a) ρ s₁.heap→VRs B ρ s₁.heap args vals'→
   s₁.heap.Ns s.heap.objs.size (fun y=>(params.zip vals').lookup y)→
   _root_.PySem.wpAt (model B.prog B.w) (A.deeper (callEnv fd s.heap.objs.size a)) (.func body (callEnv fd s.heap.objs.size a)) (execs body (callEnv fd s.heap.objs.size a))
    (fun f s'=>∃ρ',St B ρ' σ' s'∧Evo B [s.heap.objs.size] ρ σ s₁.heap ρ' σ' s'.heap∧VR B ρ' s'.heap v (match f with | .ret v=>v | _=>.none)) (fun _ _=>False) s₁):
  codeAny (model B.prog B.w) A (.call (.ref a) ⟨vals,[]⟩) (fun r s'=>match r with
   |.ok (.ret val)=>∃ρ',St B ρ' σ' s'∧Evo B [] ρ σ s.heap ρ' σ' s'.heap∧VR B ρ' s'.heap v val
   |_=>False) s:=by
 obtain⟨o,ho,hd⟩:=D.obj
 have hvl:vals'.length=params.length:=by rw[hr.length,hlen]
 obtain⟨c,oc,vs,t,hc,hct,hco,hcd,hcq⟩:=D.code
 have hcode:s.heap.CodeRec fd.code fd.qualname:=⟨c,oc,vs,t,hc,x.base c oc hco hct,hcd,hcq⟩
 have hmap:(params.zip vals').map (·.1)=params:=List.map_fst_zip (by omega)
 have hnd:((params.zip vals').map (·.1)).Nodup:=by rw[hmap];exact D.nodup
 have hdead:=get?_size s.heap
 obtain⟨f1,f2,f3⟩:=x.dead ok hdead
 have hkindOf:∀y,(callEnv fd s.heap.objs.size a).kindOf y=names.lookup y:=fun y=>by show fd.scope.names.lookup y=_;rw[D.nms]
 have hcells:(callEnv fd s.heap.objs.size a).cells=clo:=D.closure
 refine (ks_codeAny_call_defAt R.lim (x.base a o ho D.tb) hd (x.noLimit ok) hcode D.body hb (by rw[D.nms];exact D.nocell) (fun y hy=>?_) (fun h₁ hns hk=>?_) D.co D.gen D.kind)
 ·have hy':y.1∈params:=by rw[← hmap];exact List.mem_map.mpr ⟨y,hy,rfl⟩
  rw[D.nms]
  exact D.pk y.1 hy'
 ·obtain⟨x₁,e₁⟩:=x.grow ok (s':={ s with heap:=h₁,toks:=s.toks+(params.zip vals').length }) rfl x.gens hk
  have hr₁:=VRs.evo e₁ _ hr
  have hns':h₁.Ns s.heap.objs.size (fun y=>(params.zip vals').lookup y):=by
   have:(fun y=>(params.zip vals').lookup y)=fun y=>(params.zip vals').reverse.lookup y:=funext fun y=>(wA hnd y).symm
   rw[this];exact hns
  refine ks_wpAt_mono (h _ x₁ e₁ ?_ hr₁ hns') (fun f s' ⟨ρ',x',e',hv⟩=>?_) fun _ _ e=>e.elim
  ·refine {
    kind:=D.kind
    glob:=D.glob
    bt:=D.bt
    loc:=⟨_,hns',fun y hy=>⟨by rw[hkindOf];exact hy,fun u hu=>bE hr₁ hu⟩⟩
    cel:=fun y hy=>absurd rfl (D.nocell _ (mem_of_lookup hy))
    fre:=fun y hy u hu=>?_
    glb:=fun y hy=>by rw[hkindOf];exact hy
    dom:=fun y u hu=>?_
    own:=List.mem_cons_self
    ofX:=fun b hb=>?_
    ofc:=fun y c hc=>?_
    apart:=fun y z c hy hz=>by rw[hcells]at hy hz;exact D.apart y z c hy hz }
   ·obtain⟨val,hv,hvr⟩:=bE hr₁ hu
    have:y∈params:=by rw[← hmap];exact List.mem_map.mpr ⟨_,mem_of_lookup hv,rfl⟩
    have h2:=D.pk y this
    dsimp only at hy
    rw[h2]at hy;cases hy
   ·obtain⟨val,hv,hvr⟩:=bE hr₁ hu
    have:y∈params:=by rw[← hmap];exact List.mem_map.mpr ⟨_,mem_of_lookup hv,rfl⟩
    exact .inl (D.pk y this)
   ·rw[List.mem_singleton]at hb
    subst hb
    obtain⟨o',es,ep,ho',hd',_⟩:=hns'
    exact⟨f1,f2,f3,o',ho',.inl ⟨_,_,hd'⟩⟩
   ·rw[hcells]at hc
    obtain⟨h1,oc',w',h2,h3⟩:=D.cell y c hc
    refine⟨fun hm=>?_,h1,oc',hk _ _ (x.base c oc' h2 h1),.inr ⟨_,h3⟩⟩
    rw[x.fresh c hm]at h2;cases h2
  ·exact⟨ρ',x',(e₁.weak.trans e').forget (fun b hb=>by rw[List.mem_singleton]at hb;subst hb;exact hdead),hv⟩
theorem eV(ok:BsOk B){a:Addr}{fd:FuncData}{names:List (Str×NameKind)}{params:List Str}{body:List Stmt}{clo:List (Str×Addr)}(D:MethDef B a fd names params body clo)
  (R:Room (k+1) A) (x:St B ρ σ s) {vals vals':List Value} {args:List PV} (hb:BindsTo s fd ⟨vals,[]⟩ (params.zip vals')) (hr:VRs B ρ s.heap args vals') (hlen:args.length=params.length) {v:PV} {σ':Sto}
  (h:∀s₁ {Q:Flow→Shared→Prop},St B ρ σ s₁→Evo B [] ρ σ s.heap ρ σ s₁.heap→Fr B [s.heap.objs.size] ⟨names,params.zip args⟩ (callEnv fd s.heap.objs.size a) ρ s₁.heap→VRs B ρ s₁.heap args vals'→
   s₁.heap.Ns s.heap.objs.size (fun y=>(params.zip vals').lookup y)→(∀f s' ρ',St B ρ' σ' s'→Evo B [s.heap.objs.size] ρ σ s₁.heap ρ' σ' s'.heap→VR B ρ' s'.heap v (match f with | .ret v=>v | _=>.none)→Q f s')→
   _root_.PySem.wpAt (model B.prog B.w) (A.deeper (callEnv fd s.heap.objs.size a)) (.func body (callEnv fd s.heap.objs.size a)) (execs body (callEnv fd s.heap.objs.size a)) Q (fun _ _=>False) s₁):
  Ok B A ρ σ s (call (.ref a) vals) σ' (Is B v):=by
 refine wpAny_call (codeAny_mono (tL ok D R x hb hr hlen fun s₁ x₁ e₁ fr r₁ hns=>h s₁ x₁ e₁ fr r₁ hns fun f s' ρ' x e v=>⟨ρ',x,e,v⟩) fun r s' hr'=>?_)
 rcases r with e | (v | _ | _ | _)<;>first | exact hr' | exact hr'.elim
end
structure BoundKind (id T BT g:String):Prop where
 ty:typeOf (.builtin id)=pure (.type T)
 slot:Slot T "__get__" g
 entry:∃Bi,entryFor table g=some Bi
 args:∀a b c,argsOk g ⟨[a,b,c],[]⟩
 run:∀{M:Model} {A:Around} {E:Value→Shared→Prop} {s:Shared} {P:Fin→Shared→Prop} {x C:Addr} {Bi:Builtin},entryFor table g=some Bi→
  (∀(A:Around) (E:Value→Shared→Prop) (Q:Bool→Shared→Prop),Q true s→wpAny M A (isInstance (.ref x) (.type "list")) Q E s)→
  (∀(A:Around) (E:Value→Shared→Prop) (Q:Bool→Shared→Prop),Q true s→wpAny M A (isType (.ref C)) Q E s)→
  P (.done (.ret (.ref s.heap.objs.size))) { s with heap:=s.heap.push { cls:=.type BT,data:=.fields #[.builtin id,.ref x] } }→wpAny M A (Bi ⟨[.builtin id,.ref x,.ref C],[]⟩) P E s
 bt:BT="builtin_function_or_method"∨BT="method-wrapper"
theorem wR:Slot "method_descriptor" "__get__" "method_descriptor.__get__":=
 .of (owner:="method_descriptor") (n:="__get__") (by rw[typeLookup_type,builtinLookup_eq_fast];kernel_rfl) (by decide+kernel) (by decide+kernel) (by decide+kernel)
  (by first | exact .inl (by decide+kernel) | exact .inr (by decide+kernel)) (by rw[isSubtype_type];kernel_rfl)
theorem wL:Slot "wrapper_descriptor" "__get__" "wrapper_descriptor.__get__":=
 .of (owner:="wrapper_descriptor") (n:="__get__") (by rw[typeLookup_type,builtinLookup_eq_fast];kernel_rfl) (by decide+kernel) (by decide+kernel) (by decide+kernel)
  (by first | exact .inl (by decide+kernel) | exact .inr (by decide+kernel)) (by rw[isSubtype_type];kernel_rfl)
theorem lK:entryFor table "method_descriptor.__get__"=some Builtin.«method_descriptor.__get__»:=entryFor_of_tree (by kernel_rfl)
theorem lS:entryFor table "wrapper_descriptor.__get__"=some Builtin.«wrapper_descriptor.__get__»:=entryFor_of_tree (by kernel_rfl)
theorem zO:(kfb_private% "ownerAndName") "list.__len__"=("list","__len__"):=by first | decide+kernel | kernel_rfl
theorem yO:(kfb_private% "ownerAndName") "list.__init__"=("list","__init__"):=by first | decide+kernel | kernel_rfl
theorem aC0:(kfb_private% "ownerAndName") "list.pop"=("list","pop"):=by first | decide+kernel | kernel_rfl
theorem bk_wd{id n:String}(ty:typeOf (.builtin id)=pure (.type "wrapper_descriptor"))(ho:(kfb_private% "ownerAndName") id=("list",n)):BoundKind id "wrapper_descriptor" "method-wrapper" "wrapper_descriptor.__get__" where
 ty:=ty
 slot:=wL
 entry:=⟨_,lS⟩
 args:=fun a b c=>by unfold argsOk;kernel_rfl
 run:=fun he hi _ h=>by
  rw[lS]at he
  cases he
  unfold Builtin.«wrapper_descriptor.__get__»
  refine wpAny_bind (wpAny_of_eq (by first | rfl | kernel_rfl) ?_)
  refine wpAny_bind (m:=(kfb_private% "checkInstance") _ _) ?_
  refine wpAny_bind (m:=(kfb_private% "nameAndClass") _) (wpAny_of_eq (a:=((PySem.Str.ofString n),Value.type "list")) (by show pure (PySem.Str.ofString ((kfb_private% "ownerAndName") id).2,Value.type ((kfb_private% "ownerAndName") id).1)=_;rw[ho]) ?_)
  refine wpAny_bind (hi _ _ _ ?_)
  refine wpAny_pure ?_
  exact wpAny_bind (wpAny_newObj_type (wpAny_pure h))
 bt:=.inr rfl
theorem bk_md{id n:String}(ty:typeOf (.builtin id)=pure (.type "method_descriptor"))(ho:(kfb_private% "ownerAndName") id=("list",n))(ht:Manifest.toldItsClass.contains id=false):
  BoundKind id "method_descriptor" "builtin_function_or_method" "method_descriptor.__get__" where
 ty:=ty
 slot:=wR
 entry:=⟨_,lK⟩
 args:=fun a b c=>by unfold argsOk;kernel_rfl
 run:=fun he hi hc h=>by
  rw[lK]at he
  cases he
  unfold Builtin.«method_descriptor.__get__»
  refine wpAny_bind (wpAny_of_eq (by first | rfl | kernel_rfl) ?_)
  simp only[show ∀a:Addr,(Value.ref a==Value.none)=false from fun _=>rfl,Bool.false_eq_true,if_false,ht]
  refine wpAny_bind (m:=(kfb_private% "checkInstance") _ _) ?_
  refine wpAny_bind (m:=(kfb_private% "nameAndClass") _) (wpAny_of_eq (a:=((PySem.Str.ofString n),Value.type "list")) (by show pure (PySem.Str.ofString ((kfb_private% "ownerAndName") id).2,Value.type ((kfb_private% "ownerAndName") id).1)=_;rw[ho]) ?_)
  refine wpAny_bind (hi _ _ _ ?_)
  refine wpAny_pure ?_
  exact wpAny_bind (wpAny_newObj_type (wpAny_pure h))
 bt:=.inl rfl
section
variable {prog:Program}{w:World}{M:Model}{A:Around}{E:Value→Shared→Prop}{h:Heap}{g:Array GenState}{d:Drawn}{t:Nat}{os:OsState}
theorem sup_ga{id T BT gid:String}(BK:BoundKind id T BT gid){so D x C:Addr}{l₀ l:List Value}{K:Frag}{name:Str}{tk:Tok}{Q:Fin→Shared→Prop}
  (hso:h.get? so=some { cls:=.type "super",dict:=none,data:=.fields #[.ref D,.ref x,.ref C],slots:=#[] }) (hno:Looks (model prog w) h (opaqueClassAbove (.ref C)) none)
  (hC:Looks (model prog w) h (mroOf (.ref C)) l₀) (hl:(l₀.dropWhile (· !=.ref D)).drop 1=l) (X:K.In h)
  (hf:alongIn K name l=some (some (.builtin id))) (hxC:x≠C) (hn:(name==("__class__":Str))=false)
  (hi:∀(A:Around) (E:Value→Shared→Prop) (Q:Bool→Shared→Prop) (s:Shared),s=⟨h,g,d,t,os⟩→Q true s→wpAny (model prog w) A (isInstance (.ref x) (.type "list")) Q E s)
  (ht:∀(A:Around) (E:Value→Shared→Prop) (Q:Bool→Shared→Prop) (s:Shared),s=⟨h,g,d,t,os⟩→Q true s→wpAny (model prog w) A (isType (.ref C)) Q E s)
  (hq:Q (.done (.ret (.ref h.objs.size))) ⟨h.push { cls:=.type BT,data:=.fields #[.builtin id,.ref x] },g,d,t,os⟩):
  wpAny (model prog w) A (Builtin.«super.__getattribute__» ⟨[.ref so,.str name tk],[]⟩) Q E ⟨h,g,d,t,os⟩:=by
 have hlk:=BK.slot.lookup
 have hne:(Value.ref x==Value.ref C)=false:=by simp -iota [hxC]
 have hT:=BK.ty
 have hdt:({ cls:=.type "super",dict:=none,data:=.fields #[.ref D,.ref x,.ref C],slots:=#[] }:Obj).data=.fields #[.ref D,.ref x,.ref C]:=rfl
 have f0:(#[.ref D,.ref x,.ref C]:Array Value)[0]?=some (.ref D):=rfl
 have f1:(#[.ref D,.ref x,.ref C]:Array Value)[1]?=some (.ref x):=rfl
 have f2:(#[.ref D,.ref x,.ref C]:Array Value)[2]?=some (.ref C):=rfl
 obtain⟨Bi,hBi⟩:=BK.entry
 have hTf:(⟨h,g,d,t,os⟩:Shared).TypeIs (.builtin id) T:=hT
 unfold Builtin.«super.__getattribute__»
 repeat (first
  |(with_reducible refine wpAny_field hso hdt f0 ?_) | (with_reducible refine wpAny_field hso hdt f1 ?_) | (with_reducible refine wpAny_field hso hdt f2 ?_)
  |(with_reducible refine ks_wpAny_notOpaque hno ?_)
  |(with_reducible refine Looks.at hC ?_;rw[hl])
  |(refine ks_forIn_along X (fun _ _=>rfl) rfl ?_ hf)
  |(with_reducible refine wpAny_of_eq hT ?_)
  |(with_reducible refine wpAny_call_entry BK.slot hTf hBi ?_ (BK.args _ _ _))
  |((with_reducible refine if_f ?ic ?_);(case ic=>first | exact Bool.false_ne_true | (simp -iota only[hn,hne,Bool.or_false,Bool.false_eq_true,not_false_eq_true];done)))
  |wp_step
  |dsimp only)
 rw[show (if (Value.ref x==Value.ref C)=true then Value.none else Value.ref x)=Value.ref x from if_neg (by rw[hne];exact Bool.false_ne_true)]
 refine BK.run hBi (fun A E Q q=>hi A E Q _ rfl q) (fun A E Q q=>ht A E Q _ rfl q) ⟨_,rfl,?_⟩
 exact wpAny_bind (wpAny_pure (wpAny_pure (wpAny_pure hq)))
theorem rZ{id T BT gid:String}(BK:BoundKind id T BT gid){so D x C:Addr}{l₀ l:List Value}{K:Frag}{name:Str}{pl:Sem Bool}{Q:Value×List Value→Shared→Prop}
  (hso:h.get? so=some { cls:=.type "super",dict:=none,data:=.fields #[.ref D,.ref x,.ref C],slots:=#[] }) (hno:Looks (model prog w) h (opaqueClassAbove (.ref C)) none)
  (hC:Looks (model prog w) h (mroOf (.ref C)) l₀) (hl:(l₀.dropWhile (· !=.ref D)).drop 1=l) (X:K.In h)
  (hf:alongIn K name l=some (some (.builtin id))) (hxC:x≠C) (hn:(name==("__class__":Str))=false)
  (hi:∀(A:Around) (E:Value→Shared→Prop) (Q:Bool→Shared→Prop) (s:Shared),s.heap=h→Q true s→wpAny (model prog w) A (isInstance (.ref x) (.type "list")) Q E s)
  (ht:∀(A:Around) (E:Value→Shared→Prop) (Q:Bool→Shared→Prop) (s:Shared),s.heap=h→Q true s→wpAny (model prog w) A (isType (.ref C)) Q E s)
  (hq:Q (.ref h.objs.size,[]) ⟨h.push { cls:=.type BT,data:=.fields #[.builtin id,.ref x] },g,d,t+1,os⟩):
  wpAny (model prog w) A (getMethod (.ref so) name pl) Q E ⟨h,g,d,t,os⟩:=by
 have hlk:=F.ks_slot_super_ga.lookup
 have hcan:=F.ks_canon_super_ga
 have hT:∀t',(⟨h,g,d,t',os⟩:Shared).TypeIs (.ref so) "super":=fun _=>⟨_,hso,rfl⟩
 unfold getMethod
 refine wpAny_bind (wpAny_specialOf (hT _) hlk ?_)
 show wpAny _ _ (if (Manifest.canonical "super.__getattribute__" !="object.__getattribute__")=true then _ else _) _ _ _
 rw[if_pos hcan]
 unfold getAttr getAttrBy
 refine wpAny_bind (wpAny_bind (wpAny_mkText (wpAny_holding (wpAny_bind (wpAny_typeOf (hT _) (wpAny_bind (wpAny_of_eq hlk ?_)))))))
 show wpAny _ _ (getAttrByItsOwn (.ref so) (.str name t) (.type "super") (.builtin "super.__getattribute__") true false) _ _ _
 unfold getAttrByItsOwn hookBefore callGetattribute boundAndCalled
 refine wpAny_bind (wpAny_of_eq (show (if onTheHeap (.type "super") then typeLookup (.type "super") "__getattr__" else pure none)=pure none from rfl) ?_)
 refine wpAny_bind (wpAny_attempt (wpAny_holding ?_))
 show wpAny _ _ (bindSpecial (.builtin "super.__getattribute__") (.ref so) >>= _) _ _ _
 refine wpAny_bind (wpAny_of_eq (F.ks_slot_super_ga.bind _) ?_)
 refine wpAny_mono (Q:=fun v s'=>v=.ref h.objs.size∧s'=⟨h.push { cls:=.type BT,data:=.fields #[.builtin id,.ref x] },g,d,t+1,os⟩) (E:=fun _ _=>False)
  (wpAny_call_entry F.ks_slot_super_ga (hT _) F.ks_entry_super_ga (sup_ga BK hso hno hC hl X hf hxC hn (fun A E Q s e q=>hi A E Q s (by rw[e]) q) (fun A E Q s e q=>ht A E Q s (by rw[e]) q) ⟨_,rfl,rfl,rfl⟩) (F.ks_gaArgs_super _ _)) (fun v s' hv=>?_) fun _ _ z=>z.elim
 obtain⟨rfl,rfl⟩:=hv
 exact wpAny_pure (wpAny_pure hq)
theorem oF{id BT:String}(hBT:BT="builtin_function_or_method"∨BT="method-wrapper"){pos:Pos}{u x:Addr}{env:Env}{s:Shared}{Q:Value→Shared→Prop}(ho:s.heap.get? u=some { cls:=.type BT,data:=.fields #[.builtin id,.ref x] })
  (h:wpAny M A (call (.ref u) []) Q E s):wpAny M A (callWith pos (.ref u) [] (backTo pos (starEach [] env)) []) Q E s:=by
 unfold callWith
 refine wpAny_bind (wpAny_holding (m:=evalArgs (.ref u) true [] []) (evalArgs_nil3 (wpAny_bind (wpAny_standAt ?_))))
 show wpAny _ _ (keeperOf (.ref u) >>= _) _ _ _
 refine wpAny_bind ?_
 unfold keeperOf
 refine wpAny_bind (wpAny_load ho ?_)
 have h1:(Value.type BT !=Value.type "method")=true:=by rcases hBT with rfl | rfl<;>decide
 have h2:(Value.type BT==Value.type "builtin_function_or_method" || Value.type BT==Value.type "method-wrapper")=true:=by rcases hBT with rfl | rfl<;>decide
 simp -iota only[h1,h2,if_true]
 refine wpAny_pure ?_
 exact wpAny_bind (wpAny_mono h (fun r s₂ hr=>wpAny_bind (wpAny_holding (wpAny_point (wpAny_pure hr)))) fun _ _ x=>x)
theorem jH{id BT:String}(hBT:BT="builtin_function_or_method"∨BT="method-wrapper"){u x:Addr}{s:Shared}{b:Builtin}{Q:Value→Shared→Prop}(ho:s.heap.get? u=some { cls:=.type BT,data:=.fields #[.builtin id,.ref x] })
  (hq:plainId id=true) (hb:entryFor table id=some b) (hc:∀(A:Around) (E:Value→Shared→Prop) (Q:Unit→Shared→Prop),Q () s→wpAny (model prog w) A (checkBoundCall id ⟨[.ref x],[]⟩) Q E s)
  (h:wpAny (model prog w) (A.under (.builtin id ⟨[.ref x],[]⟩)) (b ⟨[.ref x],[]⟩) (fun fin s'=>∃v,fin=.done (.ret v)∧Q v s') E s):wpAny (model prog w) A (call (.ref u) []) Q E s:=by
 refine wpAny_call (codeAny_of_tree ?_)
 show wpAny _ A.in1 (callAny (.ref u) ⟨[],[]⟩) _ _ s
 simp -iota only[callAny]
 refine wpAny_bind (wpAny_load ho ?_)
 have h1:(Value.type BT==Value.type "method" || Value.type BT==Value.type "builtin_function_or_method" || Value.type BT==Value.type "method-wrapper")=true:=by rcases hBT with rfl | rfl<;>decide
 have h2:(Value.type BT !=Value.type "method")=true:=by rcases hBT with rfl | rfl<;>decide
 simp -iota only[h1,if_true]
 refine KFB.if_so h2 ?_
 refine wpAny_bind (hc _ _ _ ?_)
 refine wpAny_bind (wpAny_pure (wpAny_pure ?_))
 refine⟨plainId_quiet hq _,codeAny_builtin hb (wpAny_mono h (fun fin s' h'=>?_) fun _ _ e=>e)⟩
 obtain⟨v,rfl,hv⟩:=h'
 exact hv
end
structure SupOk (B:Bs) (K:Frag) (cd:ClassData) (cc:Addr) (mg mb:Str→Option Value):Prop where
 cls:clsIn K B.cls=some cd
 rest:(cd.mro.dropWhile (· !=.ref B.cls)).drop 1=[.type "list",.type "object"]
 third:nsIn K cStatics "thirdparty.any"=some none
 self:mroIn K B.cls (.ref B.cls)=some true
 ofType:typeIn K (.ref B.cls)=some (.type "type")
 isT:instIn K (.ref B.cls) (.type "type")=some true
 cell:∃o,B.h₀.get? cc=some o∧o.data=.cell (some (.ref B.cls))
 ct:cc∉B.Tb
 g:B.h₀.Ns mainNs mg
 b:B.h₀.Ns builtinsNs mb
 og:mainNs∉B.Tb
 ob:builtinsNs∉B.Tb
 gs:mg "super"=none
 bs:mb "super"=some (.type "super")
 top:(B.prog.main.scope.names.lookup ("super":Str)).isSome=false
section
variable {B:Bs}{A:Around}{ρ:List Addr}{σ:Sto}{s:Shared}{E:Value→Shared→Prop}
theorem jF{K:Frag}{C:Addr}{cd:ClassData}(e:clsIn K C=some cd):∃c d sl,K.lookup C=some ⟨c,d,.cls cd,sl⟩:=by
 delta clsIn at e
 cases ho:K.lookup C with
 |none=>rw[ho]at e;exact nos e
 |some o=>
  rw[ho]at e
  obtain⟨c,d,t,sl⟩:=o
  cases t with
  |cls x=>exact⟨c,d,sl,congrArg (fun x=>some (Obj.mk c d (.cls x) sl)) (Option.some.inj e)⟩
  |_=>exact nos e
theorem aP0{K:Frag}{C:Addr}{cd:ClassData}(e:clsIn K C=some cd)(h:specialIn K (.ref C) "__call__"=some (some (.builtin "type.__call__"))):keepIn K (.ref C)=true:=by
 obtain⟨c,d,sl,ho⟩:=jF e
 delta keepIn
 conv=>lhs;whnf
 rw[ho]
 exact beq_iff_eq.mpr h
theorem clsObj{K:Frag}{C:Addr}{cd:ClassData}{h:Heap}(X:K.In h)(e:clsIn K C=some cd):∃o,h.get? C=some o∧o.data=.cls cd:=by
 obtain⟨c,d,sl,ho⟩:=jF e
 exact⟨_,X _ _ ho,rfl⟩
theorem sup_eval{K:Frag}(C:ClsOk B K){cd:ClassData}{cc:Addr}{mg mb:Str→Option Value}(S:SupOk B K cd cc mg mb){id T BT gid:String}(BK:BoundKind id T BT gid)(st:St B ρ σ s)
  {a L:Addr} {fd:FuncData} {body:List Stmt} {p0 p1 apos pos:Pos} {name:Str} {ar:Arg} {x:Addr} {ox:Obj} {m:Str→Option Value} {Q:Value→Shared→Prop}
  (hobj:∃o,B.h₀.get? a=some o∧o.data=.func fd) (hat:a∉B.Tb)
  (hcode:∃c o vs file tf,fd.code=.ref c∧c∉B.Tb∧B.h₀.get? c=some o∧o.data=.fields vs∧vs[2]?=some (.str file tf)∧((B.prog.main.file:Str)==file)=true)
  (hclo:fd.closure=[(PySem.Str.ofString "__class__",cc)]) (hline:(apos.endLine==pos.line)=true) (hg:fd.globals=mainNs) (hb:fd.builtins=builtinsNs) (hp:(fd.params.posonlyargs++fd.params.args).head?=some ar) (hk:fd.scope.kind=.function)
  (hks:fd.scope.names.lookup ("super":Str)=some .globalImplicit) (hkc:fd.scope.names.lookup ("__class__":Str)=some .free) (hka:fd.scope.names.lookup ar.arg=some .local)
  (hns:s.heap.Ns L m) (hm:m ar.arg=some (.ref x)) (hx:s.heap.get? x=some ox) (hxc:ox.cls=.ref B.cls) (hxd:∀c,ox.data≠ .cls c)
  (hf:alongIn K name [.type "list",.type "object"]=some (some (.builtin id))) (hn:(name==("__class__":Str))=false)
  (h:∀h' tk u,(∀y o,s.heap.get? y=some o→h'.get? y=some o)→h'.get? u=some { cls:=.type BT,data:=.fields #[.builtin id,.ref x] }→wpAny (model B.prog B.w) A (call (.ref u) []) Q E { s with heap:=h',toks:=tk }):
  _root_.PySem.wpAt (model B.prog B.w) A (.func body (callEnv fd L a)) (eval (.Call (.Attribute (.Call (.Name "super" p0) [] [] p1) name apos) [] [] pos) (callEnv fd L a)) Q E s:=by
 have X:=C.in st
 obtain⟨oC,hC,hCd⟩:=clsObj X S.cls
 have hxC:x≠B.cls:=by
  rintro rfl
  rw[hx]at hC;cases hC
  exact hxd _ hCd
 obtain⟨oc,hcc,hcd⟩:=S.cell
 obtain⟨of,hof,hofd⟩:=hobj
 obtain⟨c,ocd,vs,file,tf,hc1,hc2,hc3,hc4,hc5,hc6⟩:=hcode
 have keep:∀b o,B.h₀.get? b=some o→b∉B.Tb→s.heap.get? b=some o:=st.base
 refine ks_wpAt_MethodCall (pl:=?pl) ?_ ?he
 case he=>
  have hpos:∀o env,methodCallPos true o env apos pos=pure pos:=fun o env=>by unfold methodCallPos;simp[hline]
  rw[arm_eval_Call]
  unfold methodCall
  simp only[show methodCallForm (([]:List Expr).length+([]:List Keyword).length) (backTo pos (starEach [] (callEnv fd L a))) (backToKw pos (keywordEach [] (callEnv fd L a)))=true from rfl,hpos,pure_bind]
  rfl
 refine ks_wpAt_super_base (env:=callEnv fd L a) (fd:=fd) (f:=a) (cc:=c) hks hkc (by exact hn) rfl (keep _ _ hof hat) hofd hp hc1 (keep _ _ hc3 hc2) hc4 hc5 hc6 S.top ?_
 refine ks_loadName_global hk hks (PySem.Calls.loadGlobal_builtin (env:=callEnv fd L a) (mg:=mg) (mb:=mb) ?_ S.gs ?_ S.bs ⟨rfl,?_⟩)
 ·show s.heap.Ns fd.globals mg
  rw[hg];exact S.g.at' fun o ho=>keep _ _ ho S.og
 ·show s.heap.Ns fd.builtins mb
  rw[hb];exact S.b.at' fun o ho=>keep _ _ ho S.ob
 refine wpAny_loadName_free hk hkc (by show List.lookup _ fd.closure=_;rw[hclo];rfl) ⟨_,keep _ _ hcc S.ct,hcd⟩ ?_
 refine wpAny_loadName_local hk hka hns hm ?_
 obtain⟨hh,g,d,t,os⟩:=s
 refine ks_wpAny_isType_cls hC hCd ⟨rfl,?_⟩
 refine ks_wpAny_call_super hC hCd hx hxc hxd (looks_mroIn X S.self) fun h' e k=>?_
 have X':K.In h':=fun b o z=>k _ _ (X b o z)
 have st':∀s',s'.heap=h'→∀(A:Around) (E:Value→Shared→Prop) (Q:Bool→Shared→Prop),Q true s'→wpAny (model B.prog B.w) A (isInstance (.ref x) (.type "list")) Q E s':=fun s' hs' A E Q q=>by
  unfold isInstance
  have hT:Looks (model B.prog B.w) h' (typeOf (.ref x)) (.ref B.cls):=hxc▸(Looks.ld (k _ _ hx)).andThen .now
  have X'':K.In s'.heap:=hs'▸X'
  exact wpAny_bind ((hs'.symm▸hT:Looks (model B.prog B.w) s'.heap (typeOf (.ref x)) (.ref B.cls)).here ((looks_mroIn X'' C.sub).here q))
 refine rZ BK e (looks_opaque X' S.third) ((looks_clsIn X' S.cls).andThen .now) S.rest X' hf hxC hn (fun A E Q s' hs' q=>st' s' hs' A E Q q) (fun A E Q s' hs' q=>?_) ?_
 ·obtain⟨hh',g',d',t',os'⟩:=s'
  subst hs'
  exact ks_wpAny_isType_cls (k _ _ hC) hCd q
 ·refine oF BK.bt (Heap.get?_push_size _ rfl) ?_
  exact h _ _ _ (fun y o z=>Heap.get?_push_of_some _ (k _ _ z)) (Heap.get?_push_size _ rfl)
end
structure SupDef (B:Bs) (a:Addr) (fd:FuncData) (names:List (Str×NameKind)) (params:List Str) (body:List Stmt) (cc:Addr):Prop where
 D:MethDef B a fd names params body [(PySem.Str.ofString "__class__",cc)]
 file:∃c o vs file tf,fd.code=.ref c∧c∉B.Tb∧B.h₀.get? c=some o∧o.data=.fields vs∧vs[2]?=some (.str file tf)∧((B.prog.main.file:Str)==file)=true
 head:∃ar,(fd.params.posonlyargs++fd.params.args).head?=some ar∧ar.arg="self"
 ks:names.lookup ("super":Str)=some .globalImplicit
 kc:names.lookup ("__class__":Str)=some .free
 self:names.lookup ("self":Str)=some .local
section
variable {B:Bs}{A:Around}{ρ:List Addr}{σ:Sto}{s:Shared}{E:Value→Shared→Prop}
theorem iY0:BoundKind "list.__len__" "wrapper_descriptor" "method-wrapper" "wrapper_descriptor.__get__":=bk_wd (by show builtinType _=_;rw[builtinType_eq_fast];kernel_rfl) zO
theorem cG0:BoundKind "list.__init__" "wrapper_descriptor" "method-wrapper" "wrapper_descriptor.__get__":=bk_wd (by show builtinType _=_;rw[builtinType_eq_fast];kernel_rfl) yO
theorem jQ0:BoundKind "list.pop" "method_descriptor" "builtin_function_or_method" "method_descriptor.__get__":=bk_md (by show builtinType _=_;rw[builtinType_eq_fast];kernel_rfl) aC0 (by decide+kernel)
theorem eS0(K:Frag):alongIn K "__len__" [.type "list",.type "object"]=some (some (.builtin "list.__len__")):=by kernel_rfl
theorem aJ0(K:Frag):alongIn K "__init__" [.type "list",.type "object"]=some (some (.builtin "list.__init__")):=by kernel_rfl
theorem hF0(K:Frag):alongIn K "pop" [.type "list",.type "object"]=some (some (.builtin "list.pop")):=by kernel_rfl
theorem cb_len(x:Addr):checkBoundCall "list.__len__" ⟨[.ref x],[]⟩=pure ():=by kernel_rfl
theorem cb_init(x:Addr):checkBoundCall "list.__init__" ⟨[.ref x],[]⟩=pure ():=by kernel_rfl
theorem rI{K:Frag}(C:ClsOk B K){cd:ClassData}{cc:Addr}{mg mb:Str→Option Value}(S:SupOk B K cd cc mg mb){id T BT gid:String}(BK:BoundKind id T BT gid)(st:St B ρ σ s)
  {a L:Addr} {fd:FuncData} {names:List (Str×NameKind)} {params:List Str} {body:List Stmt} (P:SupDef B a fd names params body cc) {p0 p1 apos pos:Pos} {name:Str} {x:Addr} {ox:Obj} {m:Str→Option Value} {Q:Value→Shared→Prop}
  (hline:(apos.endLine==pos.line)=true)
  (hns:s.heap.Ns L m) (hm:m "self"=some (.ref x)) (hx:s.heap.get? x=some ox) (hxc:ox.cls=.ref B.cls) (hxd:∀c,ox.data≠ .cls c)
  (hf:alongIn K name [.type "list",.type "object"]=some (some (.builtin id))) (hn:(name==("__class__":Str))=false)
  (h:∀h' tk u,(∀y o,s.heap.get? y=some o→h'.get? y=some o)→h'.get? u=some { cls:=.type BT,data:=.fields #[.builtin id,.ref x] }→wpAny (model B.prog B.w) A (call (.ref u) []) Q E { s with heap:=h',toks:=tk }):
  _root_.PySem.wpAt (model B.prog B.w) A (.func body (callEnv fd L a)) (eval (.Call (.Attribute (.Call (.Name "super" p0) [] [] p1) name apos) [] [] pos) (callEnv fd L a)) Q E s:=by
 obtain⟨ar,ha1,ha2⟩:=P.head
 exact sup_eval C S BK st P.D.obj P.D.tb P.file P.D.closure hline P.D.glob P.D.bt ha1 P.D.kind (by rw[P.D.nms];exact P.ks) (by rw[P.D.nms];exact P.kc) (by rw[P.D.nms,ha2];exact P.self) hns (by rw[ha2];exact hm) hx hxc hxd hf hn h
noncomputable def lT:Fn:=fun args σ=>one args fun a=>eS a fun i=>opt σ[i]? fun c=>rR c.d fun _ xs=>grd (xs.length≤100000) (some (.int xs.length,σ))
theorem kZ0(ok:BsOk B){K:Frag}(C:ClsOk B K){cd:ClassData}{cc:Addr}{mg mb:Str→Option Value}(S:SupOk B K cd cc mg mb){k:Nat}{a:Addr}{fd:FuncData}{names:List (Str×NameKind)}{p0 p1 apos pos rp:Pos}
  (P:SupDef B a fd names ["self"] [.Return (some (.Call (.Attribute (.Call (.Name "super" p0) [] [] p1) "__len__" apos) [] [] pos)) rp] cc) (hline:(apos.endLine==pos.line)=true)
  (hb:∀s v,BindsTo s fd ⟨[v],[]⟩ [("self",v)]):FnOk B (k+1) (.ref a) lT where
 able:=let ⟨o,ho,hd⟩:=P.D.obj;fM ho P.D.tb hd
 run:=fun A ρ σ s args vals v σ' R x r h=>by
  obtain⟨a0,e1,i1⟩:=cB h
  obtain⟨i,e2,i2⟩:=cR i1
  obtain⟨c,hc,i3⟩:=aA i2
  obtain⟨di,xs,hd,i4⟩:=eO i3
  obtain⟨hlen,i5⟩:=grd_some i4
  obtain⟨rfl,rfl⟩:=Prod.mk.inj (Option.some.inj i5)
  subst e1 e2
  obtain⟨_,_,rfl,⟨b,rfl,hbi⟩,r2⟩:=r
  rw[show _=[]from r2]
  have hcell:=x.cells i c b hc hbi
  rw[hd]at hcell
  obtain⟨vs,n,Dx,ho,hr,hD⟩:=hcell
  refine eV ok P.D R x (args:=[.lst i]) (vals':=[.ref b]) (hb s _) ⟨_,_,rfl,⟨b,rfl,hbi⟩,rfl⟩ rfl fun s₁ Q x₁ e₁ fr r₁ hns q=>?_
  have ho₁:s₁.heap.get? b=some { cls:=.ref B.cls,data:=.seq vs.toArray n,dict:=some Dx }:=by
   obtain⟨c',h1,h2,h3⟩:=e₁.ver i c hc
   obtain rfl:=Option.some.inj (hc.symm.trans h1)
   exact (h3 rfl).2 b hbi _ ho
  refine ks_wpAt_execs_cons (ks_wpAt_Return_some (rI C S iY0 x₁ P hline hns rfl ho₁ rfl (fun c h=>by cases h) (eS0 K) (by decide) fun h' tk u hk hu=>?_))
  refine jH iY0.bt hu (by decide+kernel) F.entry_list_len (fun A E Q q=>wpAny_of_eq (cb_len b) q) ?_
  show wpAny _ _ (do retInt (← seqSize b)) _ _ _
  unfold seqSize
  refine wpAny_bind (wpAny_bind (wpAny_load (hk _ _ ho₁) ?_))
  refine wpAny_pure (wpAny_bind (wpAny_mkInt (wpAny_pure ⟨_,rfl,?_⟩)))
  obtain⟨x₂,e₂⟩:=x₁.grow ok (s':={ s₁ with heap:=h',toks:=tk+1 }) rfl x₁.gens hk
  refine q _ _ ρ x₂ e₂.weak ⟨tk,?_⟩
  show Value.int (vs.toArray.size:Int) tk=Value.int (xs.length:Int) tk
  rw[List.size_toArray,hr.length]
end
section
variable {B:Bs}{A:Around}{ρ:List Addr}{σ:Sto}{s:Shared}{E:Value→Shared→Prop}
noncomputable def objK{β:Type}(args:List PV)(σ:Sto)(f:Nat→Nat→List PV→Option β):Option β:=one args fun a=>eS a fun i=>grd (aI σ (.lst i)=true) (opt σ[i]? fun c=>rR c.d fun di xs=>f i di xs)
theorem nG{β:Type}{r:β}{args:List PV}{σ:Sto}{f:Nat→Nat→List PV→Option β}(h:objK args σ f=some r):∃i c di xs,args=[.lst i]∧aI σ (.lst i)=true∧σ[i]?=some c∧c.d=.acc di xs∧f i di xs=some r:=by
 obtain⟨a,rfl,h⟩:=cB h
 obtain⟨i,rfl,h⟩:=cR h
 obtain⟨hacc,h⟩:=grd_some h
 obtain⟨c,hc,h⟩:=aA h
 obtain⟨di,xs,hd,h2⟩:=eO h
 exact⟨i,c,di,xs,rfl,hacc,hc,hd,h2⟩
noncomputable def wE:Fn:=fun args σ=>objK args σ fun i di xs=>grd (xs.length≤10000) (match xs.getLast? with
    |none=>some (.tup [.str "",.str ""],σ)
    |some y=>some (y,aC σ i (.acc di xs.dropLast)))
theorem cb_pop{K:Frag}(_:ClsOk B K){cd:ClassData}{cc:Addr}{mg mb:Str→Option Value}(S:SupOk B K cd cc mg mb)(hmod:mroIn K B.cls (.type "module")=some false)(hqn:cd.qualname="_Accumulator"){x:Addr}{ox:Obj}(X:K.In s.heap)(hx:s.heap.get? x=some ox)(hxc:ox.cls=.ref B.cls)(hxd:∀c,ox.data≠ .cls c)
  {Q:Unit→Shared→Prop} (q:Q () s):wpAny (model B.prog B.w) A (checkBoundCall "list.pop" ⟨[.ref x],[]⟩) Q E s:=by
 obtain⟨hh,g,d,t,os⟩:=s
 have hT:Looks (model B.prog B.w) hh (typeOf (.ref x)) (.ref B.cls):=hxc▸(Looks.ld hx).andThen .now
 have hM:Looks (model B.prog B.w) hh (isInstance (.ref x) (.type "module")) false:=hT.andThen (looks_mroIn X hmod)
 have hCT:Looks (model B.prog B.w) hh (typeOf (.ref B.cls)) (.type "type"):=looks_typeIn X S.ofType
 have hCD:Looks (model B.prog B.w) hh (classData B.cls) cd:=looks_clsIn X S.cls
 have h2:Bind.checkArgs "list.pop" ⟨.positional,s!"{(PySem.Str.ofString "_Accumulator").toString}.{Bind.lastOf "list.pop"}","pop",.self,[⟨"index",.posOnly,false⟩]⟩ ⟨[.ref x],[]⟩=pure ():=by kernel_rfl
 have h3:builtinKind "list.pop"=some .method:=by decide+kernel
 unfold checkBoundCall
 rw[h3]
 refine wpAny_bind (hM.here ?_)
 refine if_f Bool.false_ne_true ?_
 refine wpAny_bind (ks_wpAny_isType_inst hx hxd ?_)
 refine if_f Bool.false_ne_true ?_
 refine wpAny_bind (hT.here ?_)
 refine wpAny_bind (hCD.here ?_)
 refine wpAny_bind (hCT.here ?_)
 rw[if_pos (by decide),hqn]
 refine wpAny_of_eq h2 ?_
 exact q
theorem vT{h:Heap}:∀{xs:List PV} {y:PV} {vs:List Value},VRs B ρ h (xs++[y]) vs→∃us v,vs=us++[v]∧VRs B ρ h xs us∧VR B ρ h y v
 |[],y,vs,r=>by obtain⟨v,t,rfl,h1,h2⟩:=r;rw[show t=[]from h2];exact⟨[],v,rfl,rfl,h1⟩
 |x::xs,y,vs,r=>by
  obtain⟨v,t,rfl,h1,h2⟩:=r
  obtain⟨us,u,rfl,h3,h4⟩:=vT h2
  exact⟨v::us,u,rfl,⟨v,us,rfl,h1,h3⟩,h4⟩
theorem hG0{args:List PV}{σ σ':Sto}{v:PV}(h:wE args σ=some (v,σ')):∃i c di xs,args=[.lst i]∧aI σ (.lst i)=true∧σ[i]?=some c∧c.d=.acc di xs∧xs.length≤10000∧
  ((xs=[]∧v=.tup [.str "",.str ""]∧σ'=σ)∨∃ys y,xs=ys++[y]∧v=y∧σ'=aC σ i (.acc di ys)):=by
 obtain⟨i,c,di,xs,e,hacc,hc,hd,h⟩:=nG h
 obtain⟨hl,h⟩:=grd_some h
 refine⟨i,c,di,xs,e,hacc,hc,hd,hl,?_⟩
 rcases List.eq_nil_or_concat xs with e | ⟨ys,y,e⟩
 ·subst e
  obtain⟨e1,e2⟩:=Prod.mk.inj (Option.some.inj h)
  exact .inl ⟨rfl,e1.symm,e2.symm⟩
 ·rw[List.concat_eq_append]at e
  subst e
  rw[List.getLast?_concat]at h
  dsimp only at h
  rw[List.dropLast_concat]at h
  obtain⟨e1,e2⟩:=Prod.mk.inj (Option.some.inj h)
  exact .inr ⟨ys,y,rfl,e1.symm,e2.symm⟩
theorem qN{α:Type}(us:List α)(u:α):(us++[u]).toArray.eraseIdxIfInBounds us.length=us.toArray:=by simp -iota [Array.eraseIdxIfInBounds,List.eraseIdx_append_of_length_le]
theorem lM0{α:Type}(us:List α)(u:α):((seqIndex? (-1) (us++[u]).toArray.size).bind fun k=>(us++[u]).toArray[k]?.map (k,·))=some (us.length,u):=by
 have e1:seqIndex? (-1) (us++[u]).toArray.size=some us.length:=(congrArg (seqIndex? (-1)) (show (us++[u]).toArray.size=us.length+1 from List.length_append)).trans (vJ _)
 rw[e1]
 simp
theorem hT0(ok:BsOk B){K:Frag}(C:ClsOk B K){cd:ClassData}{cc:Addr}{mg mb:Str→Option Value}(S:SupOk B K cd cc mg mb)(hmod:mroIn K B.cls (.type "module")=some false)(hqn:cd.qualname="_Accumulator"){u:Addr}{h':Heap}{tk:Nat}{b:Addr} 
  (x:St B ρ σ s) (hk:∀a o,s.heap.get? a=some o→h'.get? a=some o) (hu:h'.get? u=some { cls:=.type "builtin_function_or_method",data:=.fields #[.builtin "list.pop",.ref b] }) {i di:Nat} {ys:List PV} {y:PV} (hc:∃c:Cell,σ[i]?=some c∧c.d=.acc di (ys++[y])) (hbi:ρ[i]?=some b) (hlen:(ys++[y]).length≤10000)
  {Q:Value→Shared→Prop} (q:∀v s',St B ρ (aC σ i (.acc di ys)) s'→Evo B [] ρ σ s.heap ρ (aC σ i (.acc di ys)) s'.heap→VR B ρ s'.heap y v→Q v s'):wpAny (model B.prog B.w) A (call (.ref u) []) Q E { s with heap:=h',toks:=tk }:=by
 obtain⟨c,hc,hd⟩:=hc
 have hcell:=x.cells i c b hc hbi
 rw[hd]at hcell
 obtain⟨vs,n,Dx,ho,hr,hD⟩:=hcell
 obtain⟨us,u₀,rfl,hr1,hr2⟩:=vT hr
 have ho1:=hk _ _ ho
 refine jH jQ0.bt hu (by decide+kernel) F.entry_list_pop (fun A E Q q=>cb_pop C S hmod hqn (fun b o z=>hk _ _ (C.in x b o z)) ho1 rfl (fun c h=>by cases h) q) ?_
 have hl:us.length≤9999:=by
  rw[hr1.length]
  rw[List.length_append,List.length_singleton]at hlen
  exact Nat.le_of_succ_le_succ hlen
 have hs1:(us++[u₀]).toArray.size≤10000:=by
  rw[List.size_toArray,List.length_append,List.length_singleton]
  exact Nat.succ_le_succ hl
 unfold Builtin.«list.pop»
 refine wpAny_bind (wpAny_of_eq (a:=(Value.ref b,[])) (by kernel_rfl) ?_)
 refine wpAny_bind (wpAny_pure ?_)
 refine wpAny_ite_false (by decide+kernel) ?_
 refine wpAny_bind (wpAny_listItems ho1 rfl ?_)
 refine if_f (by simp) ?_
 rw[lM0]
 dsimp only
 show wpAny _ _ (updateSeq b _ >>= fun _=>ret u₀) _ _ _
 refine wpAny_bind (wpAny_updateSeq ho1 rfl (wpAny_pure ⟨u₀,rfl,?_⟩) (Nat.le_trans hs1 (by decide)) (by rw[qN,List.size_toArray];exact Nat.le_trans hl (by decide)))
 obtain⟨x₃,e₃⟩:=x.grow ok (s':={ s with heap:=h',toks:=tk }) rfl x.gens hk
 have ho':(h'.update b (Obj.mapSeq (·.eraseIdxIfInBounds us.length))).get? b=some { cls:=.ref B.cls,data:=.seq us.toArray (n+1),dict:=some Dx }:=by
  rw[Heap.get?_update_self _ ho1 (by simp[Obj.mapSeq,Obj.isFreed])]
  simp only[Obj.mapSeq,qN]
  simp
 obtain⟨x₄,e₄⟩:=x₃.set ok (s':={ s with heap:=h'.update b (Obj.mapSeq (·.eraseIdxIfInBounds us.length)),toks:=tk }) (d:=.acc di ys) rfl rfl hbi (fun c o hb ho=>(Heap.get?_update_other _ _ (Ne.symm hb)).trans ho)
  (fun σ' e=>⟨us,n+1,Dx,ho',VRs.evo e _ (VRs.evo e₃ _ hr1),hD⟩) ⟨_,ho',fun vs h=>by cases h⟩
 exact q _ _ x₄ (e₃.trans e₄) (VR.evo e₄ _ (VR.evo e₃ _ hr2))
theorem iK0(ok:BsOk B){K:Frag}(C:ClsOk B K){cd:ClassData}{cc:Addr}{mg mb:Str→Option Value}(S:SupOk B K cd cc mg mb)(hmod:mroIn K B.cls (.type "module")=some false)(hqn:cd.qualname="_Accumulator"){a L:Addr}{fd:FuncData}{names:List (Str×NameKind)}{body:List Stmt}{p0 p1 apos pos rp:Pos}
  (P:SupDef B a fd names ["self"] body cc) (hline:(apos.endLine==pos.line)=true) (x:St B ρ σ s) {b:Addr} (hns:s.heap.Ns L fun y=>List.lookup y ([Str.ofString "self"].zip [Value.ref b])) {i di:Nat} {c:Cell} {ys:List PV} {y:PV} (hc:σ[i]?=some c) (hd:c.d=.acc di (ys++[y])) (hbi:ρ[i]?=some b) (hlen:(ys++[y]).length≤10000)
  {Q:Flow→Shared→Prop} (q:∀v s',St B ρ (aC σ i (.acc di ys)) s'→Evo B [] ρ σ s.heap ρ (aC σ i (.acc di ys)) s'.heap→VR B ρ s'.heap y v→Q (.ret v) s'):
  _root_.PySem.wpAt (model B.prog B.w) A (.func body (callEnv fd L a)) (execs [.Return (some (.Call (.Attribute (.Call (.Name "super" p0) [] [] p1) "pop" apos) [] [] pos)) rp] (callEnv fd L a)) Q E s:=by
 have hcell:=x.cells i c b hc hbi
 rw[hd]at hcell
 obtain⟨vs,n,Dx,ho,hr,hD⟩:=hcell
 exact ks_wpAt_execs_cons (ks_wpAt_Return_some (rI C S jQ0 x P hline hns rfl ho rfl (fun c h=>by cases h) (hF0 K) (by decide) fun h' tk u hk hu=>hT0 ok C S hmod hqn x hk hu ⟨c,hc,hd⟩ hbi hlen q))
theorem popC_ok(ok:BsOk B){G:Gl}{K:Frag}(C:ClsOk B K){cd:ClassData}{cc:Addr}{mg mb:Str→Option Value}(S:SupOk B K cd cc mg mb)(hmod:mroIn K B.cls (.type "module")=some false)(hqn:cd.qualname="_Accumulator"){k:Nat}(gok:GlOk B k G mg mb){a:Addr}{fd:FuncData}{names:List (Str×NameKind)}{p0 p1 apos pos rp:Pos}
  {test:Expr} {first:List Stmt} {ip:Pos}
  (P:SupDef B a fd names ["self"] [.If test first [] ip,.Return (some (.Call (.Attribute (.Call (.Name "super" p0) [] [] p1) "pop" apos) [] [] pos)) rp] cc) (hline:(apos.endLine==pos.line)=true)
  (hb:∀s v,BindsTo s fd ⟨[v],[]⟩ [("self",v)])
  (htest:∀(σ:Sto) (i di:Nat) (c:Cell) (xs:List PV),σ[i]?=some c→c.d=.acc di xs→aI σ (.lst i)=true→xs.length≤10000→dH G 100 ⟨names,[("self",.lst i)]⟩ σ test (fun b s=>some (b,s))=some (xs.isEmpty,σ))
  (hfirst:∀cx σ,cC G 100 cx σ first (fun f c s=>some (f,c,s))=some (.ret (.tup [.str "",.str ""]),cx,σ)):FnOk B (k+1) (.ref a) wE where
 able:=let ⟨o,ho,hd⟩:=P.D.obj;fM ho P.D.tb hd
 run:=fun A ρ σ s args vals v σ' R x r h=>by
  obtain⟨i,c,di,xs,rfl,hacc,hc,hd,hlen,hcase⟩:=hG0 h
  obtain⟨_,_,rfl,⟨b,rfl,hbi⟩,r2⟩:=r
  rw[show _=[]from r2]
  have HT:Tr B k ⟨names,[("self",.lst i)]⟩ σ test xs.isEmpty σ:=(eQ (β:=Bool×Sto) ok gok 100).isT (htest σ i di c xs hc hd hacc hlen) fun b' σ₁ e H=>by
   obtain⟨rfl,rfl⟩:=Prod.mk.inj (Option.some.inj e)
   exact H
  refine eV ok P.D R x (args:=[.lst i]) (vals':=[.ref b]) (hb s _) ⟨_,_,rfl,⟨b,rfl,hbi⟩,rfl⟩ rfl fun s₁ Q x₁ e₁ fr r₁ hns q=>?_
  have R':=R.deeper (callEnv fd s.heap.objs.size a)
  refine ks_wpAt_execs_cons (ks_wpAt_If (wpAt_of_wpAny (HT.use R' x₁ fr fun bv ρ₂ s₂ x₂ e₂ fr₂ hbv=>?_)))
  subst hbv
  rcases hcase with⟨rfl,rfl,rfl⟩ | ⟨ys,y,rfl,rfl,rfl⟩
  ·have HF:S1 B k ⟨names,[("self",.lst i)]⟩ σ' (execs first) (.ret (.tup [.str "",.str ""])) ⟨names,[("self",.lst i)]⟩ σ':=(kI (β:=Fl×Cx×Sto) ok gok 100).exs (hfirst ⟨names,[("self",.lst i)]⟩ σ') fun f c σ₁ e H=>by
    obtain⟨rfl,e2⟩:=Prod.mk.inj (Option.some.inj e)
    obtain⟨rfl,rfl⟩:=Prod.mk.inj e2
    exact H
   refine wpAt_of_wpAny (HF R' x₂ fr₂ fun f s₃ ρ₃ p=>?_)
   obtain⟨val,hf,hv⟩:=p.fl
   subst hf
   exact q _ _ ρ₃ p.st (e₂.weak.trans p.evo) hv
  ·rw[show (ys++[v]).isEmpty=false by cases ys<;>rfl]
   refine wpAt_of_wpAny (wpAny_pure ?_)
   exact iK0 ok C S hmod hqn P hline x₂ (hns.at' fun o ho=>e₂.kp.nil ho (fr.ofX _ List.mem_cons_self).1 (fr.ofX _ List.mem_cons_self).2.1) hc hd (e₂.at hbi) hlen fun v s' x' e' hv=>q _ _ ρ₂ x' (e₂.weak.trans e'.weak) hv
end
noncomputable abbrev eT(C dx:Addr):Obj:={ cls:=.ref C,dict:=some dx,data:=.seq #[] }
structure MakesL (K:Frag) (C fI:Addr) (cd:ClassData):Prop where
 obj:∃oc od sl,K.lookup C=some ⟨oc,od,.cls cd,sl⟩∧(sl.toList[4]?).join=some (.builtin "list.__new__")
 del:cd.hasDel=false
 mro:cd.mro=[.ref C,.type "list",.type "object"]
 call:specialIn K (.ref C) "__call__"=some (some (.builtin "type.__call__"))
 typ:instIn K (.ref C) (.type "type")=some true
 init:findIn K (.ref C) "__init__"=some (some (.ref fI))
 fn:typeIn K (.ref fI)=some (.type "function")
section
variable {prog:Program}{w:World}{A:Around}{K:Frag}{C fI:Addr}{cd:ClassData}{R:Result→Shared→Prop}{h:Heap}{g:Array GenState}{d:Drawn}{t:Nat}{os:OsState}
theorem MakesL.cls(Y:MakesL K C fI cd):clsIn K C=some cd:=by
 obtain⟨oc,od,sl,ho,_⟩:=Y.obj
 unfold clsIn;rw[ho]
theorem MakesL.mroOf'(Y:MakesL K C fI cd)(X:K.In h):Looks (model prog w) h (mroOf (.ref C)) [.ref C,.type "list",.type "object"]:=by
 have:=(looks_clsIn (M:=model prog w) X Y.cls).andThen (f:=fun c=>pure c.mro) .now
 rw[Y.mro]at this
 exact this
theorem MakesL.made(Y:MakesL K C fI cd)(X:K.In h):Looks (model prog w) h (Bind.madeBy (.ref C)) (some "list.__new__"):=by
 obtain⟨oc,od,sl,ho,hs⟩:=Y.obj
 intro A Q E s k q
 unfold Bind.madeBy
 refine wpAny_bind (Y.mroOf' X A _ E s k ?_)
 rw[List.forIn_cons]
 refine wpAny_bind (wpAny_bind (wpAny_bind (wpAny_bind (wpAny_loadPart (k _ _ (X _ _ ho)) (wpAny_pure ?_)))))
 dsimp only
 rw[← Array.getElem?_toList,hs]
 exact wpAny_pure (wpAny_pure (wpAny_pure q))
theorem MakesL.base(Y:MakesL K C fI cd)(X:K.In h):Looks (model prog w) h (Bind.staticBase (.ref C)) (.ref C):=by
 intro A Q E s k q
 unfold Bind.staticBase
 refine wpAny_bind (Y.mroOf' X A _ E s k ?_)
 rw[List.forIn_cons]
 exact wpAny_bind (wpAny_bind (wpAny_bind (Y.made X A _ E s k (wpAny_pure (wpAny_pure (wpAny_pure q))))))
theorem MakesL.sub(Y:MakesL K C fI cd)(X:K.In h){b:Value}(hb:([.ref C,.type "list",.type "object"]:List Value).contains b=true):Looks (model prog w) h (isSubtype (.ref C) b) true:=by
 refine looks_mroIn X ?_
 unfold mroIn
 rw[Y.cls,Option.bind_some,Y.mro,if_neg (by simp),hb]
theorem iZ0{rest:List Value}(Y:MakesL K C fI cd)(X:K.In h)
  (hq:R (.ok (.ret (.ref (h.objs.size+1)))) ⟨(h.push emptyDict).push (eT C h.objs.size),g,d,t,os⟩):
  codeAny (model prog w) A (.call (.builtin "list.__new__") ⟨.ref C::rest,[]⟩) R ⟨h,g,d,t,os⟩:=by
 have made:=Y.made (prog:=prog) (w:=w) X
 have base:=Y.base (prog:=prog) (w:=w) X
 have typ:Looks (model prog w) h (isInstance (.ref C) (.type "type")) true:=looks_instIn X Y.typ
 have hsub:Looks (model prog w) h (isSubtype (.ref C) (.type "list")) true:=Y.sub X (by simp)
 have istype:Looks (model prog w) h (isType (.ref C)) true:=fun A Q E s k q=>by
  obtain⟨oc,od,sl,ho,hs⟩:=Y.obj
  obtain⟨hh,g,d,t,os⟩:=s
  exact ks_wpAny_isType_cls (k _ _ (X _ _ ho)) rfl q
 have k1:builtinKind "list.__new__"=some .builtinFn:=by decide+kernel
 have k2:splitId "list.__new__"=some ("list","__new__"):=by decide+kernel
 refine codeAny_of_tree ?_
 show wpAny _ A.in1 (do checkBuiltinCall "list.__new__" ⟨.ref C::rest,[]⟩;again (.builtin "list.__new__" ⟨.ref C::rest,[]⟩)) _ _ _
 refine wpAny_bind ?_
 unfold checkBuiltinCall
 rw[k1,k2]
 dsimp only
 repeat (first | ((with_reducible refine if_f ?ic ?_);(case ic=>first | (rw[bne_self_eq_false];exact Bool.false_ne_true) | exact Bool.false_ne_true)) | ((with_reducible refine if_t ?ic ?_);(case ic=>first | exact beq_self_eq_true _ | rfl)) | lk)
 refine⟨plainId_quiet F.plain_list_new _,codeAny_builtin_stack F.entry_list_new rfl fun p st=>?_⟩
 rw[Around.under_plainId F.plain_list_new _]
 have hsub':Looks (model prog w) h (isSubtype (.ref C) (.type (("list.__new__".splitOn ".__new__").headD ""))) true:=by rw[owner_list_new];exact hsub
 obtain⟨oc,od,sl,hC,hs⟩:=Y.obj
 repeat (first | ((with_reducible refine if_f ?ic ?_);(case ic=>first | (rw[bne_self_eq_false];exact Bool.false_ne_true) | exact Bool.false_ne_true)) | ((with_reducible refine if_t ?ic ?_);(case ic=>first | exact beq_self_eq_true _ | rfl)) | lk)
 rw[owner_list_new]
 dsimp only
 repeat (first | ((with_reducible refine if_f ?ic ?_);(case ic=>first | (rw[bne_self_eq_false];exact Bool.false_ne_true) | exact Bool.false_ne_true)) | ((with_reducible refine if_t ?ic ?_);(case ic=>first | exact beq_self_eq_true _ | rfl)) | lk)
 refine wpAny_load (Heap.get?_push_of_some _ (Heap.get?_push_of_some _ (X _ _ hC))) ?_
 dsimp only
 rw[Y.del]
 refine wpAny_pure ?_
 refine if_f Bool.false_ne_true ?_
 refine wpAny_pure (wpAny_pure ?_)
 show R _ _
 rw[Heap.size_push]
 exact hq
theorem fO0{rest:List Value}(Y:MakesL K C fI cd)(X:K.In h)
  (hq:codeAny (model prog w) (A.under (.builtin "type.__call__" ⟨.ref C::rest,[]⟩)) (.call (.ref fI) ⟨.ref (h.objs.size+1)::rest,[]⟩) (InitBack (h.objs.size+1) R) ⟨(h.push emptyDict).push (eT C h.objs.size),g,d,t,os⟩):
  codeAny (model prog w) A (.call (.ref C) ⟨rest,[]⟩) R ⟨h,g,d,t,os⟩:=by
 have made:=Y.made (prog:=prog) (w:=w) X
 have typ:Looks (model prog w) h (isInstance (.ref C) (.type "type")) true:=looks_instIn X Y.typ
 have call:Looks (model prog w) h (specialOf (.ref C) "__call__") (some (.builtin "type.__call__")):=looks_specialIn X Y.call
 have hm:=Y.mroOf' (prog:=prog) (w:=w) X
 have self:Looks (model prog w) h (isSubtype (.ref C) (.ref C)) true:=Y.sub X (by simp)
 have hi:Looks (model prog w) h (typeLookup (.ref C) "__init__") (some (.ref fI)):=looks_findIn X Y.init
 have hb:=fun self=>bind_fn (M:=model prog w) X (f:=fI) self Y.fn
 obtain⟨oc,od,sl,hC,hs⟩:=Y.obj
 refine codeAny_of_tree ?_
 show wpAny _ _ (callAny (.ref C) _) _ _ _
 refine nd_load (X _ _ hC) ?_
 show wpAny _ _ (callAny.viaDunder (.ref C) _) _ _ _
 unfold callAny.viaDunder
 refine wpAny_bind (call.at ?_)
 dsimp only
 rw[tc_bind]
 refine wpAny_bind (wpAny_pure (wpAny_bind (wpAny_pure ?_)))
 refine wpAny_pure (a:=Fin.again (.call (.builtin "type.__call__") ⟨.ref C::rest,[]⟩)) (And.intro rfl ?_)
 refine codeAny_call_builtin_at (Code.quiet_builtin _ (by decide+kernel)) entry_typeCall (check_slot tc_kind tc_split typ (tc_args _ _ _) ?_)
 unfold Builtin.«type.__call__»
 repeat (first | ((with_reducible refine if_f ?ic ?_);(case ic=>exact Bool.false_ne_true)) | with_reducible refine wpAny_call ?_ | lk)
 refine iZ0 Y X ?_
 have k:∀b o,h.get? b=some o→((h.push emptyDict).push (eT C h.objs.size)).get? b=some o:=fun b o e=>Heap.get?_push_of_some _ (Heap.get?_push_of_some _ e)
 have hx:((h.push emptyDict).push (eT C h.objs.size)).get? (h.objs.size+1)=some (eT C h.objs.size):=by heap_get
 have t1:Looks (model prog w) ((h.push emptyDict).push (eT C h.objs.size)) (typeOf (.ref (h.objs.size+1))) (.ref C):=(Looks.ld hx).andThen .now
 have s1:=self.keeps k
 have i1:=hi.keeps k
 have b1:=(hb (.ref (h.objs.size+1))).keeps k
 unfold isInstance callSpecial? specialOf
 repeat (first | with_reducible refine wpAny_call ?_ | lk)
 refine codeAny_mono hq fun r s' z=>?_
 rcases r with e | (v | _ | _ | _)<;>first | exact z | exact z.elim | skip
 obtain⟨rfl,z⟩:=z
 exact wpAny_pure (wpAny_pure z)
end
open PySem.Builtin PySem.Builtin.ObjectAttr PySem.Builtin.Getset_descriptor
section
variable {B:Bs}{A:Around}{ρ:List Addr}{σ:Sto}{s:Shared}{E:Value→Shared→Prop}
theorem yV(self:Value)(C:Addr):refuseLoop self "__setattr__" [.ref C,.type "list",.type "object"]=pure ():=by
 rw[refuseLoop_ref]
 kernel_rfl
noncomputable def vL(hash:Int)(t:Tok)(v:Value):Obj:={ cls:=.type "dict",data:=.dict #[⟨hash,.str "_initial_size" t,v⟩] 1 }
theorem wJ{K:Frag}{fI:Addr}{cd:ClassData}(Y:MakesL K B.cls fI cd)(hdict:cd.hasDict=true)(X:K.In s.heap){x dx:Addr}{data:Data}(hx:s.heap.get? x=some { cls:=.ref B.cls,dict:=some dx,data:=data })(hnc:∀c,data≠ .cls c)(hd:s.heap.get? dx=some emptyDict)
  (hs:findIn K (.ref B.cls) "__setattr__"=some (some (.builtin "object.__setattr__"))) (ht:takerIn K B.cls "_initial_size"=some none) {v:Value} {Q:Unit→Shared→Prop}
  (h:∀h' tk hash t,h'.get? dx=some (vL hash t v)→(∀b o,b≠dx→s.heap.get? b=some o→h'.get? b=some o)→Q () { s with heap:=h',toks:=tk }):
  wpAny (model B.prog B.w) A (setAttr (.ref x) "_initial_size" v) Q E s:=by
 obtain⟨hh,g,d,t,os⟩:=s
 have I:InstAt hh x { cls:=.ref B.cls,dict:=some dx,data:=data } B.cls (some emptyDict):=⟨hx,rfl,by unfold notCls;cases data<;>first | rfl | (rename_i c;exact absurd rfl (hnc c)),hd⟩
 have SF:=PySem.F.store_object
 refine set_plain X I hs ?_
 have hc:=Y.cls
 have sub:Looks (model B.prog B.w) hh (isInstance (.ref x) (.type "object")) true:=I.type.andThen (Y.sub X (by simp))
 refine codeAny_call_builtin SF.slot.plain SF.entry (@check_slot (model B.prog B.w) _ _ ⟨hh,g,d,t+1,os⟩ "object.__setattr__" "object" "__setattr__" (.ref x) [.str "_initial_size" t,v] [] _ SF.kind SF.split sub (SF.args (.ref x) (.str "_initial_size" t) v) ?_)
 obtain⟨attr,ha,hr⟩:=Option.bind_eq_some_iff.mp ht
 have hm:Looks (model B.prog B.w) hh (mroOf (.ref B.cls)) _:=Y.mroOf' X
 have L3:Looks (model B.prog B.w) hh (storeTaker? attr) none:=by
  cases attr with
  |none=>cases hr;exact .now
  |some a=>
   obtain⟨b,hb,e⟩:=Option.map_eq_some_iff.mp hr
   refine (looks_takesIn X hb).andThen ?_
   cases b
   ·exact .now
   ·cases e
 rw[osa_eq,refuse_eq]
 refine wpAny_bind (wpAny_bind (I.type.at (wpAny_bind (hm.at ?_))))
 rw[yV]
 refine wpAny_pure (wpAny_bind (I.type.at (wpAny_bind ((looks_findIn X ha).at (wpAny_bind (L3.at ?_))))))
 refine wpAny_bind (wpAny_pure (wpAny_bind (wpAny_bind (wpAny_loadPart hx (wpAny_bind ((looks_clsIn X hc).at ?_))))))
 rw[hdict]
 refine wpAny_pure (a:=some dx) (wpAny_bind (wpAny_pure (wpAny_bind ?_)))
 unfold nsSet
 refine wpAny_bind (wpAny_bind (wpAny_askSetting (wpAny_pure (wpAny_bind (wpAny_mkText (wpAny_bind (wpAny_loadPart hd ?_)))))))
 have c:aRefKeyMayBeTheName "_initial_size" #[]=false:=by rw[aRefKeyMayBeTheName_at];simp
 dsimp only[emptyDict]
 rw[c]
 generalize hH:(if (Str.ofString "_initial_size").cps.isEmpty=true then (0:Int) else _)=hash
 have hh':(hh.update dx (Obj.putName "_initial_size" hash (.str "_initial_size" (t+1)) v)).get? dx=some (vL hash (t+1) v):=by
  rw[Heap.get?_update_self _ hd (by kernel_rfl)]
  kernel_rfl
 refine wpAny_updatePart hd ?_
 refine wpAny_bind (wpAny_lookBehind hh' (pastItsLine_dict (by rw[sizeLine_eq];simp)) ?_)
 exact wpAny_pure (h _ _ hash (t+1) hh' fun b o hb e=>(Heap.get?_update_other _ _ (Ne.symm hb)).trans e)
theorem zW{h:Heap}{dx:Addr}{hash:Int}{t:Tok}{v:Value}(e:h.get? dx=some (vL hash t v)):h.Ns dx (fun y=>if y="_initial_size" then some v else none):=by
 refine⟨_,_,_,e,rfl,fun en hm=>?_,fun name=>?_⟩
 ·simp at hm;subst hm;exact⟨_,_,rfl⟩
 ·unfold nsFind findBy
  by_cases hn:name="_initial_size"
  ·subst hn
   simp[Value.isStr]
  ·have:((PySem.Str.ofString "_initial_size")==name)=false:=by simpa using fun e=>hn e.symm
   simp[Value.isStr,this,hn]
noncomputable def uY(l:Sto)(k:Int):PV×Sto:=(.lst (l.length+1),l++[⟨1,.ins [("_initial_size",.int k)]⟩,⟨1,.acc l.length []⟩])
theorem zB(σ:Sto)(c c':Cell)(d:CD):aC (σ++[c,c']) σ.length d=σ++[⟨c.ver+1,d⟩,c']:=by
 unfold aC
 apply List.ext_getElem?
 intro i
 rw[List.getElem?_modify]
 rcases Nat.lt_trichotomy i σ.length with h | h | h
 ·rw[List.getElem?_append_left h,List.getElem?_append_left h]
  have:¬ σ.length=i:=Nat.ne_of_gt h
  simp[this]
 ·subst h
  simp
 ·have:¬ σ.length=i:=Nat.ne_of_lt h
  obtain⟨j,rfl⟩:=Nat.exists_eq_add_of_lt h
  rw[List.getElem?_append_right (Nat.le_of_lt h),List.getElem?_append_right (Nat.le_of_lt h)]
  have e:σ.length+j+1 - σ.length=j+1:=by rw[Nat.add_assoc,Nat.add_sub_cancel_left]
  rw[e]
  simp[this]
theorem iC0(σ:Sto)(c:Cell)(d:CD):aC (σ++[c]) σ.length d=σ++[⟨c.ver+1,d⟩]:=by
 unfold aC
 apply List.ext_getElem?
 intro i
 rw[List.getElem?_modify]
 rcases Nat.lt_trichotomy i σ.length with h | h | h
 ·rw[List.getElem?_append_left h,List.getElem?_append_left h]
  have:¬ σ.length=i:=Nat.ne_of_gt h
  simp[this]
 ·subst h
  simp
 ·have:¬ σ.length=i:=Nat.ne_of_lt h
  rw[List.getElem?_eq_none (by rw[List.length_append];exact h),List.getElem?_eq_none (by rw[List.length_append];exact h)]
  simp
theorem xS(σ:Sto)(c c':Cell)(d:CD):aC (σ++[c,c']) (σ.length+1) d=σ++[c,⟨c'.ver+1,d⟩]:=by
 have:=iC0 (σ++[c]) c' d
 simpa using this
end
section
variable {B:Bs}{A:Around}{ρ:List Addr}{σ:Sto}{s:Shared}{E:Value→Shared→Prop}
theorem hU0(ok:BsOk B){K:Frag}(C:ClsOk B K){cd:ClassData}{cc:Addr}{mg mb:Str→Option Value}(S:SupOk B K cd cc mg mb){fI:Addr}(Y:MakesL K B.cls fI cd)(hdict:cd.hasDict=true)
  (hsa:findIn K (.ref B.cls) "__setattr__"=some (some (.builtin "object.__setattr__"))) (htk:takerIn K B.cls "_initial_size"=some none)
  {k:Nat} {fd:FuncData} {names:List (Str×NameKind)} {p0 p1 apos pos rp sp ap vp ep:Pos}
  (P:SupDef B fI fd names ["self","initial_size"] [.Assign [.Attribute (.Name "self" sp) "_initial_size" ap] (.Name "initial_size" vp) ep,.Expr (.Call (.Attribute (.Call (.Name "super" p0) [] [] p1) "__init__" apos) [] [] pos) rp] cc) (hline:(apos.endLine==pos.line)=true)
  {vals:List Value} {i di:Nat} {x D:Addr} {kk:Int} {kt:Tok} {vi vd:Nat} (hb:BindsTo s fd ⟨vals,[]⟩ [("self",.ref x),("initial_size",.int kk kt)])
  (R:Room (k+1) A) (st:St B ρ σ s) (hi:ρ[i]?=some x) (hd:ρ[di]?=some D) (hci:σ[i]?=some ⟨vi,.acc di []⟩) (hcd:σ[di]?=some ⟨vd,.ins []⟩) (hne:i≠di)
  {n:Nat} (hox:s.heap.get? x=some { cls:=.ref B.cls,dict:=some D,data:=.seq #[] n }) (hoD:s.heap.get? D=some emptyDict):
  codeAny (model B.prog B.w) A (.call (.ref fI) ⟨vals,[]⟩) (fun r s'=>match r with
   |.ok (.ret val)=>∃ρ',St B ρ' (aC (aC σ di (.ins [("_initial_size",.int kk)])) i (.acc di [])) s'∧Evo B [] ρ σ s.heap ρ' (aC (aC σ di (.ins [("_initial_size",.int kk)])) i (.acc di [])) s'.heap∧VR B ρ' s'.heap .none val
   |_=>False) s:=by
 have hxD:x≠D:=fun e=>hne ((List.getElem?_inj (List.getElem?_eq_some_iff.mp hi).1 st.nodup).mp (hi.trans (e▸hd.symm)))
 refine tL ok P.D R st (args:=[.lst i,.int kk]) (vals':=[.ref x,.int kk kt]) hb ⟨_,_,rfl,⟨x,rfl,hi⟩,_,_,rfl,⟨_,rfl⟩,rfl⟩ rfl fun s₁ x₁ e₁ fr r₁ hns=>?_
 have hox₁:s₁.heap.get? x=some { cls:=.ref B.cls,dict:=some D,data:=.seq #[] n }:=by
  obtain⟨c',h1,h2,h3⟩:=e₁.ver i _ hci
  rw[hci]at h1;cases h1
  exact (h3 rfl).2 x hi _ hox
 have hoD₁:s₁.heap.get? D=some emptyDict:=by
  obtain⟨c',h1,h2,h3⟩:=e₁.ver di _ hcd
  rw[hcd]at h1;cases h1
  exact (h3 rfl).2 D hd _ hoD
 have hkind:(callEnv fd s.heap.objs.size fI).scope.kind=.function:=P.D.kind
 have hk1:(callEnv fd s.heap.objs.size fI).kindOf "self"=some .local:=by show fd.scope.names.lookup _=_;rw[P.D.nms];exact P.self
 have hk2:(callEnv fd s.heap.objs.size fI).kindOf "initial_size"=some .local:=by show fd.scope.names.lookup _=_;rw[P.D.nms];exact P.D.pk "initial_size" (by simp)
 refine ks_wpAt_execs_cons (ks_wpAt_Assign_Attr (wpAt_of_wpAny ?_) ?hs)
 case hs=>rfl
 refine wpAny_Name (wpAny_loadName_local hkind hk2 hns rfl ?_) (by decide)
 refine wpAny_Name (wpAny_loadName_local hkind hk1 hns rfl ?_) (by decide)
 refine wJ Y hdict (C.in x₁) hox₁ (fun c h=>by cases h) hoD₁ hsa htk fun h' tk hash t hD' hk'=>?_
 obtain⟨x₂,e₂⟩:=x₁.set ok (s':={ s₁ with heap:=h',toks:=tk }) (d:=.ins [("_initial_size",.int kk)]) rfl rfl hd (fun b o hb e=>hk' b o hb e)
  (fun σ' e=>⟨_,zW hD',fun y=>by
   by_cases hy:y="_initial_size"
   ·subst hy;simp only[List.lookup_cons,beq_self_eq_true,if_true];exact⟨_,rfl,_,rfl⟩
   ·have:(y==("_initial_size":Str))=false:=by simpa using hy
    simp only[List.lookup_cons,this,List.lookup_nil,hy,if_false]⟩) ⟨_,hD',fun vs h=>by cases h⟩
 have hns₂:h'.Ns s.heap.objs.size (fun y=>List.lookup y ([Str.ofString "self",Str.ofString "initial_size"].zip [Value.ref x,Value.int kk kt])):=by
  refine hns.at' fun o ho=>?_
  obtain⟨h1,h2,_⟩:=fr.ofX _ List.mem_cons_self
  exact e₂.kp.nil ho h1 h2
 have hox₂:h'.get? x=some { cls:=.ref B.cls,dict:=some D,data:=.seq #[] n }:=hk' _ _ hxD hox₁
 show _root_.PySem.wpAt _ _ _ (execs _ _) _ _ _
 refine ks_wpAt_execs_cons (ks_wpAt_Expr_any (rI C S cG0 x₂ P hline hns₂ rfl hox₂ rfl (fun c h=>by cases h) (aJ0 K) (by decide) fun h₃ tk₃ u hk hu=>?_) ?hi ?hs2)
 case hi=>
  unfold interactive
  simp[hkind]
 case hs2=>rfl
 refine jH cG0.bt hu (by decide+kernel) F.entry_list_init (fun A E Q q=>wpAny_of_eq (cb_init x) q) ?_
 obtain⟨x₃,e₃⟩:=x₂.grow ok (s':={ s₁ with heap:=h₃,toks:=tk₃ }) rfl x₂.gens hk
 unfold Builtin.«list.__init__»
 simp only[List.isEmpty_nil,Bool.not_true,Bool.false_eq_true,if_false,List.length_nil]
 rw[if_neg (by decide)]
 refine wpAny_bind (wpAny_listItems (hk _ _ hox₂) rfl ?_)
 show wpAny _ _ (updateSeq x _ >>= fun _=>_) _ _ _
 refine wpAny_bind (wpAny_updateSeq (hk _ _ hox₂) rfl ?_ (by simp) (by simp))
 refine wpAny_bind (wpAny_letGo (wpAny_pure ⟨_,rfl,?_⟩))
 have ho':(h₃.update x (Obj.mapSeq fun _=>#[])).get? x=some { cls:=.ref B.cls,data:=.seq #[] n,dict:=some D }:=by
  rw[Heap.get?_update_self _ (hk _ _ hox₂) (by simp[Obj.mapSeq,Obj.isFreed])]
  simp[Obj.mapSeq]
 obtain⟨x₄,e₄⟩:=x₃.set ok (s':={ s₁ with heap:=h₃.update x (Obj.mapSeq fun _=>#[]),toks:=tk₃ }) (i:=i) (a:=x) (d:=.acc di []) rfl rfl hi (fun c o hb ho=>(Heap.get?_update_other _ _ (Ne.symm hb)).trans ho)
  (fun σ' e=>⟨[],n,D,ho',rfl,hd⟩) ⟨_,ho',fun vs h=>by cases h⟩
 refine wpAt_of_wpAny ?_
 rw[arm_execs_nil]
 refine wpAny_pure ?_
 exact⟨ρ,x₄,(e₂.trans (e₃.trans e₄)).weak,rfl⟩
theorem Room.tc{k:Nat}{A:Around}(R:Room (k+2) A)(a:Args):Room (k+1) (A.under (.builtin "type.__call__" a)):=by
 have hw:(Code.builtin "type.__call__" a).weight≤1:=by
  have e:(Code.builtin "type.__call__" a).weight=0+(if (Code.builtin "type.__call__" a).isCreation=true then 1 else 0):=by kernel_rfl
  rw[e]
  split<;>decide
 have hu:(Code.builtin "type.__call__" a).cUnits=1:=by kernel_rfl
 refine⟨R.handled,Nat.lt_of_le_of_lt ?_ R.depth,Nat.lt_of_le_of_lt ?_ R.units⟩
 ·show A.depth+(Code.builtin "type.__call__" a).weight+8 * (k+1)≤A.depth+8 * (k+1+1)
  rw[Nat.add_assoc,Nat.add_comm (Code.weight _)]
  exact Nat.add_le_add_left (Nat.add_le_add_left (Nat.le_trans hw (by decide)) _) _
 ·show A.units+(Code.builtin "type.__call__" a).cUnits+64 * (k+1)+400≤A.units+64 * (k+1+1)+400
  rw[hu,Nat.add_assoc A.units,Nat.add_comm 1]
  exact Nat.add_le_add_right (Nat.add_le_add_left (Nat.add_le_add_left (show 1≤64 by decide) _) _) 400
noncomputable def zE:Fn:=fun args σ=>match args with
 |[]=>some (uY σ 0)
 |v::l=>match l with
  |[]=>bS v fun k=>some (uY σ k)
  |_::_=>none
theorem kV0(ok:BsOk B){K:Frag}(C:ClsOk B K){cd:ClassData}{cc:Addr}{mg mb:Str→Option Value}(S:SupOk B K cd cc mg mb){fI:Addr}(Y:MakesL K B.cls fI cd)(hdict:cd.hasDict=true)
  (hsa:findIn K (.ref B.cls) "__setattr__"=some (some (.builtin "object.__setattr__"))) (htk:takerIn K B.cls "_initial_size"=some none)
  {k:Nat} {fd:FuncData} {names:List (Str×NameKind)} {p0 p1 apos pos rp sp ap vp ep:Pos}
  (P:SupDef B fI fd names ["self","initial_size"] [.Assign [.Attribute (.Name "self" sp) "_initial_size" ap] (.Name "initial_size" vp) ep,.Expr (.Call (.Attribute (.Call (.Name "super" p0) [] [] p1) "__init__" apos) [] [] pos) rp] cc) (hline:(apos.endLine==pos.line)=true)
  {rest:List Value} {kk:Int} {kt:Tok} (hb:∀s ρ σ x,St B ρ σ s→BindsTo s fd ⟨.ref x::rest,[]⟩ [("self",.ref x),("initial_size",.int kk kt)])
  (R:Room (k+2) A) (st:St B ρ σ s):Ok B A ρ σ s (call (.ref B.cls) rest) (uY σ kk).2 (Is B (uY σ kk).1):=by
 obtain⟨h,g,d,t,os⟩:=s
 refine wpAny_call (fO0 Y (C.in st) ?_)
 have keep:∀b o,h.get? b=some o→((h.push emptyDict).push (eT B.cls h.objs.size)).get? b=some o:=fun b o e=>Heap.get?_push_of_some _ (Heap.get?_push_of_some _ e)
 have hx:((h.push emptyDict).push (eT B.cls h.objs.size)).get? (h.objs.size+1)=some (eT B.cls h.objs.size):=by heap_get
 have hD:((h.push emptyDict).push (eT B.cls h.objs.size)).get? h.objs.size=some emptyDict:=Heap.get?_push_of_some _ (Heap.get?_push_at rfl rfl)
 have nD:h.get? h.objs.size=none:=get?_size h
 have nx:h.get? (h.objs.size+1)=none:=by
  cases e:h.get? (h.objs.size+1)with
  |none=>rfl
  |some o=>
   have:=Heap.lt_size e
   exact absurd this (Nat.not_lt.mpr (Nat.le_succ _))
 obtain⟨fD1,fD2,fD3⟩:=st.dead ok nD
 obtain⟨fx1,fx2,fx3⟩:=st.dead ok nx
 obtain⟨x₁,e₁⟩:=st.grow ok (s':=⟨(h.push emptyDict).push (eT B.cls h.objs.size),g,d,t,os⟩) rfl st.gens keep
 obtain⟨x₂,e₂,i₂,v₂⟩:=x₁.adopt ok e₁ (D:=h.objs.size) (d:=.ins []) nD fD1 fD2 fD3 hD (by decide) (fun ρ' _=>⟨fun _=>none,⟨_,_,_,hD,rfl,fun e he=>absurd he (by simp),fun _=>rfl⟩,fun y=>rfl⟩)
 obtain⟨x₃,e₃,i₃,v₃⟩:=x₂.adopt ok e₂ (D:=h.objs.size+1) (d:=.acc σ.length []) nx (fun hm=>by
  rcases List.mem_append.mp hm with hm | hm
  ·exact fx1 hm
  ·simp at hm) fx2 fx3 hx (by intro e;cases e) (fun ρ' vk=>⟨[],_,h.objs.size,hx,rfl,vk.at_ _ _ i₂⟩)
 have hl:(σ++[(⟨0,CD.ins []⟩:Cell)]).length=σ.length+1:=by simp
 refine codeAny_mono (hU0 ok C S Y hdict hsa htk P hline (vals:=.ref (h.objs.size+1)::rest) (i:=σ.length+1) (di:=σ.length) (x:=h.objs.size+1) (D:=h.objs.size) (kk:=kk) (kt:=kt) (vi:=0) (vd:=0)
  (hb _ _ _ _ x₃) (R.tc _) x₃ (by rw[← hl];exact i₃) (v₃.at_ _ _ i₂) (by simp) (by simp) (by simp) hx hD) fun r s' hr=>?_
 rcases r with e | (_ | _ | _ | v)<;>first | exact hr.elim | skip
 obtain⟨ρ',x',e',hv⟩:=hr
 have hv':v=.none:=hv
 refine⟨hv',ρ',?_⟩
 have es:aC (aC (σ++[(⟨0,CD.ins []⟩:Cell)]++[(⟨0,.acc σ.length []⟩:Cell)]) σ.length (.ins [("_initial_size",.int kk)])) (σ.length+1) (.acc σ.length [])=(uY σ kk).2:=by
  have:σ++[(⟨0,CD.ins []⟩:Cell)]++[⟨0,CD.acc σ.length []⟩]=σ++[⟨0,CD.ins []⟩,⟨0,CD.acc σ.length []⟩]:=by simp
  rw[this,zB,xS]
  rfl
 rw[es]at x' e'
 have ev:=e₃.trans e'
 refine⟨x',ev,⟨_,rfl,?_⟩⟩
 exact e'.at (by rw[← hl];exact i₃)
end
noncomputable def aX:List PV→Option (List (Str×Str))
 |[]=>some []
 |v::vs=>xK v fun t=>two t fun x y=>fB x fun a=>fB y fun b=>opt (aX vs) fun ps=>some ((a,b)::ps)
section
variable {B:Bs}{A:Around}{ρ:List Addr}{σ:Sto}{s:Shared}{E:Value→Shared→Prop}
theorem rH{h:Heap}:∀{xs:List PV} {vs:List Value} {ps:List (Str×Str)},VRs B ρ h xs vs→aX xs=some ps→
  ∃(Ts:Nat→Addr) (ta tb:Nat→Tok),vs.length=ps.length∧∀j (p:Str×Str),ps[j]?=some p→vs[j]?=some (.ref (Ts j))∧h.IsTuple (Ts j) #[.str p.1 (ta j),.str p.2 (tb j)]∧Ts j∉B.Tb
 |[],vs,ps,r,e=>by
  obtain rfl:=Option.some.inj e
  rw[show vs=[]from r]
  exact⟨fun _=>0,fun _=>0,fun _=>0,rfl,fun j p h=>nos h⟩
 |x::xs,vs,ps,r,e=>by
  obtain⟨t0,e1,i1⟩:=zV e
  obtain⟨y,z,e2,i2⟩:=eW i1
  obtain⟨a,e3,i3⟩:=bZ i2
  obtain⟨b,e4,i4⟩:=bZ i3
  obtain⟨qs,hq,i5⟩:=aA i4
  obtain rfl:=Option.some.inj i5
  subst e1 e2 e3 e4
  obtain⟨v,t,rfl,h1,h2⟩:=r
  obtain⟨T0,us,rfl,_,hT,hI,hr⟩:=h1
  obtain⟨_,_,hus,⟨t1,rfl⟩,_,_,hus',⟨t2,rfl⟩,hnil⟩:=hr
  have hu:us=#[.str a t1,.str b t2]:=by rw[← Array.toList_inj,hus,hus',show _=[]from hnil]
  subst hu
  obtain⟨Ts,ta,tb,hl,hall⟩:=rH h2 hq
  refine⟨fun j=>j.casesOn T0 Ts,fun j=>j.casesOn t1 ta,fun j=>j.casesOn t2 tb,congrArg (· +1) hl,fun j p hp=>?_⟩
  cases j with
  |zero=>
   obtain rfl:=Option.some.inj hp
   exact⟨rfl,hI,hT⟩
  |succ j=>exact hall j p hp
theorem lQ0{K:Frag}(C:ClsOk B K)(x:St B ρ σ s){a:Addr}{ox:Obj}{od:Option Obj}{name:Str}{v:Value}{expr:Bool}(ho:s.heap.get? a=some ox)(hcl:ox.cls=.ref B.cls)(I:InstAt s.heap a ox B.cls od)(hf:findObj K B.cls od name=some (.value v))(hh:handedIn v=true)
  {Q:Value→Shared→Prop} (h:Q v { s with toks:=s.toks+1 }):wpAny (model B.prog B.w) A (getAttr (.ref a) name expr) Q E s:=by
 obtain⟨hp,g,d,tk,os⟩:=s
 have X:=C.in x
 have L0:=I.type (M:=model B.prog B.w)
 have L1:=looks_findIn (M:=model B.prog B.w) X C.ga
 have L2:=looks_findIn (M:=model B.prog B.w) X C.gattr
 have L3:=looks_find (M:=model B.prog B.w) X I hf
 have x₁:St B ρ σ ⟨hp,g,d,tk+1,os⟩:=x.tok _
 unfold getAttr getAttrBy
 refine wpAny_bind (wpAny_mkText (wpAny_holding (wpAny_bind (L0.at (wpAny_bind (L1.at ?_))))))
 have hne:(Value.builtin "list.__getattribute__"==.builtin "object.__getattribute__")=false:=by decide+kernel
 show wpAny _ _ (if (onTheHeap (.ref B.cls)&&(Value.builtin "list.__getattribute__"==.builtin "object.__getattribute__"))=true then _ else _) _ _ _
 rw[hne,Bool.and_false,if_neg (by decide)]
 unfold getAttrByItsOwn hookBefore callGetattribute boundAndCalled
 refine wpAny_bind ?_
 show wpAny _ _ (typeLookup (.ref B.cls) "__getattr__") _ _ _
 refine L2.at ?_
 refine wpAny_bind (wpAny_attempt (wpAny_holding ?_))
 show wpAny _ _ (if (expr&&onTheHeap (.builtin "list.__getattribute__"))=true then _ else _) _ _ _
 rw[if_neg (by cases expr<;>decide)]
 refine wpAny_bind (wpAny_of_eq (F.slot_list_getattribute.bind (.ref a)) ?_)
 refine wpAny_mono (Q:=fun v' s'=>v'=v∧s'=⟨hp,g,d,tk+1,os⟩) (E:=fun _ _=>False) (gP (owner:="list") (n:="__getattribute__") (by decide+kernel) (by first | exact .inl (by decide+kernel) | exact .inr (by decide+kernel)) (by decide+kernel) (fun A E Q q=>eU C x₁ ho hcl q) F.entry_list_ga (F.args_list_getattribute_2 _ _) ?_) (fun v' s' hv=>?_) fun _ _ z=>z.elim
 ·unfold Builtin.«object.__getattribute__»
  refine wpAny_bind (wpAny_pure ?_)
  refine wpAny_bind (wpAny_pure (wpAny_bind (L0.at (wpAny_bind (L3.at ?_)))))
  exact wpAny_pure ⟨v,rfl,rfl,rfl⟩
 ·obtain⟨rfl,rfl⟩:=hv
  show wpAny _ _ (handedOut v') _ _ _
  rw[handedOut_of hh];exact wpAny_pure h
theorem kO0{K:Frag}(C:ClsOk B K)(hh:hasDictIn K B.cls=true)(ha:findIn K (.ref B.cls) "_initial_size"=some none)(x:St B ρ σ s){i di:Nat}{c:Cell}{xs:List PV}{a:Addr}(hc:σ[i]?=some c)(hd:c.d=.acc di xs)(hai:ρ[i]?=some a)(hok:aI σ (.lst i)=true)
  {k:Int} {c':Cell} (hc':σ[di]?=some c') (hd':c'.d=.ins [("_initial_size",.int k)]) {env:Env} {nm:Str} {p pos:Pos} {m:Str→Option Value} (hkind:env.scope.kind=.function) (hkl:env.kindOf nm=some .local) (hns:s.heap.Ns env.locals m) (hm:m nm=some (.ref a)) (hdb:(nm==("__debug__":Str))=false)
  {Q:Value→Shared→Prop} (h:∀t tk,s.toks≤tk→Q (.int k t) { s with toks:=tk }):wpAny (model B.prog B.w) A (eval (.Attribute (.Name nm p) "_initial_size" pos) env) Q E s:=by
 have X:=C.in x
 obtain⟨vs,n,D,oD,k',t,hD,ho,hr,hoD,I,h1,h2⟩:=lG x hc hd hai hok
 have hk:k'=k:=by
  have hins:=x.cells di c' D hc' hD
  rw[hd']at hins
  obtain⟨m',⟨oD',es,ep,hoD',hdD,hk,hm⟩,hl⟩:=hins
  rw[hoD]at hoD';cases hoD'
  have h3:=hl "_initial_size"
  simp only[List.lookup_cons,beq_self_eq_true]at h3
  obtain⟨v,hv,t',rfl⟩:=h3
  have hany:es.toList.any (·.refKey)=false:=by
   rw[List.any_eq_false];intro e he;obtain⟨y,t,h⟩:=hk e (by simpa using he);simp[DictEntry.refKey,h]
  have:lookIn "_initial_size" oD=some (m' "_initial_size"):=by
   rw[← hm "_initial_size"]
   unfold lookIn nsFind findBy
   rw[hdD]
   dsimp only
   rw[← Array.find?_toList]
   cases es.toList.find? (·.key.isStr "_initial_size")with
   |some e=>rfl
   |none=>simp[hany]
  rw[h1,hv]at this
  simp at this
  exact this.1
 subst hk
 rw[arm_eval_Attribute]
 refine wpAny_bind ?_
 show wpAny _ _ (attributeBase (.Name nm p) "_initial_size" env (eval (.Name nm p) env)) _ _ _
 refine wpAny_Name (wpAny_loadName_local hkind hkl hns hm ?_) hdb
 refine wpAny_bind (wpAny_standAt (wpAny_bind (wpAny_holding (lQ0 C x ho rfl I (findObj_own hh ha rfl h1) rfl ?_))))
 exact wpAny_bind (wpAny_pure (wpAny_pure (h _ _ (Nat.le_succ _))))
end
noncomputable def dQ0(ps:List (Str×Str))(j:Nat):Int:=match ps[j]? with
 |some p=>(p.1.length:Int)+(p.2.length:Int)
 |none=>0
noncomputable def bH(ps:List (Str×Str)):Int:=preSum (dQ0 ps) ps.length
noncomputable def kF(σ:Sto)(di:Nat):Option Int:=match σ[di]? with
 |some c=>match c.d with
  |.ins kvs=>match kvs with
   |[(_,v)]=>match v with
    |.int k=>some k
    |_=>none
   |_=>none
  |_=>none
 |none=>none
theorem bZ0{σ:Sto}{di:Nat}{k:Int}{i:Nat}{c:Cell}{xs:List PV}(h:kF σ di=some k)(hc:σ[i]?=some c)(hd:c.d=.acc di xs)(hok:aI σ (.lst i)=true):∃c',σ[di]?=some c'∧c'.d=.ins [("_initial_size",.int k)]:=by
 obtain⟨c',k',h1,h2⟩:=sT hc hd hok
 unfold kF at h
 simp only[h1,h2]at h
 cases h
 exact⟨c',h1,h2⟩
structure GenOk (B:Bs) (K:Frag) (codes:List (Addr×Addr)) (mg mb:Str→Option Value) (bm:Addr) (ob:Obj):Prop where
 CO:CodesOk B codes
 C:ClsOk B K
 iter:findIn K (.ref B.cls) "__iter__"=some (some (.builtin "list.__iter__"))
 hh:hasDictIn K B.cls=true
 ha:findIn K (.ref B.cls) "_initial_size"=some none
 BM:BMod B.h₀ mainNs mg bm ob
 og:mainNs∉B.Tb
 om:bm∉B.Tb
 b:B.h₀.Ns builtinsNs mb
 ob:builtinsNs∉B.Tb
 ones:∀c c' P,(c,P)∈codes→(c',P)∈codes→c'=c
 sum:mg "sum"=none∧mb "sum"=some (.builtin "sum")
 len:mg "len"=none∧mb "len"=some (.builtin "len")
 emp:∃u,mg "EMPTYSTRING"=some (.str "" u)
structure ScOk (scope:Scope) (nm:Str):Prop where
 co:scope.isCoroutine=false
 clos:∀env,closureFor scope env=pure []
 cell:∀y∈scope.names,y.2≠ .cell
 h0:scope.names.lookup (".0":Str)=some NameKind.local
 xa:scope.names.lookup ("fws":Str)=some .local
 xb:scope.names.lookup ("part":Str)=some .local
 kind:scope.kind=.function
 nm:scope.names.lookup nm=some .globalImplicit
section
variable {B:Bs}{A:Around}{ρ:List Addr}{σ:Sto}{s:Shared}{E:Value→Shared→Prop}
theorem kR0{K:Frag}{codes:List (Addr×Addr)}{mg mb:Str→Option Value}{bm:Addr}{ob:Obj}(N:GenOk B K codes mg mb bm ob){k:Nat}{f c P:Addr}{fd:FuncData}{names:List (Str×NameKind)}
  {p1 q1 q2 q3 q4 q5 q6 ep pa pb pt pi gpos ps ap cpos rp:Pos} {kt:Nat} {scope:Scope}
  (D:MethDef B f fd names ["self"] [.Return (some (.Call (.Name "sum" p1) [.GeneratorExp (.BinOp (.Call (.Name "len" q1) [.Name "fws" q2] [] q3) .Add (.Call (.Name "len" q4) [.Name "part" q5] [] q6) ep) [⟨.Tuple [.Name "fws" pa,.Name "part" pb] kt pt,.Name "self" pi,[],0⟩] scope gpos,.Attribute (.Name "self" ps) "_initial_size" ap] [] cpos)) rp] [])
  (hcode:fd.code=.ref c) (hcp:(c,P)∈codes) (hself:names.lookup ("self":Str)=some .local) (hsum:names.lookup ("sum":Str)=some .globalImplicit) (SO:ScOk scope "len")
  (hb:∀s v,BindsTo s fd ⟨[v],[]⟩ [("self",v)])
  (R:Room (k+1) A) (x:St B ρ σ s) {i di:Nat} {cl:Cell} {xs:List PV} {a:Addr} {kk:Int} {parts:List (Str×Str)} (hc:σ[i]?=some cl) (hd:cl.d=.acc di xs) (hai:ρ[i]?=some a) (hok:aI σ (.lst i)=true)
  (hini:kF σ di=some kk) (hk:0≤kk∧kk < 1000) (hparts:aX xs=some parts) (hsz:∀p∈parts,p.1.length≤1000000∧p.2.length≤1000000):
  Ok B A ρ σ s (call (.ref f) [.ref a]) σ (Is B (.int (kk+bH parts))):=by
 have ok:=N.CO.ok
 refine eV ok D R x (args:=[.lst i]) (vals':=[.ref a]) (hb s _) ⟨_,_,rfl,⟨a,rfl,hai⟩,rfl⟩ rfl fun s₁ Q x₁ e₁ fr r₁ hns q=>?_
 have R':=R.deeper (callEnv fd s.heap.objs.size f)
 have hkind:(callEnv fd s.heap.objs.size f).scope.kind=.function:=D.kind
 have hk1:(callEnv fd s.heap.objs.size f).kindOf "self"=some .local:=by show fd.scope.names.lookup _=_;rw[D.nms];exact hself
 have hk2:(callEnv fd s.heap.objs.size f).kindOf "sum"=some .globalImplicit:=by show fd.scope.names.lookup _=_;rw[D.nms];exact hsum
 have hgl:(callEnv fd s.heap.objs.size f).globals=mainNs:=D.glob
 have hbl:(callEnv fd s.heap.objs.size f).builtins=builtinsNs:=D.bt
 have hcell:=x₁.cells i cl a hc hai
 rw[hd]at hcell
 obtain⟨vs,n,Dx,ho,hr,hD⟩:=hcell
 obtain⟨Ts,ta,tb,hl,hT⟩:=rH hr hparts
 obtain⟨c',hc',hd'⟩:=bZ0 hini hc hd hok
 have hgm:s₁.heap.Ns mainNs mg:=N.BM.ns.at' fun o ho=>x₁.base _ o ho N.og
 have hbm:s₁.heap.Ns builtinsNs mb:=N.b.at' fun o ho=>x₁.base _ o ho N.ob
 have get:∀j,j < vs.toArray.size→∃p,parts[j]?=some p:=fun j hj=>⟨parts[j]'(by rw[← hl];simpa using hj),List.getElem?_eq_getElem _⟩
 refine wpAt_of_wpAny ?_
 refine wpAny_execs_cons (wpAny_Return_some (wpAny_Call_NameR (Calls.Name_function_global hkind hk2 (Calls.loadGlobal_builtin (mg:=mg) (mb:=mb) (by rw[hgl];exact hgm) N.sum.1 (by rw[hbl];exact hbm) N.sum.2 ?_) (by decide))))
 rw[cA (by intro e he;simp at he;rcases he with rfl | rfl<;>exact nofun)]
 refine aQ (Calls.spliced_cons ?_)
 refine dS0 N.CO N.C N.iter R' x₁ N.BM N.og N.om hcp (fun c' h=>N.ones c c' P hcp h) (c:=c) (by exact hcode) hgl SO.co (SO.clos _) SO.cell SO.h0 SO.xa SO.xb (by decide) SO.kind (fun v=>rfl) ho rfl rfl (x₁.off a (List.mem_of_getElem? hai))
  (Ts:=Ts) (va:=fun j=>.str (parts.getD j ("","")).1 (ta j)) (vb:=fun j=>.str (parts.getD j ("","")).2 (tb j)) (fun j hj=>?_) (fun Q' q=>wpAny_Name (wpAny_loadName_local hkind hk1 hns rfl q) (by decide))
  (F:=fun j y=>∃t,y=.int (dQ0 parts j) t) (fun A' E' j Cc code s₂ m₂ hA hDp hU hj hm hma hmb hkp=>?_) fun g s₅ M=>?_
 ·obtain⟨p,hp⟩:=get j hj
  obtain⟨h1,h2,h3⟩:=hT j p hp
  refine⟨by simpa using h1,?_,h3⟩
  rw[List.getD_eq_getElem?_getD,hp]
  exact h2
 ·obtain⟨p,hp⟩:=get j hj
  have hpm:=hsz p (List.mem_of_getElem? hp)
  rw[List.getD_eq_getElem?_getD,hp]at hma hmb
  simp only[Option.getD_some]at hma hmb
  refine jA0 (m:=m₂) (mg:=mg) (mb:=mb) ⟨SO.kind,hm,?_,?_⟩ SO.nm SO.xa SO.xb hma hmb (by decide) (by decide) N.len.1 N.len.2 hpm.1 hpm.2 fun kx tk=>⟨⟨kx,?_⟩,_,_,rfl,fun _ _ e=>e⟩
  ·show s₂.heap.Ns (callEnv fd s.heap.objs.size f).globals mg
   rw[hgl]
   exact hgm.at' fun o ho=>hkp _ o N.og ho
  ·exact hbm.at' fun o ho=>hkp _ o N.ob ho
  ·unfold dQ0
   rw[hp]
 ·obtain⟨fp,wr,G,St',W,hst,hfp,hgf,hty,hmv⟩:=M.walk
  obtain⟨x₅,e₅⟩:=hmv s₅ (Moved.refl W.grefl) s₅.toks
  have x₅':St B ρ σ s₅:=x₅
  have hns₅:s₅.heap.Ns s.heap.objs.size fun y=>List.lookup y ([Str.ofString "self"].zip [Value.ref a]):=by
   refine hns.at' fun o ho=>?_
   obtain⟨h1,h2,_⟩:=fr.ofX _ List.mem_cons_self
   exact e₅.kp.nil ho h1 h2
  refine Calls.spliced_cons (kO0 N.C N.hh N.ha x₅' hc hd hai hok hc' hd' hkind hk1 hns₅ rfl (by decide) fun t tk htk=>Calls.spliced_nil ?_)
  show wpAny _ _ (call (.builtin "sum") [.ref g,.int kk t]) _ _ _
  refine lR0 hk (W.in4_1.self 0 _ _ _ (W.frame 0 _ _ _ hst htk fun _ _ _ e=>e) ?_)
  refine⟨g,fp,wr,G,_,_,_,dQ0 parts,rfl,W.in4_1,W.frame 0 _ _ _ hst htk (fun _ _ _ e=>e),hfp,(fun j v hv=>hv),fun s' t' hm=>?_⟩
  have hm':Moved wr G s₅ s':=(Moved.refl W.grefl:Moved wr G s₅ s₅).then_heap htk (fun _ _ _ e=>e) |>.trans W.gtrans hm
  obtain⟨x₆,e₆⟩:=hmv s' hm' s'.toks
  refine q _ _ ρ x₆ e₆.weak ⟨t',?_⟩
  show Value.int _ _=_
  rw[show vs.toArray.size=parts.length by rw[List.size_toArray,hl]]
  rfl
end
noncomputable def aS(ps:List (Str×Str)):List Str:=ps.map fun p=>Txt.join "" [p.1,p.2]
section
variable {B:Bs}{A:Around}{ρ:List Addr}{σ:Sto}{s:Shared}{E:Value→Shared→Prop}
theorem strC_run{K:Frag}{codes:List (Addr×Addr)}{mg mb:Str→Option Value}{bm:Addr}{ob:Obj}(N:GenOk B K codes mg mb bm ob){k:Nat}{f c P:Addr}{fd:FuncData}{names:List (Str×NameKind)}
  {p1 p2 q1 q2 q3 q4 q5 q6 pa pb pt pi gpos cpos rp:Pos} {kt kq:Nat} {scope:Scope}
  (D:MethDef B f fd names ["self"] [.Return (some (.Call (.Attribute (.Name "EMPTYSTRING" p1) "join" p2) [.GeneratorExp (.Call (.Attribute (.Name "EMPTYSTRING" q1) "join" q2) [.Tuple [.Name "fws" q3,.Name "part" q4] kq q5] [] q6) [⟨.Tuple [.Name "fws" pa,.Name "part" pb] kt pt,.Name "self" pi,[],0⟩] scope gpos] [] cpos)) rp] [])
  (hcode:fd.code=.ref c) (hcp:(c,P)∈codes) (hself:names.lookup ("self":Str)=some .local) (hemp:names.lookup ("EMPTYSTRING":Str)=some .globalImplicit) (SO:ScOk scope "EMPTYSTRING")
  (hline:(p2.endLine==cpos.line)=true) (hline2:(q2.endLine==q6.line)=true)
  (hb:∀s v,BindsTo s fd ⟨[v],[]⟩ [("self",v)])
  (R:Room (k+1) A) (x:St B ρ σ s) {i di:Nat} {cl:Cell} {xs:List PV} {a:Addr} {parts:List (Str×Str)} (hc:σ[i]?=some cl) (hd:cl.d=.acc di xs) (hai:ρ[i]?=some a)
  (hparts:aX xs=some parts) (hsz:∀p∈parts,p.1.length+p.2.length≤1000000) (hn:parts.length≤10000) (hj:JoinOk "" (aS parts)=true):
  Ok B A ρ σ s (call (.ref f) [.ref a]) σ (Is B (.str (Txt.join "" (aS parts)))):=by
 have ok:=N.CO.ok
 refine eV ok D R x (args:=[.lst i]) (vals':=[.ref a]) (hb s _) ⟨_,_,rfl,⟨a,rfl,hai⟩,rfl⟩ rfl fun s₁ Q x₁ e₁ fr r₁ hns q=>?_
 have R':=R.deeper (callEnv fd s.heap.objs.size f)
 have hkind:(callEnv fd s.heap.objs.size f).scope.kind=.function:=D.kind
 have hk1:(callEnv fd s.heap.objs.size f).kindOf "self"=some .local:=by show fd.scope.names.lookup _=_;rw[D.nms];exact hself
 have hk2:(callEnv fd s.heap.objs.size f).kindOf "EMPTYSTRING"=some .globalImplicit:=by show fd.scope.names.lookup _=_;rw[D.nms];exact hemp
 have hgl:(callEnv fd s.heap.objs.size f).globals=mainNs:=D.glob
 have hbl:(callEnv fd s.heap.objs.size f).builtins=builtinsNs:=D.bt
 have hcell:=x₁.cells i cl a hc hai
 rw[hd]at hcell
 obtain⟨vs,n,Dx,ho,hr,hD⟩:=hcell
 obtain⟨Ts,ta,tb,hl,hT⟩:=rH hr hparts
 have hgm:s₁.heap.Ns mainNs mg:=N.BM.ns.at' fun o ho=>x₁.base _ o ho N.og
 have hbm:s₁.heap.Ns builtinsNs mb:=N.b.at' fun o ho=>x₁.base _ o ho N.ob
 have get:∀j,j < vs.toArray.size→∃p,parts[j]?=some p:=fun j hj=>⟨parts[j]'(by rw[← hl];simpa using hj),List.getElem?_eq_getElem _⟩
 obtain⟨ue,hue⟩:=N.emp
 refine wpAt_of_wpAny ?_
 refine wpAny_execs_cons (wpAny_Return_some (bJ rfl (by simp) hline (by intro e he;simp at he;subst he;exact nofun) (Calls.Name_function_global hkind hk2 (Calls.loadGlobal_global (by rw[hgl];exact hgm) hue fun pl=>?_) (by decide))))
 refine qL _ _ _ _ _ _ _ _ (aQ (Calls.spliced_cons ?_))
 refine dS0 N.CO N.C N.iter R' x₁ N.BM N.og N.om hcp (fun c' h=>N.ones c c' P hcp h) (c:=c) (by exact hcode) hgl SO.co (SO.clos _) SO.cell SO.h0 SO.xa SO.xb (by decide) SO.kind (fun v=>rfl) ho rfl rfl (x₁.off a (List.mem_of_getElem? hai))
  (Ts:=Ts) (va:=fun j=>.str (parts.getD j ("","")).1 (ta j)) (vb:=fun j=>.str (parts.getD j ("","")).2 (tb j)) (fun j hj=>?_) (fun Q' q=>wpAny_Name (wpAny_loadName_local hkind hk1 hns rfl q) (by decide))
  (F:=fun j y=>∃p t,parts[j]?=some p∧y=.str (Txt.join "" [p.1,p.2]) t) (fun A' E' j Cc code s₂ m₂ hA hDp hU hj hm hma hmb hkp=>?_) fun g s₅ M=>?_
 ·obtain⟨p,hp⟩:=get j hj
  obtain⟨h1,h2,h3⟩:=hT j p hp
  refine⟨by simpa using h1,?_,h3⟩
  rw[List.getD_eq_getElem?_getD,hp]
  exact h2
 ·obtain⟨p,hp⟩:=get j hj
  have hpm:=hsz p (List.mem_of_getElem? hp)
  rw[List.getD_eq_getElem?_getD,hp]at hma hmb
  simp only[Option.getD_some]at hma hmb
  refine gen_elt2 (m:=m₂) (mg:=mg) (mb:=mb) ⟨SO.kind,hm,?_,?_⟩ SO.nm SO.xa SO.xb hma hmb (by decide) (by decide) hue hline2 hpm fun kx h' tk hk'=>⟨⟨p,kx,hp,rfl⟩,_,_,rfl,hk'⟩
  ·show s₂.heap.Ns (callEnv fd s.heap.objs.size f).globals mg
   rw[hgl]
   exact hgm.at' fun o ho=>hkp _ o N.og ho
  ·exact hbm.at' fun o ho=>hkp _ o N.ob ho
 ·obtain⟨fp,wr,G,St',W,hst,hfp,hgf,hty,hmv⟩:=M.walk
  refine Calls.spliced_nil ?_
  show wpAny _ _ (call (.builtin "str.join") [.str "" ue,.ref g]) _ _ _
  have hsl:sizeLine=16777216:=rfl
  have hsize:vs.toArray.size=parts.length:=by rw[List.size_toArray,hl]
  refine SC.joinGen W.in4_2 hty hst hfp hgf (fun j v ⟨p,t,_,e⟩=>⟨_,t,e⟩) (fun s' l hm hit=>?_) (by rw[hsize];lia)
  have hl':l.map (·.1)=aS parts:=by
   obtain⟨h1,h2⟩:=hit
   apply List.ext_getElem?
   intro j
   have hlen:l.length=parts.length:=by rw[hsize]at h1;simpa [strValues]using h1
   unfold aS
   rw[List.getElem?_map,List.getElem?_map]
   cases hj:l[j]? with
   |none=>
    have:parts[j]?=none:=List.getElem?_eq_none (by have:=List.getElem?_eq_none_iff.mp hj;lia)
    rw[this];rfl
   |some q=>
    obtain⟨p,t,hp,e⟩:=h2 j (.str q.1 q.2) (by simp[strValues,hj])
    rw[hp]
    injection e with e1 e2
    exact congrArg some e1
  rw[hl']
  refine⟨hj,fun t' kx=>?_⟩
  obtain⟨x₆,e₆⟩:=hmv s' hm kx
  exact q _ _ ρ x₆ e₆.weak ⟨t',rfl⟩
end
noncomputable def lenF:Fn:=fun args σ=>objK args σ fun _ di xs=>opt (kF σ di) fun k=>opt (aX xs) fun ps=>grd ((0≤k∧k < 1000)∧(∀p∈ps,p.1.length≤1000000∧p.2.length≤1000000)∧0≤k+bH ps∧k+bH ps < 4611686018427387904) (some (.int (k+bH ps),σ))
noncomputable def strF:Fn:=fun args σ=>objK args σ fun _ _ xs=>opt (aX xs) fun ps=>grd ((∀p∈ps,p.1.length+p.2.length≤1000000)∧ps.length≤10000∧JoinOk "" (aS ps)=true) (some (.str (Txt.join "" (aS ps)),σ))
theorem Room.in1{k:Nat}{A:Around}(R:Room (k+1) A):Room k A.in1:=
 ⟨R.handled,Nat.lt_of_le_of_lt (Nat.add_le_add_left (Nat.le_add_right (8 * k) 8) A.depth) R.depth,Nat.lt_of_le_of_lt (Nat.add_le_add_right (by rw[Nat.add_assoc];exact Nat.add_le_add_left (by rw[Nat.add_comm];exact Nat.add_le_add_left (show 1≤64 by decide) (64 * k)) A.units) 400) R.units⟩
theorem Room.mono{k j:Nat}{A:Around}(R:Room j A)(h:k≤j):Room k A:=
 ⟨R.handled,Nat.lt_of_le_of_lt (Nat.add_le_add_left (Nat.mul_le_mul_left 8 h) A.depth) R.depth,Nat.lt_of_le_of_lt (Nat.add_le_add_right (Nat.add_le_add_left (Nat.mul_le_mul_left 64 h) A.units) 400) R.units⟩
theorem FnOk.mono{B:Bs}{k j:Nat}{f:Value}{F:Fn}(h:FnOk B k f F)(hkj:k≤j):FnOk B j f F:=
 ⟨h.able,fun A ρ σ s args vals v σ' R x r e=>h.run A ρ σ s args vals v σ' (R.mono hkj) x r e⟩
theorem FnOk.le{B:Bs}{k:Nat}{f:Value}{F F':Fn}(h:FnOk B k f F)(hF:∀args σ r,F' args σ=some r→F args σ=some r):FnOk B k f F':=
 ⟨h.able,fun A ρ σ s args vals v σ' R x r e=>h.run A ρ σ s args vals v σ' R x r (hF _ _ _ e)⟩
section
variable {B:Bs}{A:Around}{ρ:List Addr}{σ:Sto}{s:Shared}{E:Value→Shared→Prop}
theorem cT0(x:St B ρ σ s){i di:Nat}{c:Cell}{xs:List PV}{a:Addr}(hc:σ[i]?=some c)(hd:c.d=.acc di xs)(ha:ρ[i]?=some a)(hok:aI σ (.lst i)=true):
  ∃ox od,InstAt s.heap a ox B.cls od:=by
 obtain⟨vs,n,D,oD,k',t,hD,ho,hr,hoD,I,h1,h2⟩:=lG x hc hd ha hok
 exact⟨_,_,I⟩
theorem lenA_ok{K:Frag}{codes:List (Addr×Addr)}{mg mb:Str→Option Value}{bm:Addr}{ob:Obj}(N:GenOk B K codes mg mb bm ob){k:Nat}{f:Addr}
  (hs:findIn K (.ref B.cls) "__len__"=some (some (.ref f))) (hf:isFn K (.ref f)=true)
  (run:∀{A:Around} {ρ:List Addr} {σ:Sto} {s:Shared},Room (k+1) A→St B ρ σ s→∀{i di:Nat} {cl:Cell} {xs:List PV} {a:Addr} {kk:Int} {parts:List (Str×Str)},σ[i]?=some cl→cl.d=.acc di xs→ρ[i]?=some a→aI σ (.lst i)=true→
   kF σ di=some kk→(0≤kk∧kk < 1000)→aX xs=some parts→(∀p∈parts,p.1.length≤1000000∧p.2.length≤1000000)→Ok B A ρ σ s (call (.ref f) [.ref a]) σ (Is B (.int (kk+bH parts)))):
  ∀(A:Around) (ρ:List Addr) (σ:Sto) (s:Shared) (args:List PV) (vals:List Value) (v:PV) (σ':Sto),Room (k+2) A→St B ρ σ s→VRs B ρ s.heap args vals→lenF args σ=some (v,σ')→
  Ok B A ρ σ s (call (.builtin "len") vals) σ' (Is B v):=by
 intro A ρ σ s args vals v σ' R x r h
 refine Ok.intro fun Q q=>?_
 obtain⟨i,c,di,xs,rfl,hacc,hc,hd,h⟩:=nG h
 obtain⟨kk,hini,h⟩:=aA h
 obtain⟨ps,hps,h⟩:=aA h
 obtain⟨⟨h1,h2,h3,h4⟩,h⟩:=grd_some h
 obtain⟨rfl,rfl⟩:=Prod.mk.inj (Option.some.inj h)
 obtain⟨_,_,rfl,⟨a,rfl,hai⟩,r2⟩:=r
 rw[show _=[]from r2]
 obtain⟨ox,od,I⟩:=cT0 x hc hd hai hacc
 refine Calls.call_function_entry kind_len plain_len entry_len (args_len1 _) ?_
 unfold Builtin.«len»
 refine wpAny_bind (m:=oneArg "len" _) (wpAny_pure ?_)
 refine wpAny_bind (m:=callSpecial? (.ref a) (Str.ofString "__len__")) (special_fn (N.C.in x) I hs (beq_iff_eq.mp hf) ((run R.in1 x hc hd hai hacc hini h1 hps h2).use fun w ρ' s' x' e' hv=>?_))
 obtain⟨t,rfl⟩:=hv
 refine wpAny_bind (wpAny_holding (wpAny_pure ?_))
 refine wpAny_bind (wpAny_letGo ?_)
 show wpAny _ _ (if kk+bH ps < 0 then _ else _) _ _ _
 rw[if_neg (Int.not_lt.mpr h3)]
 show wpAny _ _ (if kk+bH ps≥2 ^ 63 then _ else _) _ _ _
 rw[if_neg (Int.not_le.mpr (Int.lt_trans h4 (by decide)))]
 exact wpAny_bind (wpAny_mkInt (wpAny_pure ⟨_,rfl,q _ _ ρ' (x'.tok _) e' ⟨_,rfl⟩⟩))
theorem strA_ok{K:Frag}{codes:List (Addr×Addr)}{mg mb:Str→Option Value}{bm:Addr}{ob:Obj}(N:GenOk B K codes mg mb bm ob){k:Nat}{f:Addr}
  (hs:findIn K (.ref B.cls) "__str__"=some (some (.ref f))) (hf:isFn K (.ref f)=true)
  (run:∀{A:Around} {ρ:List Addr} {σ:Sto} {s:Shared},Room (k+1) A→St B ρ σ s→∀{i di:Nat} {cl:Cell} {xs:List PV} {a:Addr} {parts:List (Str×Str)},σ[i]?=some cl→cl.d=.acc di xs→ρ[i]?=some a→
   aX xs=some parts→(∀p∈parts,p.1.length+p.2.length≤1000000)→parts.length≤10000→JoinOk "" (aS parts)=true→Ok B A ρ σ s (call (.ref f) [.ref a]) σ (Is B (.str (Txt.join "" (aS parts))))):
  ∀(A:Around) (ρ:List Addr) (σ:Sto) (s:Shared) (args:List PV) (vals:List Value) (v:PV) (σ':Sto),Room (k+3) A→St B ρ σ s→VRs B ρ s.heap args vals→strF args σ=some (v,σ')→
  Ok B A ρ σ s (call (.type "str") vals) σ' (Is B v):=by
 intro A ρ σ s args vals v σ' R x r h
 refine Ok.intro fun Q q=>?_
 obtain⟨i,c,di,xs,rfl,hacc,hc,hd,h⟩:=nG h
 obtain⟨ps,hps,h⟩:=aA h
 obtain⟨⟨h1,h2,h3⟩,h⟩:=grd_some h
 obtain⟨rfl,rfl⟩:=Prod.mk.inj (Option.some.inj h)
 obtain⟨_,_,rfl,⟨a,rfl,hai⟩,r2⟩:=r
 rw[show _=[]from r2]
 obtain⟨ox,od,I⟩:=cT0 x hc hd hai hacc
 have R2:Room (k+1) A.in1.in1:=R.in1.in1
 refine kso_call (by have:=R2.unit;lia) (N.C.in x) I hs hf ((run R2 x hc hd hai hps h1 h2 h3).use fun w ρ' s' x' e' hv=>?_)
 obtain⟨t,rfl⟩:=hv
 exact q _ _ ρ' x' e' ⟨t,rfl⟩
end
structure DefP where
 names:List (Str×NameKind)
 params:List Str
 body:List Stmt
 deriving Inhabited
noncomputable def xR(p:Program)(f:Str):DefP:=(p.main.body.findSome? fun st=>eJ st none (fd:=fun n a b sc=>if n==f then some ⟨sc.names,a.args.map (·.arg),b⟩ else none)).getD default
noncomputable def cU(G:Gl)(n:Nat)(D:DefP):Fn:=runK G n D.names D.params D.body
noncomputable abbrev qJ(G:Gl)(n:Nat)(D:DefP):Fn:=cU G n D
theorem lF(G:Gl)(n:Nat)(D:DefP)(args:List PV)(σ:Sto):cU G n D args σ=qJ G n D args σ:=rfl
noncomputable def gN(i:Int):Bool:=[173,847,6150,6155,6156,6157,8203,8204,8205,8288,65279,65024,65025,65026,65027,65028,65029,65030,65031,65032,65033,65034,65035,65036,65037,65038,65039].any fun k=>decide (i=k)
noncomputable def G0(T:Int→Option Str):Gl where
 fn:=fun _=>none
 con:=fun n=>if n="ELLIPSIS_MARKER" then some (.str "...") else if n="EMPTYSTRING" then some (.str "") else none
 set:=fun n=>if n="b1_set" then some gN else none
 tab:=fun n=>if n="b3_exceptions" then some T else none
 meth:=fun n=>if n="append" then some kS else if n="part_count" then some lT else none
 lenA:=fun _ _=>none
 strA:=fun _ _=>none
noncomputable def stAt(D:DefP)(i:Nat):Stmt:=match D.body[i]? with
 |some st=>st
 |none=>.Pass default
noncomputable def cH(s:Stmt):Expr:=eJ s (.Name "" default) (fr:=fun t _ _=>t)
noncomputable def bN(s:Stmt):List Stmt:=eJ s [] (fr:=fun _ _ b=>b)
noncomputable def dQ(s:Stmt):Expr:=eJ s (.Name "" default) (fr:=fun _ i _=>i)
noncomputable def ForIs(st:Stmt):Prop:=∀(β:Type) (G:Gl) (n:Nat) (cx:Cx) (σ:Sto) (k:Fl→Cx→Sto→Option β),exK G (n+1) cx σ st k=bP G n cx σ (dQ st) fun items w σ₁=>dZ G n cx σ₁ (cH st) (bN st) w items k
section
variable {β:Type}{G:Gl}
noncomputable def kN(G:Gl)(n:Nat)(cx:Cx)(v:PV)(σ:Sto)(st:Stmt)(k:Fl→Cx→Sto→Option β):Option β:=opt (aH cx (cH st) v) fun cx=>cC G n cx σ (bN st) k
theorem bG(n:Nat)(cx:Cx)(σ:Sto)(st:Stmt)(rest:List Stmt)(k:Fl→Cx→Sto→Option β):cC G (n+1) cx σ (st::rest) k=exK G n cx σ st fun fl cx' σ₁=>match fl with
   |.nxt=>cC G n cx' σ₁ rest k
   |.brk=>k .brk cx' σ₁
   |.ret v=>k (.ret v) cx' σ₁:=rfl
theorem pK(n:Nat)(cx:Cx)(σ:Sto)(t:Expr)(b:List Stmt)(w:Option (Nat×Nat))(k:Fl→Cx→Sto→Option β)(hw:watch σ w=true):dZ G (n+1) cx σ t b w [] k=k .nxt cx σ:=by
 show onB (watch σ w) _ none=_
 rw[hw]
 rfl
theorem gV(n:Nat)(cx:Cx)(σ:Sto)(st:Stmt)(w:Option (Nat×Nat))(v:PV)(rest:List PV)(k:Fl→Cx→Sto→Option β)(hw:watch σ w=true):
  dZ G (n+1) cx σ (cH st) (bN st) w (v::rest) k=kN G n cx v σ st fun fl cx'' σ₁=>match fl with
     |.nxt=>dZ G n cx'' σ₁ (cH st) (bN st) w rest k
     |.brk=>k .nxt cx'' σ₁
     |.ret r=>k (.ret r) cx'' σ₁:=by
 show onB (watch σ w) _ none=_
 rw[hw]
 rfl
end
noncomputable def hY0(s:Stmt):Expr:=eJ s (.Name "" default) (ret:=fun e=>e.getD (.Name "" default))
noncomputable def RetIs(st:Stmt):Prop:=∀(β:Type) (G:Gl) (n:Nat) (cx:Cx) (σ:Sto) (k:Fl→Cx→Sto→Option β),exK G (n+1) cx σ st k=evK G n cx σ (hY0 st) fun r σ'=>k (.ret r) cx σ'
theorem exK_ret{β:Type}{G:Gl}(n:Nat)(cx:Cx)(σ:Sto)(st:Stmt)(k:Fl→Cx→Sto→Option β)(h:RetIs st):exK G (n+1) cx σ st k=evK G n cx σ (hY0 st) fun r σ'=>k (.ret r) cx σ':=h ..
section
variable {β:Type}{G:Gl}{n:Nat}{cx cx':Cx}{σ σ₁ σ':Sto}{st:Stmt}{rest:List Stmt}{fl:Fl}
theorem gU{k:Fl→Cx→Sto→Option β}{r:Option β}(h1:∀k:Fl→Cx→Sto→Option β,exK G n cx σ st k=k .nxt cx' σ')(h2:cC G n cx' σ' rest k=r):cC G (n+1) cx σ (st::rest) k=r:=(bG ..).trans ((h1 _).trans h2)
theorem bI0{k:Fl→Cx→Sto→Option β}{r:Option β}{v:PV}(h1:∀k:Fl→Cx→Sto→Option β,exK G n cx σ st k=k (.ret v) cx' σ')(h2:k (.ret v) cx' σ'=r):cC G (n+1) cx σ (st::rest) k=r:=(bG ..).trans ((h1 _).trans h2)
theorem forN(h:ForIs st){items:List PV}{w:Option (Nat×Nat)}(hi:∀K:List PV→Option (Nat×Nat)→Sto→Option β,bP G n cx σ (dQ st) K=K items w σ₁)
  (hl:∀k:Fl→Cx→Sto→Option β,dZ G n cx σ₁ (cH st) (bN st) w items k=k fl cx' σ') (k:Fl→Cx→Sto→Option β):exK G (n+1) cx σ st k=k fl cx' σ':=(h ..).trans ((hi _).trans (hl k))
theorem loopN{w:Option (Nat×Nat)}{v:PV}{items:List PV}{k:Fl→Cx→Sto→Option β}{r:Option β}(hw:watch σ w=true)(h1:∀k:Fl→Cx→Sto→Option β,kN G n cx v σ st k=k .nxt cx' σ')
  (h2:dZ G n cx' σ' (cH st) (bN st) w items k=r):dZ G (n+1) cx σ (cH st) (bN st) w (v::items) k=r:=(gV _ _ _ _ _ _ _ _ hw).trans ((h1 _).trans h2)
end
theorem cY(m d:Nat):Int.fmod (m:Int) (d:Int)=((m % d:Nat):Int):=by
 rw[Int.fmod_eq_emod_of_nonneg _ (by lia)];rfl
theorem lV(m d:Nat):Int.fdiv (m:Int) (d:Int)=((m / d:Nat):Int):=by
 rw[Int.fdiv_eq_ediv_of_nonneg _ (by lia)];rfl
noncomputable def zX:Fl→Cx→Sto→Option (PV×Sto):=fun fl _ σ'=>match fl with
 |.ret v=>some (v,σ')
 |.nxt=>some (.none,σ')
 |.brk=>none
theorem dV{G:Gl}{n:Nat}{D:DefP}{args:List PV}{σ:Sto}{ps:List Str}{le:LE}(hp:D.params=ps)(hl:args.length=ps.length)(hz:ps.zip args=le):cU G n D args σ=cC G n ⟨D.names,le⟩ σ D.body zX:=by
 unfold cU runK grd
 rw[hp,if_pos hl,hz]
 rfl
noncomputable def bse(ws:PV)(want got:Str):LE:=[("ws",ws),("want",.str want),("got",.str got)]
noncomputable def elS(p:Int)(v:PV)(e:Int)(B:LE):LE:=("startpos",.int p)::("w",v)::("endpos",.int e)::B
noncomputable def elA(p:Int)(v:PV)(e:Int)(B:LE):LE:=("endpos",.int e)::("w",v)::("startpos",.int p)::B
noncomputable def elB(p:Int)(v:PV)(e:Int)(B:LE):LE:=("w",v)::("startpos",.int p)::("endpos",.int e)::B
noncomputable def elC(p:Int)(v:PV)(e:Int)(B:LE):LE:=("w",v)::("endpos",.int e)::("startpos",.int p)::B
noncomputable def elZ(e:Int)(B:LE):LE:=("endpos",.int e)::("startpos",.int 0)::B
noncomputable def eX{β:Type}(names:List (Str×NameKind))(p:Int)(w:Str)(e:Int)(ws:PV)(want got:Str)(σ:Sto)(k:Fl→Cx→Sto→Option β):Option β:=
 grd (0≤p∧0≤e∧e≤got.length) (match decide (bX got w p e < 0)with
  |true=>k (.ret (.bool false)) ⟨names,elS (bX got w p e) (.str w) e (bse ws want got)⟩ σ
  |false=>grd (w.length≤100000) (k .nxt ⟨names,elS (bX got w p e+w.length) (.str w) e (bse ws want got)⟩ σ))
noncomputable def dB0{β:Type}(names:List (Str×NameKind))(a:Str)(e:Int)(want got:Str)(L:List PV)(k:Bool→Cx→Sto→Option β)(no:Option β):Option β:=
 grd (a.length≤1000000) (match ((a.length:Int) !=0)with
  |true=>match Txt.startswith got a with
   |true=>grd (a.length≤100000) (grd (¬ 10000 < L.length) (match seqIndex? 0 L.length with
    |some p=>k true ⟨names,("startpos",.int a.length)::("w",.str a)::("endpos",.int e)::bse (.lst 0) want got⟩ [⟨1,.lst (L.eraseIdx p)⟩]
    |none=>none))
   |false=>no
  |false=>k false ⟨names,elC 0 (.str a) e (bse (.lst 0) want got)⟩ [⟨0,.lst L⟩])
noncomputable def uA{β:Type}(names:List (Str×NameKind))(b:Str)(p e:Int)(B:LE)(v:Nat)(got:Str)(L:List PV)(c:LE)(k:Cx→Sto→Option β)(no:Option β):Option β:=
 grd (b.length≤1000000) (match ((b.length:Int) !=0)with
  |true=>match Txt.endswith got b with
   |true=>grd (b.length≤100000) (grd (¬ 10000 < L.length) (match seqIndex? (-1) L.length with
    |some j=>k ⟨names,elA p (.str b) (e - b.length) B⟩ [⟨v+1,.lst (L.eraseIdx j)⟩]
    |none=>none))
   |false=>no
  |false=>k ⟨names,c⟩ [⟨v,.lst L⟩])
noncomputable def Bs.at(B:Bs)(h:Heap):Bs:={ B with h₀:=h }
structure Ext (B:Bs) (h:Heap):Prop where
 keep:∀a o,B.h₀.get? a=some o→a∉B.Tb→h.get? a=some o
 lim:h.NoLimit
theorem BsOk.at{B:Bs}(ok:BsOk B){h:Heap}(e:Ext B h):BsOk (B.at h):=⟨ok.tb,e.lim,ok.stat,ok.inv⟩
theorem Ext.trans{B:Bs}{h h':Heap}(e:Ext B h)(e':Ext (B.at h) h'):Ext B h':=⟨fun a o ho ht=>e'.keep a o (e.keep a o ho ht) ht,e'.lim⟩
noncomputable def sQ(B:Bs)(k:Nat)(f:Value)(F:Fn):Prop:=∀h,Ext B h→FnOk (B.at h) k f F
noncomputable def flat:PV→Bool
 |.lst _=>false
 |.tup _=>false
 |_=>true
theorem VR.flat{B B':Bs}{ρ ρ':List Addr}{h:Heap}:∀(x:PV) {v:Value},flat x=true→VR B ρ h x v→VR B' ρ' h x v:=fun x v hf r=>by
 cases x with
 |tup _=>exact Bool.noConfusion (show false=true from hf)
 |lst _=>exact Bool.noConfusion (show false=true from hf)
 |_=>exact r
theorem VRs.flat{B B':Bs}{ρ ρ':List Addr}{h:Heap}:∀(xs:List PV) {vs:List Value},xs.all flat=true→VRs B ρ h xs vs→VRs B' ρ' h xs vs
 |[],_,_,r=>r
 |x::xs,vs,hf,r=>by
  obtain⟨v,t,rfl,h1,h2⟩:=r
  have hf':(Mine.Internal.flat x&&xs.all Mine.Internal.flat)=true:=hf
  rw[Bool.and_eq_true]at hf'
  exact⟨v,t,rfl,VR.flat x hf'.1 h1,VRs.flat xs hf'.2 h2⟩
section
variable {B:Bs}{ρ:List Addr}{σ:Sto}{s s':Shared}
theorem St.rebase(ok:BsOk B)(x:St B ρ σ s):Ext B s.heap∧St (B.at s.heap) [] [] s:=
 ⟨⟨x.base,x.noLimit ok⟩,⟨x.os,x.gens,fun a o ho _=>ho,rfl,List.nodup_nil,(fun a h=>nomatch h),(fun a h=>nomatch h),(fun i c a h=>by simp at h),x.inv⟩⟩
theorem St.unbase(_:BsOk B)(x:St B ρ σ s){ρ':List Addr}{τ:Sto}(y:St (B.at s.heap) ρ' τ s')(e:Evo (B.at s.heap) [] [] [] s.heap ρ' τ s'.heap):
  St B ρ σ s'∧Evo B [] ρ σ s.heap ρ σ s'.heap:=by
 have keep:∀a o,s.heap.get? a=some o→a∉B.Tb→s'.heap.get? a=some o:=fun a o ho ht=>y.base a o ho ht
 have vk:Vk B ρ s.heap ρ s'.heap:=⟨fun _ _ h=>h,fun a o vs n ho _ _ h1 h2=>⟨keep a o ho h2,h1⟩⟩
 refine⟨⟨y.os,y.gens,fun a o ho ht=>keep a o (x.base a o ho ht) ht,x.len,x.nodup,x.fresh,x.off,fun i c a hc ha=>?_,y.inv⟩,⟨⟨e.kp.live,fun a o ho _ ht _=>keep a o ho ht⟩,⟨[],by simp,by simp⟩,fun i c hc=>⟨c,hc,Nat.le_refl _,fun _=>⟨rfl,fun a ha o ho=>keep a o ho (x.off a (List.mem_of_getElem? ha))⟩⟩⟩⟩
 exact CR.vk vk c.d (fun o ho=>keep a o ho (x.off a (List.mem_of_getElem? ha))) (x.cells i c a hc ha)
end
noncomputable def jS(F:Fn):Fn:=fun args σ=>grd (args.all flat=true) (opt (F args []) fun r=>grd (flat r.1=true) (some (r.1,σ)))
theorem lW{B:Bs}(ok:BsOk B){k:Nat}{f:Value}{F:Fn}(h:sQ B k f F):sQ B k f (jS F):=fun hh hx=>by
 have ok':=ok.at hx
 refine⟨(h hh hx).able,fun A ρ σ s args vals v σ' R x r e=>Ok.intro fun Q q=>?_⟩
 obtain⟨hall,e1⟩:=grd_some e
 obtain⟨⟨v',τ⟩,hF,e2⟩:=aA e1
 obtain⟨hv,e3⟩:=grd_some e2
 obtain⟨rfl,rfl⟩:=Prod.mk.inj (Option.some.inj e3)
 obtain⟨hE,y⟩:=x.rebase ok'
 have hr:VRs ((B.at hh).at s.heap) [] s.heap args vals:=VRs.flat args hall r
 refine ((h s.heap (hx.trans hE)).run A [] [] s args vals _ τ R y hr hF).use fun val ρ' s' y' e' hv'=>?_
 obtain⟨x',e''⟩:=x.unbase ok' y' e'
 exact q _ _ ρ x' e'' (VR.flat _ hv hv')
noncomputable def three{α β:Type}(l:List α)(f:α→α→α→Option β):Option β:=match l with
 |[a,b,c]=>f a b c
 |_=>none
theorem iY{α β:Type}{r:β}{l:List α}{f:α→α→α→Option β}(h:three l f=some r):∃a b c,l=[a,b,c]∧f a b c=some r:=by
 match l with
 |[]=>exact nos h
 |[a]=>exact nos h
 |[a,b]=>exact nos h
 |[a,b,c]=>exact⟨a,b,c,rfl,h⟩
 |_::_::_::_::_=>exact nos h
theorem kM0{C:Prop}{α β:Type}{r:β}{l:List α}{f:α→α→α→Option β}(h:three l f=some r)(q:∀a b c,l=[a,b,c]→f a b c=some r→C):C:=(iY h).elim fun a h=>h.elim fun b h=>iP h (q a b)
noncomputable def chrOf{β:Type}(args:List PV)(f:Nat→Option β):Option β:=one args fun v=>fB v fun s=>one s.cps.toList f
theorem pH{β:Type}{r:β}{args:List PV}{f:Nat→Option β}(h:chrOf args f=some r):∃c,args=[.str ⟨#[c]⟩]∧f c=some r:=by
 obtain⟨v,e,h1⟩:=cB h
 obtain⟨s,e1,h2⟩:=bZ h1
 obtain⟨c,hc,h3⟩:=cB h2
 obtain⟨⟨l⟩⟩:=s
 have hl:l=[c]:=hc
 subst e e1 hl
 exact⟨c,rfl,h3⟩
noncomputable def b1F:Fn:=fun args σ=>chrOf args fun c=>some (.bool (gN (c:Int)),σ)
noncomputable def lowOk(s:Str):Option Str:=if (Txt.lower s).length≤100000 then some (Txt.lower s) else none
noncomputable def bG0(T:Int→Option Str)(c:Nat):Option Str:=match T (c:Int)with
 |some x=>some x
 |none=>lowOk ⟨#[c]⟩
noncomputable def b3F(T:Int→Option Str):Fn:=fun args σ=>chrOf args fun c=>opt (bG0 T c) fun x=>some (.str x,σ)
noncomputable def pushF:Fn:=fun args σ=>three args fun v a b=>eS v fun i=>grd (aI σ (.lst i)=true) (opt σ[i]? fun c=>rR c.d fun di xs=>grd (xs.length≤10000) (some (.none,aC σ i (.acc di (xs++[.tup [a,b]])))))
noncomputable def G1(T:Int→Option Str)(E:Fn)(P:Fn):Gl where
 fn:=fun n=>if n="in_table_b1" then some b1F else if n="map_table_b3" then some (b3F T) else if n="_ellipsis_match" then some E else if n="_Accumulator" then some zE else none
 con:=fun n=>if n="ELLIPSIS_MARKER" then some (.str "...") else if n="EMPTYSTRING" then some (.str "") else none
 meth:=fun n=>if n="push" then some pushF else if n="pop" then some wE else if n="part_count" then some lT else if n="pop_from" then some P else none
 lenA:=lenF
 strA:=strF
noncomputable def Le(F' F:Fn):Prop:=∀args σ r,F' args σ=some r→F args σ=some r
noncomputable def G2(T:Int→Option Str)(E:Fn)(P:Fn)(own:Str→Option Fn):Gl:={ G1 T E P with fn:=fun n=>(own n).or ((G1 T E P).fn n) }
noncomputable def lcE(e:Expr):Expr:=bF e e (lc:=fun e _ _=>e)
noncomputable def lcG(e:Expr):Comprehension:=bF e ⟨e,e,[],0⟩ (lc:=fun _ l _=>l.headD ⟨e,e,[],0⟩)
noncomputable def lcT(e:Expr):Expr:=(lcG e).target
noncomputable def lcI(e:Expr):Expr:=(lcG e).iter
noncomputable def lcF(e:Expr):List Expr:=(lcG e).ifs
noncomputable def lcN(e:Expr):List (Str×NameKind):=bF e [] (lc:=fun _ _ sc=>sc.names)
noncomputable def aX0(cx:Cx)(e:Expr):Prop:=∀(β:Type) (G:Gl) (n:Nat) (σ:Sto) (k:PV→Sto→Option β),evK G (n+1) cx σ e k=bP G n cx σ (lcI e) fun items w σ₁=>cN G n ⟨lcN e,capt cx (lcN e)⟩ σ₁ (lcE e) (lcT e) (lcF e) w items fun vs σ₂=>grd (vs.length≤100000) (k (.lst σ₂.length) (σ₂++[⟨0,.lst vs⟩]))
section
variable {β:Type}{G:Gl}
theorem evK_lc(n:Nat)(cx:Cx)(σ:Sto)(e:Expr)(k:PV→Sto→Option β)(h:aX0 cx e):
  evK G (n+1) cx σ e k=bP G n cx σ (lcI e) fun items w σ₁=>cN G n ⟨lcN e,capt cx (lcN e)⟩ σ₁ (lcE e) (lcT e) (lcF e) w items fun vs σ₂=>grd (vs.length≤100000) (k (.lst σ₂.length) (σ₂++[⟨0,.lst vs⟩])):=h ..
noncomputable def iJ(G:Gl)(n:Nat)(cx':Cx)(σ:Sto)(e:Expr)(K:Option PV→Sto→Option β):Option β:=rB G n cx' σ .And (lcF e) fun b σ₁=>match b with
  |true=>evK G n cx' σ₁ (lcE e) fun x σ₂=>K (some x) σ₂
  |false=>K none σ₁
theorem oE(n:Nat)(cx:Cx)(σ:Sto)(a b:Expr)(c:List Expr)(w:Option (Nat×Nat))(k:List PV→Sto→Option β)(hw:watch σ w=true):cN G (n+1) cx σ a b c w [] k=k [] σ:=by
 show onB (watch σ w) _ none=_
 rw[hw]
 rfl
theorem lH(n:Nat)(cx cx':Cx)(σ:Sto)(e:Expr)(w:Option (Nat×Nat))(v:PV)(rest:List PV)(k:List PV→Sto→Option β)(hw:watch σ w=true)(hb:aH cx (lcT e) v=some cx'):
  cN G (n+1) cx σ (lcE e) (lcT e) (lcF e) w (v::rest) k=iJ G n cx' σ e fun o σ'=>match o with
   |some x=>cN G n cx' σ' (lcE e) (lcT e) (lcF e) w rest fun xs σ''=>k (x::xs) σ''
   |none=>cN G n cx' σ' (lcE e) (lcT e) (lcF e) w rest k:=by
 show onB (watch σ w) (opt (aH cx (lcT e) v) _) none=_
 rw[hw,hb]
 rfl
theorem sC{N:List (Str×NameKind)}{b:PV→LE}{σ:Sto}{e:Expr}{w:Option (Nat×Nat)}(f:PV→Option PV)(d:Nat)(hw:watch σ w=true):∀(items:List PV) (u:PV) (n:Nat) (k:List PV→Sto→Option β),(∀v∈items,∀u,aH ⟨N,b u⟩ (lcT e) v=some ⟨N,b v⟩)→
  (∀v∈items,∀n (K:Option PV→Sto→Option β),iJ G (n+d) ⟨N,b v⟩ σ e K=K (f v) σ)→cN G (n+(d+1)+items.length) ⟨N,b u⟩ σ (lcE e) (lcT e) (lcF e) w items k=k (items.filterMap f) σ
 |[],u,n,k,_,_=>oE (n+d) _ _ _ _ _ _ _ hw
 |v::rest,u,n,k,hb,hf=>by
  rw[show n+(d+1)+(v::rest).length=(n+(d+1)+rest.length)+1 by simp;lia,lH _ _ _ _ _ _ _ _ _ hw (hb v List.mem_cons_self u),show n+(d+1)+rest.length=(n+1+rest.length)+d by lia,hf v List.mem_cons_self]
  have ih:=fun k=>sC (w:=w) f d hw rest v n k (fun u hu=>hb u (List.mem_cons_of_mem _ hu)) fun u hu=>hf u (List.mem_cons_of_mem _ hu)
  rw[List.filterMap_cons]
  cases f v with
  |none=>
   simp only
   rw[show (n+1+rest.length)+d=n+(d+1)+rest.length by lia,ih]
  |some x=>
   simp only
   rw[show (n+1+rest.length)+d=n+(d+1)+rest.length by lia,ih]
theorem vY{N:List (Str×NameKind)}{L0:LE}{b:PV→LE}{σ:Sto}{e:Expr}{w:Option (Nat×Nat)}(f:PV→Option PV)(d:Nat)(hw:watch σ w=true)(items:List PV)(n:Nat)(k:List PV→Sto→Option β)
  (hb0:∀v∈items,aH ⟨N,L0⟩ (lcT e) v=some ⟨N,b v⟩) (hb:∀v∈items,∀u,aH ⟨N,b u⟩ (lcT e) v=some ⟨N,b v⟩)
  (hf:∀v∈items,∀n (K:Option PV→Sto→Option β),iJ G (n+d) ⟨N,b v⟩ σ e K=K (f v) σ):cN G (n+(d+1)+items.length) ⟨N,L0⟩ σ (lcE e) (lcT e) (lcF e) w items k=k (items.filterMap f) σ:=by
 cases items with
 |nil=>exact oE (n+d) _ _ _ _ _ _ _ hw
 |cons v rest=>
  rw[show n+(d+1)+(v::rest).length=(n+(d+1)+rest.length)+1 by simp;lia,lH _ _ _ _ _ _ _ _ _ hw (hb0 v List.mem_cons_self),show n+(d+1)+rest.length=(n+1+rest.length)+d by lia,hf v List.mem_cons_self]
  have ih:=fun k=>sC (G:=G) (N:=N) (b:=b) (w:=w) f d hw rest v n k (fun u hu=>hb u (List.mem_cons_of_mem _ hu)) fun u hu=>hf u (List.mem_cons_of_mem _ hu)
  rw[List.filterMap_cons]
  cases f v with
  |none=>
   simp only
   rw[show (n+1+rest.length)+d=n+(d+1)+rest.length by lia,ih]
  |some x=>
   simp only
   rw[show (n+1+rest.length)+d=n+(d+1)+rest.length by lia,ih]
noncomputable def qW(e:Expr):Str:=bF e "" (call:=fun f _ _=>bF f "" (att:=fun o _ _=>bF o "" (cst:=fun c=>match c with
 |.str s=>s
 |_=>"")))
noncomputable def bU(e:Expr):Expr:=bF e e (call:=fun _ l _=>l.headD e)
noncomputable def vI(e:Expr):Prop:=∀(β:Type) (G:Gl) (n:Nat) (cx:Cx) (σ:Sto) (k:PV→Sto→Option β),evK G (n+3) cx σ e k=evK G (n+1) cx σ (bU e) fun v σ'=>aU G (.str (qW e)) "join" [v] σ' k
theorem evK_join(n:Nat)(cx:Cx)(σ:Sto)(e:Expr)(k:PV→Sto→Option β)(h:vI e):evK G (n+3) cx σ e k=evK G (n+1) cx σ (bU e) fun v σ'=>aU G (.str (qW e)) "join" [v] σ' k:=h ..
theorem qY:∀(ts:List Str),eR (ts.map .str)=some ts
 |[]=>rfl
 |t::ts=>by
  show (eR (ts.map .str)).map (t::·)=_
  rw[qY ts];rfl
theorem dE0(s:Str)(ts:List Str)(σ:Sto)(i:Nat)(k:PV→Sto→Option β)(hi:bM σ i=some (ts.map .str))(hj:JoinOk s ts=true):aU G (.str s) "join" [.lst i] σ k=k (.str (Txt.join s ts)) σ:=by
 show opt (bM σ i) (fun xs=>opt (eR xs) fun ts=>grd (JoinOk s ts=true) (k (.str (Txt.join s ts)) σ))=_
 rw[hi]
 show opt (eR (ts.map .str)) _=_
 rw[qY]
 exact if_pos hj
theorem eF0(σ:Sto)(v:Nat)(xs:List PV):bM (σ++[⟨v,.lst xs⟩]) σ.length=some xs:=by
 simp[bM]
theorem gC0{cx:Cx}{σ:Sto}{e:Expr}(b:PV→LE)(f:PV→Option PV)(d:Nat){items:List PV}{ts:List Str}(hj:vI e)(hlc:aX0 cx (bU e))(n:Nat)(k:PV→Sto→Option β)
  (hit:∀n (K:List PV→Option (Nat×Nat)→Sto→Option β),bP G (n+5) cx σ (lcI (bU e)) K=K items none σ)
  (hb0:∀v∈items,aH ⟨lcN (bU e),capt cx (lcN (bU e))⟩ (lcT (bU e)) v=some ⟨lcN (bU e),b v⟩) (hb:∀v∈items,∀u,aH ⟨lcN (bU e),b u⟩ (lcT (bU e)) v=some ⟨lcN (bU e),b v⟩)
  (hf:∀v∈items,∀n (K:Option PV→Sto→Option β),iJ G (n+d) ⟨lcN (bU e),b v⟩ σ (bU e) K=K (f v) σ)
  (hts:items.filterMap f=ts.map .str) (hl:ts.length≤100000) (hok:JoinOk (qW e) ts=true):
  evK G (n+(d+10)+items.length) cx σ e k=k (.str (Txt.join (qW e) ts)) (σ++[⟨0,.lst (ts.map .str)⟩]):=by
 rw[show n+(d+10)+items.length=(n+6+(d+1)+items.length)+3 by lia,evK_join _ _ _ _ _ hj,show n+6+(d+1)+items.length+1=(n+7+(d+0)+items.length)+1 by lia,evK_lc _ _ _ _ _ hlc,show n+7+(d+0)+items.length=(n+2+d+items.length)+5 by lia,hit]
 rw[show n+2+d+items.length+5=(n+6)+(d+1)+items.length by lia,vY (b:=b) f d rfl items _ _ hb0 hb hf,hts]
 unfold grd
 rw[if_pos (by simpa using hl)]
 exact dE0 _ _ _ _ _ (eF0 ..) hok
noncomputable def itK{β:Type}(k:List PV→Option (Nat×Nat)→Sto→Option β)(v:PV)(σ₁:Sto):Option β:=match itV v σ₁ with
   |some (items,w,σ₂)=>k items w σ₂
   |none=>none
noncomputable def ItIs(e:Expr):Prop:=∀(β:Type) (G:Gl) (n:Nat) (cx:Cx) (σ:Sto) (k:List PV→Option (Nat×Nat)→Sto→Option β),bP G (n+1) cx σ e k=evK G n cx σ e (itK k)
end
noncomputable def S(l:List Nat):Str:=⟨l.toArray⟩
theorem S_len(l:List Nat):(S l).length=l.length:=by simp[S,Str.length]
theorem S_app(a b:List Nat):S a++S b=S (a++b):=by
 show (⟨a.toArray++b.toArray⟩:Str)=_
 simp[S]
theorem xU{a b:List Nat}:S a=S b↔a=b:=by simp[S]
theorem signs_S(l:List Nat):signs (S l)=l.map fun c=>.str ⟨#[c]⟩:=by simp[signs,S]
theorem sU:∀(ts:List (List Nat)) (acc:List Nat),(List.foldl (fun acc (p:Str)=>acc++(Str.ofString "").cps++p.cps) acc.toArray (ts.map S))=(acc++ts.flatten).toArray
 |[],acc=>by simp
 |t::ts,acc=>by
  rw[List.map_cons,List.foldl_cons]
  have:acc.toArray++(Str.ofString "").cps++(S t).cps=(acc++t).toArray:=by
   show acc.toArray++#[]++t.toArray=_
   simp
  rw[this,sU ts (acc++t)]
  simp
theorem vP(ts:List (List Nat)):Txt.join "" (ts.map S)=S ts.flatten:=by
 cases ts with
 |nil=>rfl
 |cons t ts=>
  show (⟨List.foldl (fun acc (p:Str)=>acc++(Str.ofString "").cps++p.cps) (S t).cps (ts.map S)⟩:Str)=_
  have:=sU ts t
  show (⟨List.foldl (fun acc (p:Str)=>acc++(Str.ofString "").cps++p.cps) t.toArray (ts.map S)⟩:Str)=_
  rw[this]
  simp[S]
theorem nI:∀(ts:List Str) (sl a:Nat),List.foldl (fun acc (p:Str)=>acc+p.length+sl) a ts=a+(ts.map (·.length)).sum+ts.length * sl
 |[],sl,a=>by simp
 |t::ts,sl,a=>by
  rw[List.foldl_cons,nI ts]
  simp only[List.map_cons,List.sum_cons,List.length_cons,Nat.add_mul]
  lia
theorem lY(s:Str)(ts:List Str)(h:(ts.map (·.length)).sum+ts.length * s.length≤16000000):JoinOk s ts=true:=by
 unfold JoinOk
 rw[List.foldl_toArray' _ _ _ rfl,nI ts]
 unfold PySem.Builtin.Str.tooLong sizeLine
 simp
 lia
noncomputable def ifT(s:Stmt):Expr:=eJ s (.Name "" default) (iff:=fun t _ _=>t)
noncomputable def ifA(s:Stmt):List Stmt:=eJ s [] (iff:=fun _ a _=>a)
noncomputable def cmpL(e:Expr):Expr:=bF e e (cmp:=fun l _ _=>l)
noncomputable def cmpR(e:Expr):Expr:=bF e e (cmp:=fun _ _ l=>l.headD e)
noncomputable def cmpO(e:Expr):CmpOp:=bF e .Eq (cmp:=fun _ l _=>l.headD .Eq)
noncomputable def mJ(s:Stmt):Expr:=eJ s (.Name "" default) (asg:=fun _ v _=>v)
noncomputable def dB(s:Stmt):Expr:=eJ s (.Name "" default) (asg:=fun l _ _=>l.headD (.Name "" default))
noncomputable def CmpIs(e:Expr):Prop:=∀(β:Type) (G:Gl) (n:Nat) (cx:Cx) (σ:Sto) (k:Bool→Sto→Option β),dH G (n+1) cx σ e k=evK G n cx σ (cmpL e) fun a σ₁=>evK G n cx σ₁ (cmpR e) fun b σ₂=>eD (cmpO e) σ₂ a b fun t=>k t σ₂
noncomputable def AsgIs(st:Stmt):Prop:=∀(β:Type) (G:Gl) (n:Nat) (cx:Cx) (σ:Sto) (k:Fl→Cx→Sto→Option β),exK G (n+1) cx σ st k=evK G n cx σ (mJ st) fun x σ₁=>opt (aH cx (dB st) x) fun cx'=>k .nxt cx' σ₁
noncomputable def iL(l:List Int):List PV:=l.map .int
theorem iS0:∀l:List Int,PyData.canLayAll0 (l.map .int)=true
 |[]=>rfl
 |i::l=>by
  show (true&&PyData.canLayAll0 (l.map .int))=true
  rw[iS0 l];rfl
noncomputable def elF(e:Str→Str→Option Bool):Fn:=fun args σ=>two args fun a b=>fB a fun w=>fB b fun g=>opt (e w g) fun r=>some (.bool r,σ)
theorem elF_at{e:Str→Str→Option Bool}{w g:Str}{σ:Sto}{r:Bool}(h:e w g=some r):elF e [.str w,.str g] σ=some (.bool r,σ):=by
 show opt (e w g) _=_
 rw[h]
 rfl
section
variable {β:Type}{G:Gl}{n:Nat}{cx cx':Cx}{σ σ':Sto}{st:Stmt}
theorem asgN(h:AsgIs st){x:PV}(he:∀K:PV→Sto→Option β,evK G n cx σ (mJ st) K=K x σ')(hb:aH cx (dB st) x=some cx')(k:Fl→Cx→Sto→Option β):exK G (n+1) cx σ st k=k .nxt cx' σ':=
 (h ..).trans ((he _).trans (congrArg (fun o=>opt o fun cx'=>k .nxt cx' σ') hb))
end
set_option maxHeartbeats 0
noncomputable abbrev p3:Program:=PySem.Challenge.pw_wa0042_02
noncomputable def dictAt(B:List Stmt)(i:Nat):DictStmt:=eJ (B.getD i (.Pass default)) ⟨"",default,[],[],default,default⟩ (asg:=fun ts v ap=>bF (ts.headD (.Name "" default)) ⟨"",default,[],[],default,default⟩
 (nam:=fun x px=>bF v ⟨"",default,[],[],default,default⟩ (dic:=fun ks vs dp=>⟨x,px,ks,vs,dp,ap⟩)))
noncomputable def bh3:List Stmt:=behindTheImports p3
noncomputable def g13:List Stmt:=bh3.take 10
noncomputable def g23:List Stmt:=bh3.drop 11
noncomputable def d3:DictStmt:=dictAt bh3 10
noncomputable def wF:List (Int×Str):=(cO d3.keys d3.values).getD []
theorem hB3:behindTheImports p3=g13++d3.stmt::g23:=by kernel_rfl!
theorem hc3:cO d3.keys d3.values=some wF:=by kernel_rfl!
theorem len3:wF.length=650:=by kernel_rfl!
noncomputable def wf(w:World)(b1 b2:Bool):World:=(w.withFollow "set-order" b1).withFollow "special-get-raises" b2
theorem eA3(w:World):okB tyA (runA p3 w)=true:=by kernel_rfl!
noncomputable abbrev dE:DefP:=xR p3 "_ellipsis_match"
theorem dO0:dE.body=[stAt dE 0,stAt dE 1,stAt dE 2,stAt dE 3,stAt dE 4,stAt dE 5,stAt dE 6,stAt dE 7,stAt dE 8,stAt dE 9,stAt dE 10]:=by kernel_rfl!
theorem tH:dE.params=(["want","got"]:List Str):=by kernel_rfl!
theorem el_0{β:Type}(T:Int→Option Str)(n:Nat)(want got:Str)(σ:Sto)(k:Fl→Cx→Sto→Option β):
 exK (G0 T) (n+20) ⟨dE.names,[("want",.str want),("got",.str got)]⟩ σ (stAt dE 0) k=match !(Txt.contains want "...")with
  |true=>k (.ret (.bool (decide (want=got)))) ⟨dE.names,[("want",.str want),("got",.str got)]⟩ σ
  |false=>k .nxt ⟨dE.names,[("want",.str want),("got",.str got)]⟩ σ:=by kernel_rfl!
theorem el_1{β:Type}(T:Int→Option Str)(n:Nat)(want got:Str)(k:Fl→Cx→Sto→Option β):
 exK (G0 T) (n+20) ⟨dE.names,[("want",.str want),("got",.str got)]⟩ [] (stAt dE 1) k=
  grd ((Txt.split want "...").length≤1000∧want.length≤100000) (k .nxt ⟨dE.names,bse (.lst 0) want got⟩ [⟨0,.lst ((Txt.split want "...").map .str)⟩]):=by kernel_rfl!
theorem el_2{β:Type}(T:Int→Option Str)(n:Nat)(want got:Str)(L:List PV)(k:Fl→Cx→Sto→Option β):
 exK (G0 T) (n+20) ⟨dE.names,bse (.lst 0) want got⟩ [⟨0,.lst L⟩] (stAt dE 2) k=
  grd (L.length≤100000) (match decide ((L.length:Int)≥2)with
   |true=>k .nxt ⟨dE.names,bse (.lst 0) want got⟩ [⟨0,.lst L⟩]
   |false=>none):=by kernel_rfl!
theorem el_3{β:Type}(T:Int→Option Str)(n:Nat)(want got:Str)(σ:Sto)(k:Fl→Cx→Sto→Option β):
 exK (G0 T) (n+20) ⟨dE.names,bse (.lst 0) want got⟩ σ (stAt dE 3) k=grd (got.length≤100000) (k .nxt ⟨dE.names,elZ got.length (bse (.lst 0) want got)⟩ σ):=by kernel_rfl!
theorem el_4{β:Type}(T:Int→Option Str)(n:Nat)(want got:Str)(e:Int)(σ:Sto)(k:Fl→Cx→Sto→Option β):
 exK (G0 T) (n+20) ⟨dE.names,elZ e (bse (.lst 0) want got)⟩ σ (stAt dE 4) k=bT (.lst 0) (.int 0) σ fun x=>k .nxt ⟨dE.names,elC 0 x e (bse (.lst 0) want got)⟩ σ:=by kernel_rfl!
theorem el_5{β:Type}(T:Int→Option Str)(n:Nat)(a want got:Str)(e:Int)(L:List PV)(k:Fl→Cx→Sto→Option β):
 exK (G0 T) (n+20) ⟨dE.names,elC 0 (.str a) e (bse (.lst 0) want got)⟩ [⟨0,.lst L⟩] (stAt dE 5) k=
  dB0 dE.names a e want got L (fun _ cx σ=>k .nxt cx σ) (k (.ret (.bool false)) ⟨dE.names,elC 0 (.str a) e (bse (.lst 0) want got)⟩ [⟨0,.lst L⟩]):=by kernel_rfl!
theorem el_6{β:Type}(T:Int→Option Str)(n:Nat)(x:PV)(want got:Str)(p e:Int)(σ:Sto)(k:Fl→Cx→Sto→Option β):
 exK (G0 T) (n+20) ⟨dE.names,elS p x e (bse (.lst 0) want got)⟩ σ (stAt dE 6) k=bT (.lst 0) (.int (-1)) σ fun x=>k .nxt ⟨dE.names,elB p x e (bse (.lst 0) want got)⟩ σ:=by kernel_rfl!
theorem el_6'{β:Type}(T:Int→Option Str)(n:Nat)(x:PV)(want got:Str)(p e:Int)(σ:Sto)(k:Fl→Cx→Sto→Option β):
 exK (G0 T) (n+20) ⟨dE.names,elC p x e (bse (.lst 0) want got)⟩ σ (stAt dE 6) k=bT (.lst 0) (.int (-1)) σ fun x=>k .nxt ⟨dE.names,elC p x e (bse (.lst 0) want got)⟩ σ:=by kernel_rfl!
theorem el_7{β:Type}(T:Int→Option Str)(n:Nat)(b want got:Str)(p e:Int)(v:Nat)(L:List PV)(k:Fl→Cx→Sto→Option β):
 exK (G0 T) (n+20) ⟨dE.names,elB p (.str b) e (bse (.lst 0) want got)⟩ [⟨v,.lst L⟩] (stAt dE 7) k=
  uA dE.names b p e (bse (.lst 0) want got) v got L (elB p (.str b) e (bse (.lst 0) want got)) (fun cx σ=>k .nxt cx σ) (k (.ret (.bool false)) ⟨dE.names,elB p (.str b) e (bse (.lst 0) want got)⟩ [⟨v,.lst L⟩]):=by kernel_rfl!
theorem el_7'{β:Type}(T:Int→Option Str)(n:Nat)(b want got:Str)(p e:Int)(v:Nat)(L:List PV)(k:Fl→Cx→Sto→Option β):
 exK (G0 T) (n+20) ⟨dE.names,elC p (.str b) e (bse (.lst 0) want got)⟩ [⟨v,.lst L⟩] (stAt dE 7) k=
  uA dE.names b p e (bse (.lst 0) want got) v got L (elC p (.str b) e (bse (.lst 0) want got)) (fun cx σ=>k .nxt cx σ) (k (.ret (.bool false)) ⟨dE.names,elC p (.str b) e (bse (.lst 0) want got)⟩ [⟨v,.lst L⟩]):=by kernel_rfl!
theorem el_8A{β:Type}(T:Int→Option Str)(n:Nat)(x:PV)(want got:Str)(p e:Int)(σ:Sto)(k:Fl→Cx→Sto→Option β):
 exK (G0 T) (n+20) ⟨dE.names,elA p x e (bse (.lst 0) want got)⟩ σ (stAt dE 8) k=match decide (p > e)with
  |true=>k (.ret (.bool false)) ⟨dE.names,elA p x e (bse (.lst 0) want got)⟩ σ
  |false=>k .nxt ⟨dE.names,elA p x e (bse (.lst 0) want got)⟩ σ:=by kernel_rfl!
theorem el_8B{β:Type}(T:Int→Option Str)(n:Nat)(x:PV)(want got:Str)(p e:Int)(σ:Sto)(k:Fl→Cx→Sto→Option β):
 exK (G0 T) (n+20) ⟨dE.names,elB p x e (bse (.lst 0) want got)⟩ σ (stAt dE 8) k=match decide (p > e)with
  |true=>k (.ret (.bool false)) ⟨dE.names,elB p x e (bse (.lst 0) want got)⟩ σ
  |false=>k .nxt ⟨dE.names,elB p x e (bse (.lst 0) want got)⟩ σ:=by kernel_rfl!
theorem el_8C{β:Type}(T:Int→Option Str)(n:Nat)(x:PV)(want got:Str)(p e:Int)(σ:Sto)(k:Fl→Cx→Sto→Option β):
 exK (G0 T) (n+20) ⟨dE.names,elC p x e (bse (.lst 0) want got)⟩ σ (stAt dE 8) k=match decide (p > e)with
  |true=>k (.ret (.bool false)) ⟨dE.names,elC p x e (bse (.lst 0) want got)⟩ σ
  |false=>k .nxt ⟨dE.names,elC p x e (bse (.lst 0) want got)⟩ σ:=by kernel_rfl!
theorem el_TS{β:Type}(T:Int→Option Str)(n:Nat)(p:Int)(v:PV)(w:Str)(e:Int)(ws:PV)(want got:Str)(σ:Sto)(k:Fl→Cx→Sto→Option β):
  kN (G0 T) (n+20) ⟨dE.names,elS p v e (bse ws want got)⟩ (.str w) σ (stAt dE 9) k=eX dE.names p w e ws want got σ k:=by kernel_rfl!
theorem el_TA{β:Type}(T:Int→Option Str)(n:Nat)(p:Int)(v:PV)(w:Str)(e:Int)(ws:PV)(want got:Str)(σ:Sto)(k:Fl→Cx→Sto→Option β):
  kN (G0 T) (n+20) ⟨dE.names,elA p v e (bse ws want got)⟩ (.str w) σ (stAt dE 9) k=eX dE.names p w e ws want got σ k:=by kernel_rfl!
theorem el_TB{β:Type}(T:Int→Option Str)(n:Nat)(p:Int)(v:PV)(w:Str)(e:Int)(ws:PV)(want got:Str)(σ:Sto)(k:Fl→Cx→Sto→Option β):
  kN (G0 T) (n+20) ⟨dE.names,elB p v e (bse ws want got)⟩ (.str w) σ (stAt dE 9) k=eX dE.names p w e ws want got σ k:=by kernel_rfl!
theorem el_TC{β:Type}(T:Int→Option Str)(n:Nat)(p:Int)(v:PV)(w:Str)(e:Int)(ws:PV)(want got:Str)(σ:Sto)(k:Fl→Cx→Sto→Option β):
  kN (G0 T) (n+20) ⟨dE.names,elC p v e (bse ws want got)⟩ (.str w) σ (stAt dE 9) k=eX dE.names p w e ws want got σ k:=by kernel_rfl!
theorem el_9i{β:Type}(T:Int→Option Str)(n:Nat)(B:LE)(v:Nat)(L:List PV)(a b c:PV)(k:List PV→Option (Nat×Nat)→Sto→Option β):
 bP (G0 T) (n+20) ⟨dE.names,("endpos",a)::("w",b)::("startpos",c)::("ws",.lst 0)::B⟩ [⟨v,.lst L⟩] (dQ (stAt dE 9)) k=k L (some (0,v)) [⟨v,.lst L⟩]:=by kernel_rfl!
theorem el_9j{β:Type}(T:Int→Option Str)(n:Nat)(B:LE)(v:Nat)(L:List PV)(a b c:PV)(k:List PV→Option (Nat×Nat)→Sto→Option β):
 bP (G0 T) (n+20) ⟨dE.names,("w",b)::("startpos",c)::("endpos",a)::("ws",.lst 0)::B⟩ [⟨v,.lst L⟩] (dQ (stAt dE 9)) k=k L (some (0,v)) [⟨v,.lst L⟩]:=by kernel_rfl!
theorem el_9k{β:Type}(T:Int→Option Str)(n:Nat)(B:LE)(v:Nat)(L:List PV)(a b c:PV)(k:List PV→Option (Nat×Nat)→Sto→Option β):
 bP (G0 T) (n+20) ⟨dE.names,("w",b)::("endpos",a)::("startpos",c)::("ws",.lst 0)::B⟩ [⟨v,.lst L⟩] (dQ (stAt dE 9)) k=k L (some (0,v)) [⟨v,.lst L⟩]:=by kernel_rfl!
theorem el_9s:ForIs (stAt dE 9):=fun β G n cx σ k=>by kernel_rfl!
theorem el_10{β:Type}(T:Int→Option Str)(n:Nat)(cx:Cx)(σ:Sto)(k:Fl→Cx→Sto→Option β):
 exK (G0 T) (n+20) cx σ (stAt dE 10) k=k (.ret (.bool true)) cx σ:=by kernel_rfl!
noncomputable def dW(got:Str)(e:Int):Int→List Str→Bool
 |_,[]=>true
 |p,w::ws=>match decide (bX got w p e < 0)with
  |true=>false
  |false=>dW got e (bX got w p e+w.length) ws
theorem mK(v:Nat)(d:CD)(σ:Sto):watch (⟨v,d⟩::σ) (some (0,v))=true:=Nat.beq_refl v
theorem wX{got:Str}{e p:Int}{w:Str}{ws:List Str}(h:decide (bX got w p e < 0)=true):dW got e p (w::ws)=false:=by unfold dW;rw[h]
theorem xT{got:Str}{e p:Int}{w:Str}{ws:List Str}(h:decide (bX got w p e < 0)=false):dW got e p (w::ws)=dW got e (bX got w p e+w.length) ws:=by rw[dW,h]
section
variable {β:Type}(T:Int→Option Str)(want got:Str)(e:Int)(v:Nat)(L:List PV)(he:0≤e∧e≤got.length)
include he
theorem el_no{N:List (Str×NameKind)}{p:Int}{w:Str}{ws:PV}{σ:Sto}(hp:0≤p)(h:decide (bX got w p e < 0)=true)(k:Fl→Cx→Sto→Option β):eX N p w e ws want got σ k=k (.ret (.bool false)) ⟨N,elS (bX got w p e) (.str w) e (bse ws want got)⟩ σ:=by
 unfold eX
 rw[h]
 exact if_pos ⟨hp,he⟩
theorem el_go{N:List (Str×NameKind)}{p:Int}{w:Str}{ws:PV}{σ:Sto}(hp:0≤p)(h:decide (bX got w p e < 0)=false)(hw:w.length≤100000)(k:Fl→Cx→Sto→Option β):eX N p w e ws want got σ k=k .nxt ⟨N,elS (bX got w p e+w.length) (.str w) e (bse ws want got)⟩ σ:=by
 unfold eX
 rw[h]
 exact (if_pos ⟨hp,he⟩).trans (if_pos hw)
omit he in
theorem el_up{p:Int}{w:Str}(h:decide (bX got w p e < 0)=false):0≤bX got w p e+w.length:=Int.add_nonneg (Int.not_lt.mp (of_decide_eq_false h)) (Int.natCast_nonneg _)
theorem xD:∀(ws:List Str) (n:Nat) (p:Int) (x:PV),0≤p→(∀w∈ws,w.length≤100000)→∃cx',∀k:Fl→Cx→Sto→Option β,dZ (G0 T) (n+ws.length+21) ⟨dE.names,elS p x e (bse (.lst 0) want got)⟩ [⟨v,.lst L⟩] (cH (stAt dE 9)) (bN (stAt dE 9)) (some (0,v)) (ws.map .str) k=
   onB (dW got e p ws) (k .nxt cx' [⟨v,.lst L⟩]) (k (.ret (.bool false)) cx' [⟨v,.lst L⟩])
 |[],n,p,x,hp,hw=>⟨_,fun k=>pK (n+20) _ _ _ _ _ _ (mK ..)⟩
 |w::ws,n,p,x,hp,hw=>by
  cases hd:decide (bX got w p e < 0)with
  |true=>
   rw[wX hd]
   exact⟨_,fun k=>(gV (n+ws.length+21) _ _ _ _ _ _ k (mK ..)).trans ((el_TS T (n+ws.length+1) ..).trans (el_no want got e he hp hd _))⟩
  |false=>
   obtain⟨cx',hc⟩:=xD ws n _ (.str w) (el_up got e hd) fun u hu=>hw u (List.mem_cons_of_mem _ hu)
   rw[xT hd]
   exact⟨cx',fun k=>loopN (mK ..) (fun k=>(el_TS T (n+ws.length+1) ..).trans (el_go want got e he hp hd (hw w List.mem_cons_self) k)) (hc k)⟩
theorem el_loop(le:LE)(p:Int)(hp:0≤p)
  (hle:∀(n:Nat) (w:Str) (k:Fl→Cx→Sto→Option β),kN (G0 T) (n+20) ⟨dE.names,le⟩ (.str w) [⟨v,.lst L⟩] (stAt dE 9) k=eX dE.names p w e (.lst 0) want got [⟨v,.lst L⟩] k) (ws:List Str) (n:Nat) (hw:∀w∈ws,w.length≤100000):
  ∃cx',∀k:Fl→Cx→Sto→Option β,dZ (G0 T) (n+ws.length+21) ⟨dE.names,le⟩ [⟨v,.lst L⟩] (cH (stAt dE 9)) (bN (stAt dE 9)) (some (0,v)) (ws.map .str) k=
   onB (dW got e p ws) (k .nxt cx' [⟨v,.lst L⟩]) (k (.ret (.bool false)) cx' [⟨v,.lst L⟩]):=by
 cases ws with
 |nil=>exact⟨_,fun k=>pK (n+20) _ _ _ _ _ _ (mK ..)⟩
 |cons w ws=>
  cases hd:decide (bX got w p e < 0)with
  |true=>
   rw[wX hd]
   exact⟨_,fun k=>(gV (n+ws.length+21) _ _ _ _ _ _ k (mK ..)).trans ((hle (n+ws.length+1) w _).trans (el_no want got e he hp hd _))⟩
  |false=>
   obtain⟨cx',hc⟩:=xD (β:=β) T want got e v L he ws n _ (.str w) (el_up got e hd) fun u hu=>hw u (List.mem_cons_of_mem _ hu)
   rw[xT hd]
   exact⟨cx',fun k=>loopN (mK ..) (fun k=>(hle (n+ws.length+1) w k).trans (el_go want got e he hp hd (hw w List.mem_cons_self) k)) (hc k)⟩
end
noncomputable def ellP(a:Str)(mid:List Str)(b got:Str):Bool:=
 ((a.length==0) || Txt.startswith got a)&&(((b.length==0) || Txt.endswith got b)&&(decide ((a.length:Int)≤(got.length:Int) - b.length)&&
  dW got ((got.length:Int) - b.length) a.length ((if a.length==0 then [a] else [])++mid++(if b.length==0 then [b] else []))))
theorem jV0(r:List PV)(x:PV):seqIndex? (-1) (r++[x]).length=some r.length:=(congrArg (seqIndex? (-1)) List.length_append).trans (vJ _)
theorem tK(x:PV)(r:List PV):seqIndex? 0 (x::r).length=some 0:=oN (Nat.succ_pos _)
theorem aZ0{β:Type}(x:PV)(r:List PV)(v:Nat)(k:PV→Option β):bT (.lst 0) (.int 0) [⟨v,.lst (x::r)⟩] k=k x:=by
 have e:=tK x r
 show grd _ (opt (seqIndex? 0 (x::r).length) _)=_
 rw[e]
 exact if_pos (by decide)
theorem eY0{β:Type}(x:PV)(r:List PV)(v:Nat)(k:PV→Option β):bT (.lst 0) (.int (-1)) [⟨v,.lst (r++[x])⟩] k=k x:=by
 have e:=jV0 r x
 show grd _ (opt (seqIndex? (-1) (r++[x]).length) fun p=>opt (r++[x])[p]? k)=_
 rw[e]
 show grd _ (opt (r++[x])[r.length]? k)=_
 rw[List.getElem?_concat_length]
 exact if_pos (by decide)
theorem rC{β:Type}(M:List Str)(b:Str)(v:Nat)(k:PV→Option β):bT (.lst 0) (.int (-1)) [⟨v,.lst ((M++[b]).map .str)⟩] k=k (.str b):=by
 rw[List.map_append]
 exact eY0 (.str b) (M.map .str) v k
theorem iV0(T:Int→Option Str)(want got:Str)(p e:Int)(v:Nat)(ws:List Str)(le:LE)(hp:0≤p)(he:0≤e∧e≤got.length)(hn:ws.length≤1000)(hw:∀w∈ws,w.length≤100000)
  (h8:∀k:Fl→Cx→Sto→Option (PV×Sto),exK (G0 T) 1991 ⟨dE.names,le⟩ [⟨v,.lst (ws.map .str)⟩] (stAt dE 8) k=match decide (p > e)with
   |true=>k (.ret (.bool false)) ⟨dE.names,le⟩ [⟨v,.lst (ws.map .str)⟩]
   |false=>k .nxt ⟨dE.names,le⟩ [⟨v,.lst (ws.map .str)⟩])
  (h9:∀k:List PV→Option (Nat×Nat)→Sto→Option (PV×Sto),bP (G0 T) 1989 ⟨dE.names,le⟩ [⟨v,.lst (ws.map .str)⟩] (dQ (stAt dE 9)) k=k (ws.map .str) (some (0,v)) [⟨v,.lst (ws.map .str)⟩])
  (hle:∀(n:Nat) (w:Str) (k:Fl→Cx→Sto→Option (PV×Sto)),kN (G0 T) (n+20) ⟨dE.names,le⟩ (.str w) [⟨v,.lst (ws.map .str)⟩] (stAt dE 9) k=eX dE.names p w e (.lst 0) want got [⟨v,.lst (ws.map .str)⟩] k):
  ∃σ',cC (G0 T) 1992 ⟨dE.names,le⟩ [⟨v,.lst (ws.map .str)⟩] [stAt dE 8,stAt dE 9,stAt dE 10] zX=some (.bool (decide (p≤e)&&dW got e p ws),σ'):=by
 by_cases h:p > e
 ·rw[decide_eq_true h]at h8
  rw[decide_eq_false (Int.not_le.mpr h)]
  exact⟨_,bI0 h8 rfl⟩
 ·rw[decide_eq_false h]at h8
  rw[decide_eq_true (Int.not_lt.mp h)]
  obtain⟨cx',hc⟩:=el_loop (β:=PV×Sto) T want got e v (ws.map .str) he le p hp hle ws (1968 - ws.length) hw
  rw[show 1968 - ws.length+ws.length+21=1989 by lia]at hc
  cases hl:dW got e p ws with
  |true=>
   rw[hl]at hc
   exact⟨_,gU h8 (gU (forN el_9s h9 hc) (bI0 (fun k=>el_10 T 1969 _ _ k) rfl))⟩
  |false=>
   rw[hl]at hc
   exact⟨_,gU h8 (bI0 (forN el_9s h9 hc) rfl)⟩
theorem eO0{M:List Str}{b:Str}:((M++[b]).map PV.str).eraseIdx M.length=M.map PV.str:=by
 rw[List.map_append,show M.length=(M.map PV.str).length from (List.length_map ..).symm,List.eraseIdx_append_of_length_le (Nat.le_refl _),Nat.sub_self]
 exact List.append_nil _
section
variable (T:Int→Option Str)(want got b:Str)(M:List Str)(p:Int)(v:Nat)(hp:0≤p)(hn:M.length≤901)(hM:∀w∈M,w.length≤100000)(hb:b.length≤100000)
include hp hn hM hb
theorem kD0{X:Str→LE}(h7:∀k:Fl→Cx→Sto→Option (PV×Sto),exK (G0 T) 1992 ⟨dE.names,X b⟩ [⟨v,.lst ((M++[b]).map .str)⟩] (stAt dE 7) k=uA dE.names b p got.length (bse (.lst 0) want got) v got ((M++[b]).map .str) (X b) (fun cx σ=>k .nxt cx σ) (k (.ret (.bool false)) ⟨dE.names,X b⟩ [⟨v,.lst ((M++[b]).map .str)⟩]))
  (h8:∀k:Fl→Cx→Sto→Option (PV×Sto),exK (G0 T) 1991 ⟨dE.names,X b⟩ [⟨v,.lst ((M++[b]).map .str)⟩] (stAt dE 8) k=match decide (p > got.length)with
   |true=>k (.ret (.bool false)) ⟨dE.names,X b⟩ [⟨v,.lst ((M++[b]).map .str)⟩]
   |false=>k .nxt ⟨dE.names,X b⟩ [⟨v,.lst ((M++[b]).map .str)⟩])
  (h9:∀k:List PV→Option (Nat×Nat)→Sto→Option (PV×Sto),bP (G0 T) 1989 ⟨dE.names,X b⟩ [⟨v,.lst ((M++[b]).map .str)⟩] (dQ (stAt dE 9)) k=k ((M++[b]).map .str) (some (0,v)) [⟨v,.lst ((M++[b]).map .str)⟩])
  (ht:∀(n:Nat) (w:Str) (k:Fl→Cx→Sto→Option (PV×Sto)),kN (G0 T) (n+20) ⟨dE.names,X b⟩ (.str w) [⟨v,.lst ((M++[b]).map .str)⟩] (stAt dE 9) k=eX dE.names p w got.length (.lst 0) want got [⟨v,.lst ((M++[b]).map .str)⟩] k):
  ∃σ',cC (G0 T) 1993 ⟨dE.names,X b⟩ [⟨v,.lst ((M++[b]).map .str)⟩] [stAt dE 7,stAt dE 8,stAt dE 9,stAt dE 10] zX=
   some (.bool (((b.length==0) || Txt.endswith got b)&&(decide (p≤(got.length:Int) - b.length)&&dW got ((got.length:Int) - b.length) p (M++(if b.length==0 then [b] else [])))),σ'):=by
 have hl:(M++[b]).length=M.length+1:=List.length_append
 unfold uA at h7
 have h1000:b.length≤1000000:=Nat.le_trans hb (by decide)
 cases h1:b.length==0 with
 |true=>
  have h0:b.length=0:=eq_of_beq h1
  have hbn:((b.length:Int) !=0)=false:=by rw[h0];rfl
  rw[hbn]at h7
  have hall:∀w∈M++[b],w.length≤100000:=fun w hw=>(List.mem_append.mp hw).elim (hM w) fun h=>List.mem_singleton.mp h▸hb
  obtain⟨σ',h⟩:=iV0 T want got p got.length v (M++[b]) (X b) hp ⟨Int.natCast_nonneg _,Int.le_refl _⟩ (by rw[hl];exact Nat.le_trans (Nat.succ_le_succ hn) (by decide)) hall h8 h9 ht
  refine⟨σ',gU (fun k=>(h7 k).trans (if_pos h1000)) (h.trans ?_)⟩
  rw[h0,show ((got.length:Int) - ((0:Nat):Int))=got.length from Int.sub_zero _]
  rfl
 |false=>
  have h0:b.length≠0:=fun e=>by rw[e]at h1;cases h1
  have hbn:((b.length:Int) !=0)=true:=bne_iff_ne.mpr fun e=>h0 (Int.ofNat.inj e)
  rw[hbn]at h7
  cases h2:Txt.endswith got b with
  |false=>
   rw[h2]at h7
   exact⟨_,bI0 (fun k=>(h7 k).trans (if_pos h1000)) rfl⟩
  |true=>
   rw[h2]at h7
   have hge:b.length≤got.length:=by
    unfold Txt.endswith at h2
    simp at h2
    exact h2.1
   have hs:seqIndex? (-1) ((M++[b]).map PV.str).length=some M.length:=by rw[List.length_map,hl];exact vJ _
   have g2:¬ 10000 < ((M++[b]).map PV.str).length:=by rw[List.length_map,hl];exact Nat.not_lt.mpr (Nat.le_trans (Nat.succ_le_succ hn) (by decide))
   have he:0≤(got.length:Int) - b.length∧(got.length:Int) - b.length≤got.length:=⟨Int.sub_nonneg_of_le (Int.ofNat_le.mpr hge),Int.sub_le_self _ (Int.natCast_nonneg _)⟩
   rw[hs]at h7
   obtain⟨σ',h⟩:=iV0 T want got p ((got.length:Int) - b.length) (v+1) M _ hp he (Nat.le_trans hn (by decide)) hM
    (fun k=>el_8A T 1971 _ _ _ _ _ _ k) (fun k=>el_9i T 1969 _ _ _ _ _ _ k) (fun n w k=>el_TA T n _ _ _ _ _ _ _ _ k)
   refine⟨σ',gU (cx':=⟨dE.names,elA p (.str b) ((got.length:Int) - b.length) (bse (.lst 0) want got)⟩) (σ':=[⟨v+1,.lst (M.map .str)⟩]) (fun k=>(h7 k).trans ((if_pos h1000).trans ((if_pos hb).trans ((if_pos g2).trans ?_)))) (h.trans ?_)⟩
   ·show k .nxt ⟨dE.names,elA p (.str b) ((got.length:Int) - b.length) (bse (.lst 0) want got)⟩ [⟨v+1,.lst (((M++[b]).map PV.str).eraseIdx M.length)⟩]=_
    rw[eO0]
   ·rw[show (if false=true then [b] else [])=([]:List Str) from rfl,List.append_nil]
    rfl
end
theorem el_7onB(T:Int→Option Str)(want got b:Str)(M:List Str)(p:Int)(v:Nat)(hp:0≤p)(hn:M.length≤901)(hM:∀w∈M,w.length≤100000)(hb:b.length≤100000):
  ∃σ',cC (G0 T) 1993 ⟨dE.names,elB p (.str b) got.length (bse (.lst 0) want got)⟩ [⟨v,.lst ((M++[b]).map .str)⟩] [stAt dE 7,stAt dE 8,stAt dE 9,stAt dE 10] zX=
   some (.bool (((b.length==0) || Txt.endswith got b)&&(decide (p≤(got.length:Int) - b.length)&&dW got ((got.length:Int) - b.length) p (M++(if b.length==0 then [b] else [])))),σ'):=
 kD0 T want got b M p v hp hn hM hb (X:=fun b=>elB p (.str b) got.length (bse (.lst 0) want got)) (fun k=>el_7 T 1972 _ _ _ _ _ _ _ k) (fun k=>el_8B T 1971 _ _ _ _ _ _ k) (fun k=>el_9j T 1969 _ _ _ _ _ _ k) (fun n _ k=>el_TB T n _ _ _ _ _ _ _ _ k)
theorem el_7onC(T:Int→Option Str)(want got b:Str)(M:List Str)(v:Nat)(hn:M.length≤901)(hM:∀w∈M,w.length≤100000)(hb:b.length≤100000):
  ∃σ',cC (G0 T) 1993 ⟨dE.names,elC 0 (.str b) got.length (bse (.lst 0) want got)⟩ [⟨v,.lst ((M++[b]).map .str)⟩] [stAt dE 7,stAt dE 8,stAt dE 9,stAt dE 10] zX=
   some (.bool (((b.length==0) || Txt.endswith got b)&&(decide (0≤(got.length:Int) - b.length)&&dW got ((got.length:Int) - b.length) 0 (M++(if b.length==0 then [b] else [])))),σ'):=
 kD0 T want got b M 0 v (Int.le_refl _) hn hM hb (X:=fun b=>elC 0 (.str b) got.length (bse (.lst 0) want got)) (fun k=>el_7' T 1972 _ _ _ _ _ _ _ k) (fun k=>el_8C T 1971 _ _ _ _ _ _ k) (fun k=>el_9k T 1969 _ _ _ _ _ _ k) (fun n _ k=>el_TC T n _ _ _ _ _ _ _ _ k)
theorem ell_run(T:Int→Option Str)(want got a b:Str)(mid:List Str)(hc:Txt.contains want "..."=true)(hs:Txt.split want "..."=a::(mid++[b]))(hn:mid.length≤900)(hw:want.length≤100000)(hg:got.length≤100000)
  (hp:∀w∈a::(mid++[b]),w.length≤100000):∃σ',cU (G0 T) 2000 dE [.str want,.str got] []=some (.bool (ellP a mid b got),σ'):=by
 have ha:=hp a List.mem_cons_self
 have hb:=hp b (List.mem_cons_of_mem _ (List.mem_append_right _ List.mem_cons_self))
 have hm:∀w∈mid,w.length≤100000:=fun w h=>hp w (List.mem_cons_of_mem _ (List.mem_append_left _ h))
 have hl:(a::(mid++[b])).length=mid.length+2:=by rw[List.length_cons,List.length_append,List.length_singleton]
 have hl2:((a::(mid++[b])).map PV.str).length=mid.length+2:=(List.length_map ..).trans hl
 have g1:(a::(mid++[b])).length≤1000∧want.length≤100000:=⟨by rw[hl];lia,hw⟩
 have g2:((a::(mid++[b])).map PV.str).length≤100000:=by rw[hl2];lia
 have g3:decide ((((a::(mid++[b])).map PV.str).length:Int)≥2)=true:=by rw[hl2];exact decide_eq_true (by lia)
 have g4:¬ 10000 < ((a::(mid++[b])).map PV.str).length:=by rw[hl2];lia
 have g5:a.length≤1000000:=Nat.le_trans ha (by decide)
 have e0:=fun k=>el_0 (β:=PV×Sto) T 1979 want got [] k
 rw[hc]at e0
 have e1:=fun k=>el_1 (β:=PV×Sto) T 1978 want got k
 rw[hs]at e1
 have e2:=fun k=>el_2 (β:=PV×Sto) T 1977 want got ((a::(mid++[b])).map .str) k
 rw[g3]at e2
 have e5:=fun k=>el_5 (β:=PV×Sto) T 1974 a want got got.length ((a::(mid++[b])).map .str) k
 unfold dB0 at e5
 rw[dV (le:=[("want",.str want),("got",.str got)]) tH rfl rfl,dO0]
 have go:∀{r},cC (G0 T) 1995 ⟨dE.names,elC 0 (.str a) got.length (bse (.lst 0) want got)⟩ [⟨0,.lst ((a::(mid++[b])).map .str)⟩] [stAt dE 5,stAt dE 6,stAt dE 7,stAt dE 8,stAt dE 9,stAt dE 10] zX=r→
   cC (G0 T) 2000 ⟨dE.names,[("want",.str want),("got",.str got)]⟩ [] [stAt dE 0,stAt dE 1,stAt dE 2,stAt dE 3,stAt dE 4,stAt dE 5,stAt dE 6,stAt dE 7,stAt dE 8,stAt dE 9,stAt dE 10] zX=r:=fun h=>gU e0 (gU (fun k=>(e1 k).trans (if_pos g1)) (gU (fun k=>(e2 k).trans (if_pos g2)) (gU (fun k=>(el_3 T 1976 _ _ _ k).trans (if_pos hg)) (gU (fun k=>(el_4 T 1975 _ _ _ _ k).trans (aZ0 (.str a) _ 0 _)) h))))
 cases h0:a.length==0 with
 |true=>
  have h0':a.length=0:=eq_of_beq h0
  have hbn:((a.length:Int) !=0)=false:=by rw[h0'];rfl
  rw[hbn]at e5
  obtain⟨σ',h⟩:=el_7onC T want got b (a::mid) 0 (Nat.succ_le_succ hn) (fun w hw=>(List.mem_cons.mp hw).elim (fun e=>e▸ha) (hm w)) hb
  refine⟨σ',go (gU (fun k=>(e5 k).trans (if_pos g5)) (gU (fun k=>(el_6' T 1973 _ _ _ _ _ _ k).trans (rC (a::mid) b 0 _)) (h.trans ?_)))⟩
  unfold ellP
  rw[h0,h0']
  rfl
 |false=>
  have h0':a.length≠0:=fun e=>by rw[e]at h0;cases h0
  have hbn:((a.length:Int) !=0)=true:=bne_iff_ne.mpr fun e=>h0' (Int.ofNat.inj e)
  rw[hbn]at e5
  unfold ellP
  rw[h0]
  cases h2:Txt.startswith got a with
  |false=>
   rw[h2]at e5
   exact⟨_,go (bI0 (fun k=>(e5 k).trans (if_pos g5)) rfl)⟩
  |true=>
   rw[h2,List.map_cons,tK]at e5
   obtain⟨σ',h⟩:=el_7onB T want got b mid a.length 1 (Int.natCast_nonneg _) (Nat.le_succ_of_le hn) hm hb
   refine⟨σ',go (gU (fun k=>(e5 k).trans ((if_pos g5).trans ((if_pos ha).trans (if_pos g4)))) (gU (fun k=>(el_6 T 1973 _ _ _ _ _ _ k).trans (rC mid b 1 _)) (h.trans rfl)))⟩
open PySem.Builtin PySem.Builtin.Str
noncomputable def hit(x y:List Nat)(hi i:Nat):Bool:=decide (i+y.length≤hi)&&((x.drop i).take y.length==y)
noncomputable def dY(x y:List Nat)(hi limit:Nat):List Nat→Nat→Nat→List Nat
 |[],_,_=>[]
 |i::is,free,cnt=>if cnt < limit∧free≤i∧hit x y hi i=true then i::dY x y hi limit is (i+y.length) (cnt+1) else dY x y hi limit is free cnt
theorem vC{x y:List Nat}{hi limit i:Nat}{is:List Nat}{free cnt:Nat}(h:cnt < limit∧free≤i∧hit x y hi i=true):dY x y hi limit (i::is) free cnt=i::dY x y hi limit is (i+y.length) (cnt+1):=if_pos h
theorem gK{x y:List Nat}{hi limit i:Nat}{is:List Nat}{free cnt:Nat}(h:¬ (cnt < limit∧free≤i∧hit x y hi i=true)):dY x y hi limit (i::is) free cnt=dY x y hi limit is free cnt:=if_neg h
theorem pL{x y:List Nat}{hi i:Nat}:hit x y hi i=true↔i+y.length≤hi∧((x.drop i).take y.length==y)=true:=(Bool.and_eq_true_iff).trans (and_congr_left' decide_eq_true_iff)
theorem lA(x y:List Nat)(i:Nat):subAt (S x) (S y) i=((x.drop i).take y.length==y):=by
 rw[StrLaws.subAt_eq]
 simp[S,Str.length]
theorem mG(x y:List Nat)(hi limit:Nat):∀(l:List Nat) (arr:Array Nat) (free:Nat),(forIn l (arr,free) (StrLaws.occBody (S x) (S y) hi limit)).run.fst.toList=arr.toList++dY x y hi limit l free arr.size
 |[],arr,free=>by simp[dY]
 |i::l,arr,free=>by
  rw[List.forIn_cons]
  unfold StrLaws.occBody
  have hs:(S y).length=y.length:=S_len y
  have hiff:(((arr.size < limit∧free≤i)∧i+(S y).length≤hi)∧subAt (S x) (S y) i=true)↔(arr.size < limit∧free≤i∧hit x y hi i=true):=by
   rw[pL,lA,hs,and_assoc,and_assoc]
  by_cases h:arr.size < limit∧free≤i∧hit x y hi i=true
  ·rw[if_pos (hiff.mpr h)]
   refine (mG x y hi limit l _ _).trans ?_
   rw[vC h,hs,Array.toList_push,Array.size_push,List.append_assoc]
   rfl
  ·rw[if_neg fun q=>h (hiff.mp q)]
   refine (mG x y hi limit l _ _).trans ?_
   rw[gK h]
theorem jN0(x y:List Nat)(lo hi limit:Nat):occurrences (S x) (S y) lo hi limit=dY x y hi limit (List.range' lo (hi+1 - lo)) lo 0:=by
 rw[StrLaws.occ_eq,mG]
 simp
noncomputable def eK(y:List Nat):Nat→List Nat→Option Nat
 |i,[]=>if y=[] then some i else none
 |i,c::r=>if y.isPrefixOf (c::r) then some i else eK y (i+1) r
noncomputable def iX(y:List Nat):List Nat→Option (List Nat)
 |[]=>if y=[] then some [] else none
 |c::r=>if y.isPrefixOf (c::r) then some ((c::r).drop y.length) else iX y r
noncomputable def cI:List Nat→List (List Nat)→Bool
 |_,[]=>true
 |reg,y::ys=>match iX y reg with
  |some r=>cI r ys
  |none=>false
theorem mF(y l:List Nat):y.isPrefixOf l=true↔(l.take y.length==y)=true∧y.length≤l.length:=by
 rw[List.isPrefixOf_iff_prefix,beq_iff_eq]
 constructor
 ·rintro ⟨t,rfl⟩
  simp
 ·rintro ⟨h,_⟩
  refine⟨l.drop y.length,?_⟩
  have e:=List.take_append_drop y.length l
  rw[h]at e
  exact e
theorem tC(x y:List Nat)(hi:Nat):∀(l:List Nat) (free cnt:Nat),1≤cnt→dY x y hi 1 l free cnt=[]
 |[],_,_,_=>rfl
 |_::l,free,cnt,h=>(gK fun q=>Nat.not_lt.mpr h q.1).trans (tC x y hi l free cnt h)
theorem dG0(x y:List Nat)(p n:Nat)(he:p+n≤x.length):hit x y (p+n) p=y.isPrefixOf ((x.drop p).take n):=by
 rw[Bool.eq_iff_iff,mF,pL,Nat.add_le_add_iff_left,List.length_take,List.length_drop,Nat.min_eq_left (Nat.le_sub_of_add_le (Nat.add_comm p n▸he)),List.take_take,and_comm]
 exact and_congr_left fun h=>by rw[Nat.min_eq_left h]
theorem pre_nil{y:List Nat}(hy:y≠[]):y.isPrefixOf []=false:=by
 cases y with
 |nil=>exact absurd rfl hy
 |cons _ _=>rfl
theorem sX(x y:List Nat):∀(n p free:Nat),p+n≤x.length→free≤p→dY x y (p+n) 1 (List.range' p (n+1)) free 0=(eK y p ((x.drop p).take n)).toList
 |0,p,free,he,hf=>by
  have hh:=dG0 x y p 0 he
  rw[List.take_zero]at hh ⊢
  by_cases hy:y=[]
  ·subst hy
   exact vC ⟨Nat.zero_lt_one,hf,hh⟩
  ·exact (gK fun q=>Bool.false_ne_true ((pre_nil hy).symm.trans (hh.symm.trans q.2.2))).trans (by rw[eK,if_neg hy];rfl)
 |n+1,p,free,he,hf=>by
  have hh:=dG0 x y p (n+1) he
  have e:p+1+n=p+(n+1):=Nat.add_right_comm p 1 n
  have ih:=sX x y n (p+1) free (e▸he) (Nat.le_succ_of_le hf)
  rw[e]at ih
  have hreg:(x.drop p).take (n+1)=x[p]'(Nat.lt_of_lt_of_le (Nat.lt_add_of_pos_right n.succ_pos) he)::(x.drop (p+1)).take n:=by rw[List.drop_eq_getElem_cons (Nat.lt_of_lt_of_le (Nat.lt_add_of_pos_right n.succ_pos) he)];rfl
  by_cases h:hit x y (p+(n+1)) p=true
  ·refine (vC (is:=List.range' (p+1) (n+1)) ⟨Nat.zero_lt_one,hf,h⟩).trans ?_
   rw[tC _ _ _ _ _ _ (Nat.le_refl _)]
   rw[hh,hreg]at h
   rw[hreg,eK,if_pos h]
   rfl
  ·refine (gK (fun q=>h q.2.2)).trans (ih.trans ?_)
   rw[hh,hreg]at h
   rw[hreg,eK,if_neg h]
theorem sH(y:List Nat):∀(reg:List Nat) (p:Nat),(∀q,eK y p reg=some q→∃d,q=p+d∧d+y.length≤reg.length∧iX y reg=some (reg.drop (d+y.length)))∧(eK y p reg=none→iX y reg=none)
 |[],p=>by
  by_cases hy:y=[]
  ·refine⟨fun q h=>⟨0,?_,?_,?_⟩,fun h=>?_⟩
   ·rw[eK,if_pos hy]at h
    exact (Option.some.inj h).symm
   ·rw[hy];exact Nat.le_refl _
   ·rw[iX,if_pos hy,List.drop_nil]
   ·rw[eK,if_pos hy]at h
    cases h
  ·refine⟨fun q h=>?_,fun _=>if_neg hy⟩
   rw[eK,if_neg hy]at h
   cases h
 |c::r,p=>by
  by_cases hy:y.isPrefixOf (c::r)=true
  ·refine⟨fun q h=>⟨0,?_,?_,?_⟩,fun h=>?_⟩
   ·rw[eK,if_pos hy]at h
    exact (Option.some.inj h).symm
   ·rw[Nat.zero_add]
    exact ((mF y (c::r)).mp hy).2
   ·rw[iX,if_pos hy,Nat.zero_add]
   ·rw[eK,if_pos hy]at h
    cases h
  ·rw[eK,iX,if_neg hy,if_neg hy]
   obtain⟨h1,h2⟩:=sH y r (p+1)
   refine⟨fun q h=>?_,h2⟩
   obtain⟨d,e1,e2,e3⟩:=h1 q h
   exact⟨d+1,e1.trans (Nat.add_right_comm p 1 d),Nat.add_right_comm d 1 _▸Nat.succ_le_succ e2,by rw[e3,Nat.add_right_comm];rfl⟩
theorem fromIx(l p:Nat):fromIndex l (p:Int)=p:=by
 unfold fromIndex
 rw[if_neg (Int.not_lt.mpr (Int.natCast_nonneg p)),Int.max_eq_right (Int.natCast_nonneg p)]
 rfl
theorem find4_S(x y:List Nat)(p n:Nat)(he:p+n≤x.length):bX (S x) (S y) p ((p+n:Nat):Int)=match eK y p ((x.drop p).take n)with
  |some q=>(q:Int)
  |none=> -1:=by
 unfold bX
 rw[fromIx,fromIx,S_len,Nat.min_eq_left he,jN0,show p+n+1 - p=n+1 from Nat.add_sub_cancel_left (m:=n+1) ..,sX x y n p p he (Nat.le_refl _)]
 cases eK y p ((x.drop p).take n)<;>rfl
theorem dK0(x:List Nat):∀(ys:List (List Nat)) (p n:Nat),p+n≤x.length→dW (S x) ((p+n:Nat):Int) p (ys.map S)=cI ((x.drop p).take n) ys
 |[],p,_,_=>rfl
 |y::ys,p,n,he=>by
  rw[List.map_cons,dW,find4_S x y p n he,cI]
  have hc:=sH y ((x.drop p).take n) p
  cases hf:eK y p ((x.drop p).take n)with
  |none=>
   rw[hc.2 hf]
   rfl
  |some q=>
   obtain⟨d,rfl,h2,h3⟩:=hc.1 q hf
   rw[List.length_take]at h2
   obtain⟨m,rfl⟩:=Nat.le.dest (Nat.le_trans h2 (Nat.min_le_left ..))
   have e:p+(d+y.length+m)=p+d+y.length+m:=by rw[← Nat.add_assoc,← Nat.add_assoc]
   have ih:=dK0 x ys (p+d+y.length) m (e▸he)
   rw[h3,List.drop_take,Nat.add_sub_cancel_left,List.drop_drop,decide_eq_false (Int.not_lt.mpr (Int.natCast_nonneg (p+d)))]
   show dW (S x) ((p+(d+y.length+m):Nat):Int) (((p+d:Nat):Int)+((S y).length:Int)) (ys.map S)=cI ((x.drop (p+(d+y.length))).take m) ys
   rw[S_len,e,show p+(d+y.length)=p+d+y.length from (Nat.add_assoc ..).symm]
   exact ih
open PySem.Builtin PySem.Builtin.Str
noncomputable def dots:List Nat:=[46,46,46]
theorem bL0:(Str.ofString "...":Str)=S dots:=by decide+kernel
noncomputable def glue:List (List Nat)→List Nat
 |[]=>[]
 |[p]=>p
 |p::q::r=>p++(dots++glue (q::r))
noncomputable def kW:Nat→List (List Nat)→List Nat
 |_,[]=>[]
 |_,[_]=>[]
 |i,p::q::r=>(i+p.length)::kW (i+p.length+3) (q::r)
theorem app_one(l:List Nat)(c:Nat):(l++[c]).length=l.length+1:=List.length_append
theorem mT(x:List Nat)(hi limit:Nat):∀(p pre rest:List Nat) (l:List Nat) (free cnt:Nat),x=pre++(p++rest)→46∉p→dY x dots hi limit (List.range' pre.length p.length++l) free cnt=dY x dots hi limit l free cnt
 |[],_,_=>fun _ _ _ _ _=>rfl
 |c::p,pre,rest=>fun l free cnt hx hp=>by
  have hn:¬ (cnt < limit∧free≤pre.length∧hit x dots hi pre.length=true):=fun q=>by
   have h:=eq_of_beq (pL.mp q.2.2).2
   rw[hx,List.drop_left]at h
   exact hp (List.mem_cons.mpr (.inl (List.cons.inj (show c::List.take 2 (p++rest)=46::[46,46]from h)).1.symm))
  have ih:=mT x hi limit p (pre++[c]) rest l free cnt (by rw[hx,List.append_assoc];rfl) (fun h=>hp (List.mem_cons_of_mem _ h))
  rw[app_one]at ih
  exact (gK (is:=List.range' (pre.length+1) p.length++l) hn).trans ih
theorem zY{x:List Nat}{hi limit k:Nat}(l:List Nat){free cnt:Nat}(h:cnt < limit∧free≤k∧hit x dots hi k=true):dY x dots hi limit (k::(k+1)::(k+2)::l) free cnt=k::dY x dots hi limit l (k+3) (cnt+1):=
 (vC h).trans (congrArg (k::·) ((gK fun q=>Nat.not_succ_le_self _ (Nat.le_of_succ_le (show k+3≤k+1 from q.2.1))).trans (gK fun q=>Nat.not_succ_le_self _ (show k+3≤k+2 from q.2.1))))
theorem nQ(x:List Nat)(limit:Nat):∀(ps:List (List Nat)) (pre:List Nat) (free cnt:Nat),x=pre++glue ps→ps≠[]→(∀p∈ps,46∉p)→free≤pre.length→cnt+ps.length≤limit→
  dY x dots x.length limit (List.range' pre.length ((glue ps).length+1)) free cnt=kW pre.length ps
 |[],_,_,_=>fun _ h=>absurd rfl h
 |[p],pre,free,cnt=>fun hx _ hp hf hl=>by
  have hlen:x.length=pre.length+p.length:=by rw[hx,List.length_append];rfl
  show dY x dots x.length limit (List.range' pre.length (p.length+1)) free cnt=[]
  rw[← List.range'_append_1,mT x x.length limit p pre [] _ free cnt (by rw[hx,List.append_nil];rfl) (hp p List.mem_cons_self)]
  exact gK (is:=[]) fun q=>Nat.not_succ_le_self (pre.length+p.length) (Nat.le_of_succ_le (Nat.le_of_succ_le (hlen▸(pL.mp q.2.2).1)))
 |p::q::r,pre,free,cnt=>fun hx _ hp hf hl=>by
  have hgl:glue (p::q::r)=p++(dots++glue (q::r)):=rfl
  have hl2:(pre++(p++dots)).length=pre.length+p.length+3:=by rw[List.length_append,List.length_append];rfl
  have hlen:x.length=pre.length+p.length+(3+(glue (q::r)).length):=by rw[hx,hgl,List.length_append,List.length_append,List.length_append,← Nat.add_assoc];rfl
  have hdrop:x.drop (pre.length+p.length)=dots++glue (q::r):=by rw[hx,hgl,← List.append_assoc,← List.length_append,List.drop_left]
  have hh:hit x dots x.length (pre.length+p.length)=true:=pL.mpr ⟨hlen▸Nat.add_le_add_left (Nat.le_add_right 3 _) _,by rw[hdrop,List.take_left];rfl⟩
  have e:(glue (p::q::r)).length+1=p.length+((glue (q::r)).length+1+3):=by rw[hgl,List.length_append,List.length_append,show dots.length=3 from rfl,Nat.add_comm 3];rfl
  have ih:=nQ x limit (q::r) (pre++(p++dots)) (pre.length+p.length+3) (cnt+1) (by rw[hx,hgl,List.append_assoc,List.append_assoc]) (fun h=>nomatch h) (fun u hu=>hp u (List.mem_cons_of_mem _ hu)) (Nat.le_of_eq hl2.symm) (Nat.le_trans (Nat.le_of_eq (Nat.add_right_comm cnt 1 _)) hl)
  rw[hl2]at ih
  rw[e,← List.range'_append_1,mT x x.length limit p pre (dots++glue (q::r)) _ free cnt hx (hp p List.mem_cons_self)]
  exact (zY (List.range' (pre.length+p.length+3) ((glue (q::r)).length+1)) ⟨Nat.lt_of_lt_of_le (Nat.lt_add_of_pos_right (Nat.succ_pos _)) hl,Nat.le_trans hf (Nat.le_add_right ..),hh⟩).trans (congrArg ((pre.length+p.length)::·) ih)
theorem pN(x:List Nat):∀(ps:List (List Nat)) (pre:List Nat),x=pre++glue ps→ps≠[]→((pre.length::(kW pre.length ps).map (· +3)).zip (kW pre.length ps++[x.length])).map (fun (i,j)=>strSub (S x) i j)=ps.map S
 |[],_,_,h=>absurd rfl h
 |[p],pre,hx,_=>by
  have:strSub (S x) pre.length x.length=S p:=by
   unfold strSub S
   rw[hx]
   simp[glue]
  simp[kW,this]
 |p::q::r,pre,hx,_=>by
  have hgl:glue (p::q::r)=p++(dots++glue (q::r)):=rfl
  have h1:strSub (S x) pre.length (pre.length+p.length)=S p:=by
   unfold strSub S
   rw[hx,hgl]
   simp
  have ih:=pN x (q::r) (pre++(p++dots)) (by rw[hx,hgl];simp) (by simp)
  have hl2:(pre++(p++dots)).length=pre.length+p.length+3:=by simp[dots];lia
  rw[hl2]at ih
  rw[show kW pre.length (p::q::r)=(pre.length+p.length)::kW (pre.length+p.length+3) (q::r) from rfl]
  rw[List.map_cons,List.cons_append,List.zip_cons_cons,List.map_cons,ih]
  simp[h1]
theorem yE:∀ps:List (List Nat),ps.length≤(glue ps).length+1
 |[]=>Nat.zero_le _
 |[p]=>Nat.le_add_left 1 _
 |p::q::r=>by
  have e:(glue (p::q::r)).length=p.length+(3+(glue (q::r)).length):=by
   show (p++(dots++glue (q::r))).length=_
   rw[List.length_append,List.length_append]
   rfl
  rw[e]
  exact Nat.succ_le_succ (Nat.le_trans (yE (q::r)) (Nat.le_trans (Nat.add_comm 3 _▸Nat.add_le_add_left (by decide) _) (Nat.le_add_left ..)))
theorem jZ0(s:Str):¬ PySem.Builtin.Str.strKind s < 1:=by
 unfold PySem.Builtin.Str.strKind
 split
 ·decide
 ·split<;>decide
theorem split_S(p q:List Nat)(r:List (List Nat))(hp:∀u∈p::q::r,46∉u):Txt.split (S (glue (p::q::r))) "..."=(p::q::r).map S∧Txt.contains (S (glue (p::q::r))) "..."=true:=by
 have hgl:glue (p::q::r)=p++(dots++glue (q::r)):=rfl
 have hl3:p.length+3≤(glue (p::q::r)).length:=by rw[hgl,List.length_append,List.length_append];exact Nat.add_le_add_left (Nat.le_add_right 3 _) _
 have o1:=nQ (glue (p::q::r)) ((glue (p::q::r)).length+1) (p::q::r) [] 0 0 rfl (fun h=>nomatch h) hp (Nat.le_refl _) (Nat.le_trans (Nat.le_of_eq (Nat.zero_add _)) (yE (p::q::r)))
 have e1:occurrences (S (glue (p::q::r))) (Str.ofString "...") 0 (S (glue (p::q::r))).length ((S (glue (p::q::r))).length+1)=kW 0 (p::q::r):=by
  rw[bL0,jN0,S_len]
  exact o1
 constructor
 ·unfold Txt.split
  rw[e1]
  have h1:(decide ((S (glue (p::q::r))).length < (Str.ofString "...").length) || decide (PySem.Builtin.Str.strKind (S (glue (p::q::r))) < PySem.Builtin.Str.strKind (Str.ofString "...")))=false:=by
   rw[S_len,show (Str.ofString "...").length=3 by decide+kernel,show PySem.Builtin.Str.strKind (Str.ofString "...")=1 by decide+kernel]
   rw[decide_eq_false (Nat.not_lt.mpr (Nat.le_trans (Nat.le_add_left 3 _) hl3)),decide_eq_false (jZ0 _)]
   rfl
  rw[h1]
  simp only[Bool.false_eq_true,if_false]
  rw[show (kW 0 (p::q::r)).isEmpty=false from rfl]
  simp only[Bool.false_eq_true,if_false]
  unfold partsBetween
  have:=pN (glue (p::q::r)) (p::q::r) [] rfl (by simp)
  rw[show (Str.ofString "...").length=3 by decide+kernel,S_len]
  exact this
 ·unfold Txt.contains
  rw[bL0,StrLaws.found_iff]
  exact⟨p.length,by rw[S_len,S_len];exact hl3,by rw[lA,hgl,List.drop_left,List.take_left];rfl⟩
open PySem.Builtin PySem.Builtin.Str
theorem iG0(x y:List Nat):Txt.startswith (S x) (S y)=y.isPrefixOf x:=by
 rw[Bool.eq_iff_iff,mF]
 unfold Txt.startswith
 rw[lA,S_len,S_len,Bool.and_eq_true,decide_eq_true_eq,List.drop_zero,Nat.zero_add,and_comm]
noncomputable def wY(y x:List Nat):Bool:=decide (y.length≤x.length)&&(x.drop (x.length - y.length)==y)
theorem ends_S(x y:List Nat):Txt.endswith (S x) (S y)=wY y x:=by
 unfold Txt.endswith wY
 rw[lA,S_len,S_len,Nat.zero_add]
 by_cases h:y.length≤x.length
 ·rw[List.take_of_length_le (by rw[List.length_drop,Nat.sub_sub_self h];exact Nat.le_refl _)]
 ·rw[decide_eq_false h,Bool.false_and,Bool.false_and]
theorem qZ(a n:Nat):sliceRange (a:Int) ((a+n:Nat):Int) 1=List.range' a n:=by
 have hc:(if (a:Int) < ((a+n:Nat):Int) then (((a+n:Nat):Int) - a+1 - 1) / 1 else 0)=(n:Int):=by
  by_cases h:n=0
  ·subst h
   exact if_neg (Int.lt_irrefl _)
  ·rw[if_pos (Int.ofNat_lt.mpr (Nat.lt_add_of_pos_right (Nat.pos_of_ne_zero h))),Int.ediv_one,Int.add_sub_cancel,Int.natCast_add,Int.add_comm,Int.add_sub_cancel]
 show (List.range (if (a:Int) < ((a+n:Nat):Int) then (((a+n:Nat):Int) - a+1 - 1) / 1 else 0).toNat).map (fun k:Nat=>((a:Int)+1 * (k:Int)).toNat)=_
 rw[hc,List.range'_eq_map_range]
 exact List.map_congr_left fun k _=>by rw[Int.one_mul];rfl
theorem cI0{i n:Nat}(h:i≤n):max 0 (min (if (i:Int) < 0 then (i:Int)+n else i) (n:Int))=(i:Int):=by
 rw[if_neg (Int.not_lt.mpr (Int.natCast_nonneg i)),Int.min_eq_left (Int.ofNat_le.mpr h),Int.max_eq_right (Int.natCast_nonneg i)]
theorem qX(l:List Nat):∀(c a:Nat),(List.range' a c).filterMap (fun i=>l.toArray[i]?)=(l.drop a).take c
 |0,a=>by simp
 |c+1,a=>by
  rw[List.range'_succ,List.filterMap_cons,qX l c (a+1)]
  simp only[List.getElem?_toArray]
  by_cases h:a < l.length
  ·rw[List.getElem?_eq_getElem h]
   simp only
   rw[List.drop_eq_getElem_cons h,List.take_succ_cons]
  ·rw[List.getElem?_eq_none (Nat.not_lt.mp h),List.drop_of_length_le (Nat.not_lt.mp h),List.drop_of_length_le (Nat.le_succ_of_le (Nat.not_lt.mp h))]
   simp
theorem oO(l:List Nat)(lo hi:Option Int)(a n:Nat)(h:strSliceIndices lo hi 1 l.length=sliceRange (a:Int) ((a+n:Nat):Int) 1)(hn:a+n≤l.length):aJ (S l) lo hi none=S ((l.drop a).take n):=by
 rw[qZ]at h
 unfold aJ
 simp only[Option.getD_none,S_len,h,List.length_range']
 by_cases hc:n=l.length
 ·rw[if_pos (by rw[hc,beq_self_eq_true l.length];rfl)]
  obtain rfl:a=0:=Nat.le_zero.mp (Nat.le_of_add_le_add_right (b:=n) (by rw[Nat.zero_add];exact hc▸hn))
  rw[List.drop_zero,List.take_of_length_le (Nat.le_of_eq hc.symm)]
 ·rw[if_neg (by rw[beq_eq_false_iff_ne.mpr hc,Bool.and_false];exact Bool.false_ne_true)]
  show (⟨((List.range' a n).filterMap (fun i=>l.toArray[i]?)).toArray⟩:Str)=_
  rw[qX]
  rfl
theorem kG0(l:List Nat)(t:Nat)(h:t≤l.length):aJ (S l) none (some (t:Int)) none=S (l.take t):=
 oO l none _ 0 t (by show sliceRange 0 (max 0 (min (if (t:Int) < 0 then (t:Int)+l.length else t) (l.length:Int))) 1=_;rw[cI0 h,Nat.zero_add];rfl) (Nat.le_trans (Nat.le_of_eq (Nat.zero_add t)) h)
theorem lQ(l:List Nat)(t:Nat)(h:t≤l.length):aJ (S l) (some (t:Int)) none none=S (l.drop t):=by
 obtain⟨m,e⟩:=Nat.le.dest h
 refine (oO l _ none t m (by show sliceRange (max 0 (min (if (t:Int) < 0 then (t:Int)+l.length else t) (l.length:Int))) (l.length:Int) 1=_;rw[cI0 h,e]) (Nat.le_of_eq e)).trans ?_
 rw[List.take_of_length_le (by rw[List.length_drop,← e,Nat.add_sub_cancel_left];exact Nat.le_refl _)]
theorem sli_ab(l:List Nat)(a n:Nat)(h:a+n≤l.length):aJ (S l) (some (a:Int)) (some ((a+n:Nat):Int)) none=S ((l.drop a).take n):=
 oO l _ _ a n (by show sliceRange (max 0 (min (if (a:Int) < 0 then (a:Int)+l.length else a) (l.length:Int))) (max 0 (min (if ((a+n:Nat):Int) < 0 then ((a+n:Nat):Int)+l.length else ((a+n:Nat):Int)) (l.length:Int))) 1=_;rw[cI0 h,cI0 (Nat.le_trans (Nat.le_add_right ..) h)]) h
theorem pX(l:List Nat)(i:Nat):Txt.charAt (S l) (i:Int)=l[i]?:=by
 unfold Txt.charAt
 rw[S_len]
 by_cases h:i < l.length
 ·rw[oN h]
  simp[S]
 ·rw[jW0 (Nat.not_lt.mp h),List.getElem?_eq_none (Nat.not_lt.mp h)]
  rfl
theorem iE0(l:List Nat)(i:Nat):Txt.item (S l) (i:Int)=S [l.getD i 0]:=by
 unfold Txt.item
 rw[pX]
 simp[S]
noncomputable def rS(a:List Nat)(mid:List (List Nat))(b g:List Nat):Bool:=a.isPrefixOf g&&(wY b g&&(decide (a.length+b.length≤g.length)&&cI ((g.take (g.length - b.length)).drop a.length) mid))
theorem cutL_nil(r:List Nat):iX [] r=some r:=by cases r<;>simp[iX]
theorem tI(r:List Nat)(ys:List (List Nat)):cI r ([]::ys)=cI r ys:=by rw[cI,cutL_nil]
theorem sN:∀(ys:List (List Nat)) (r:List Nat),cI r (ys++[[]])=cI r ys
 |[],r=>by rw[List.nil_append,tI]
 |y::ys,r=>by
  rw[List.cons_append,cI,cI]
  cases iX y r with
  |none=>rfl
  |some r=>exact sN ys r
theorem ellP_S(a:List Nat)(mid:List (List Nat))(b g:List Nat):ellP (S a) (mid.map S) (S b) (S g)=rS a mid b g:=by
 unfold ellP rS
 rw[iG0,ends_S,S_len,S_len,S_len]
 have e1:((a.length==0) || a.isPrefixOf g)=a.isPrefixOf g:=by cases a<;>rfl
 have e2:((b.length==0) || wY b g)=wY b g:=by
  cases b with
  |nil=>exact (show true=((g.drop g.length)==[]) by rw[List.drop_length];rfl)
  |cons _ _=>rfl
 rw[e1,e2]
 by_cases h:a.length+b.length≤g.length
 ·obtain⟨n,hn⟩:=Nat.le.dest h
  have e0:(g.length:Int) - (b.length:Int)=((a.length+n:Nat):Int):=by rw[← hn,Nat.add_right_comm,Int.natCast_add,Int.add_sub_cancel]
  have e9:g.length - b.length=a.length+n:=by rw[← hn,Nat.add_right_comm,Nat.add_sub_cancel]
  have e4:((if (a.length==0)=true then [S a] else [])++mid.map S++(if (b.length==0)=true then [S b] else []))=((if (a.length==0)=true then [a] else [])++mid++(if (b.length==0)=true then [b] else [])).map S:=by
   rw[List.map_append,List.map_append]
   cases a<;>cases b<;>rfl
  have e5:∀r,cI r ((if (a.length==0)=true then [a] else [])++mid++(if (b.length==0)=true then [b] else []))=cI r mid:=fun r=>by
   have q:∀l:List (List Nat),cI r ((if (a.length==0)=true then [a] else [])++l)=cI r l:=fun l=>by
    cases a with
    |nil=>exact tI r l
    |cons _ _=>rfl
   rw[List.append_assoc,q]
   cases b with
   |nil=>exact sN mid r
   |cons _ _=>exact congrArg (cI r) (List.append_nil mid)
  rw[e0,e9,e4,decide_eq_true h,decide_eq_true (Int.ofNat_le.mpr (Nat.le_add_right ..)),dK0 g _ a.length n (e9▸Nat.sub_le ..),e5,List.drop_take,Nat.add_sub_cancel_left]
 ·rw[decide_eq_false h,decide_eq_false (fun q=>h (Int.ofNat_le.mp (Int.add_le_of_le_sub_right q))),Bool.false_and,Bool.false_and]
theorem ell_S(T:Int→Option Str)(a:List Nat)(mid:List (List Nat))(b g:List Nat)(hd:∀u∈a::(mid++[b]),46∉u)(hn:mid.length≤900)(hw:(glue (a::(mid++[b]))).length≤100000)(hg:g.length≤100000)
  (hp:∀w∈a::(mid++[b]),w.length≤100000):∃σ',cU (G0 T) 2000 dE [.str (S (glue (a::(mid++[b])))),.str (S g)] []=some (.bool (rS a mid b g),σ'):=by
 obtain⟨q,r,e⟩:∃q r,mid++[b]=q::r:=by cases mid<;>simp
 have hs:=split_S a q r (by rw[← e];exact hd)
 rw[← e]at hs
 rw[← ellP_S]
 exact ell_run T (S (glue (a::(mid++[b])))) (S g) (S a) (S b) (mid.map S) hs.2 (by rw[hs.1];simp) (by simpa using hn) (by rw[S_len];exact hw) (by rw[S_len];exact hg) (by
  intro w h
  have h':w∈(a::(mid++[b])).map S:=by simpa using h
  obtain⟨u,hu,rfl⟩:=List.mem_map.mp h'
  rw[S_len]
  exact hp u hu)
theorem gp{β:Type}{c:Prop} [Decidable c] {x:Option β}(h:c):grd c x=x:=if_pos h
structure EllOk (e:Str→Str→Option Bool):Prop where
 dots:∀(a:List Nat) (mid:List (List Nat)) (b g:List Nat),(∀u∈a::(mid++[b]),46∉u)→mid.length≤100→(glue (a::(mid++[b]))).length≤10000→g.length≤10000→e (S (glue (a::(mid++[b])))) (S g)=some (rS a mid b g)
 none:∀(w g:List Nat),46∉w→e (S w) (S g)=some (decide (w=g))
section
variable {e:Str→Str→Option Bool}(H:EllOk e)
include H
end
theorem bL{β:Type}(v:PV)(σ:Sto)(k:PV→Sto→Option β):aR (some (v,σ)) k=k v σ:=rfl
theorem isnb{β:Type}(σ:Sto)(a b:Bool)(k:Bool→Option β):eD .IsNot σ (.bool a) (.bool b) k=k (!decide (a=b)):=rfl
theorem uV(ts:List (List Nat)):((ts.map S).map (·.length)).sum=ts.flatten.length:=by
 induction ts with
 |nil=>rfl
 |cons t ts ih=>
  rw[List.map_cons,List.map_cons,List.sum_cons,ih,List.flatten_cons,List.length_append,S_len]
theorem qS(l:List Int):(iL l).length=l.length:=by simp -iota [iL]
theorem gY{β:Type}(σ:Sto)(a i:Nat)(xs:List PV)(k:PV→Option β)(hσ:bM σ a=some xs)(hi:i < xs.length)(hl:xs.length≤100000):bT (.lst a) (.int (i:Int)) σ k=k (xs[i]):=by
 have es:seqIndex? (i:Int) xs.length=some i:=oN hi
 have h1:(i:Int) < 2 ^ 63:=Int.lt_of_lt_of_le (Int.ofNat_lt.mpr (Nat.lt_of_lt_of_le hi hl)) (by decide)
 have h0:(-(2 ^ 63):Int)≤i:=Int.le_trans (by decide) (Int.natCast_nonneg i)
 show grd _ (opt (bM σ a) fun xs=>xV (i:Int) xs k)=_
 rw[hσ]
 refine (gp ⟨h0,h1⟩).trans ?_
 show opt (seqIndex? (i:Int) xs.length) _=_
 rw[es]
 show opt xs[i]? k=_
 rw[List.getElem?_eq_getElem hi]
 rfl
theorem strOk_S(l:List Nat)(h:∀c∈l,c < 1114112):PyData.strOk (S l)=true:=by
 unfold PyData.strOk S
 simp
 exact h
theorem oT{β:Type}(x y:Option β):onB true x y=x:=rfl
theorem qA{β:Type}(x y:Option β):onB false x y=y:=rfl
noncomputable abbrev dS:DefP:=xR p3 "_law_spelled"
noncomputable def frTup:List PV:=[.int 0,.int 1,.int 2,.int 4,.int 7,.int 8,.int 9,.int 10,.int 11,.int 12]
noncomputable def unTup:List PV:=[.int 173,.int 847,.int 6150,.int 6155,.int 6156,.int 6157,.int 8203,.int 8204,.int 8205,.int 8288,.int 65279]
theorem dZ0:dS.body=[stAt dS 0,stAt dS 1,stAt dS 2]:=by kernel_rfl!
theorem sO:dS.params=(["letter","n"]:List Str):=by kernel_rfl!
section
variable {β:Type}(T:Int→Option Str)(E P:Fn)(n:Nat)(l:Str)(m:Int)
noncomputable def sL(l:Str)(m:Int):Cx:=⟨dS.names,[("letter",.str l),("n",.int m)]⟩
theorem sp_0(k:Fl→Cx→Sto→Option β):exK (G1 T E P) (n+20) (sL l m) [] (stAt dS 0) k=onB (decide (l="")) (k (.ret (.str l)) (sL l m) []) (onB (decide (Int.fmod m 12=0)) (k (.ret (.str l)) (sL l m) []) (k .nxt (sL l m) [])):=by kernel_rfl!
theorem sp_1(k:Fl→Cx→Sto→Option β):exK (G1 T E P) (n+20) (sL l m) [] (stAt dS 1) k=onB (decide (Int.fmod m 12=1)) (grd ((Txt.upper l).length≤100000) (k (.ret (.str (Txt.upper l))) (sL l m) [])) (k .nxt (sL l m) []):=by kernel_rfl!
noncomputable def sp2(G:Gl)(l:Str)(r:Int)(k:PV→Sto→Option β):Option β:=bT (.tup frTup) (.int (r - 2)) [] fun x=>aV .Mult (.int 52) x [] fun r σ=>aV .Add (.int 119808) r σ fun r σ=>cQ G "ord" [.str l] σ fun c σ=>aV .Add r c σ fun r σ=>aV .Sub r (.int 97) σ fun r σ=>cQ G "chr" [r] σ k
theorem sp_2(k:Fl→Cx→Sto→Option β):exK (G1 T E P) (n+20) (sL l m) [] (stAt dS 2) k=sp2 (G1 T E P) l (Int.fmod m 12) fun v σ=>k (.ret v) (sL l m) σ:=by kernel_rfl!
end
noncomputable def frL(c:Nat):List Nat:=[c,c - 32,119808+c - 97,119808+52+c - 97,119808+104+c - 97,119808+208+c - 97,119808+364+c - 97,119808+416+c - 97,119808+468+c - 97,119808+520+c - 97,119808+572+c - 97,119808+624+c - 97]
noncomputable def frC(c m:Nat):Nat:=(frL c).getD (m % 12) 0
noncomputable def fil(c:Nat):Prop:=c=102∨c=105∨c=108
noncomputable def spR(G:Gl)(c:Nat)(r:Int):Option (PV×Sto):=onB (decide (r=0)) (some (.str ⟨#[c]⟩,[])) (onB (decide (r=1)) (grd ((Txt.upper ⟨#[c]⟩).length≤100000) (some (.str (Txt.upper ⟨#[c]⟩),[]))) (sp2 G ⟨#[c]⟩ r fun v σ=>some (v,σ)))
theorem sp_y(T:Int→Option Str)(E P:Fn)(c:Nat)(hc:fil c):∀y∈List.range 12,spR (G1 T E P) c (y:Int)=some (.str ⟨#[(frL c).getD y 0]⟩,[]):=by
 rcases hc with rfl | rfl | rfl
 ·exact List.map_inj_left.mp (by kernel_rfl!)
 ·exact List.map_inj_left.mp (by kernel_rfl!)
 ·exact List.map_inj_left.mp (by kernel_rfl!)
theorem wV(T:Int→Option Str)(E P:Fn)(c:Nat)(hc:fil c)(m:Nat):cU (G1 T E P) 100 dS [.str ⟨#[c]⟩,.int (m:Int)] []=some (.str ⟨#[frC c m]⟩,[]):=by
 have h:=sp_y T E P c hc (m % 12) (List.mem_range.mpr (Nat.mod_lt _ (by decide)))
 rw[← show Int.fmod (m:Int) 12=((m % 12:Nat):Int) from cY m 12]at h
 refine Eq.trans ?_ h
 rw[dV (le:=[("letter",.str ⟨#[c]⟩),("n",.int m)]) sO rfl rfl,dZ0]
 have hne:decide ((⟨#[c]⟩:Str)="")=false:=by rcases hc with rfl | rfl | rfl<;>decide+kernel
 refine (bG ..).trans ((sp_0 T E P 79 _ _ _).trans ?_)
 rw[hne]
 unfold spR
 refine (qA _ _).trans ?_
 cases decide (Int.fmod (m:Int) 12=0)with
 |true=>exact (oT _ _).trans (oT _ _).symm
 |false=>
  refine (qA _ _).trans (Eq.trans ?_ (qA _ _).symm)
  refine (bG ..).trans ((sp_1 T E P 78 _ _ _).trans ?_)
  cases decide (Int.fmod (m:Int) 12=1)with
  |true=>exact (oT _ _).trans (oT _ _).symm
  |false=>exact (qA _ _).trans (((bG ..).trans (sp_2 T E P 77 _ _ _)).trans (qA _ _).symm)
theorem tS(T:Int→Option Str)(E P:Fn)(m:Int):cU (G1 T E P) 100 dS [.str "",.int m] []=some (.str "",[]):=by
 rw[dV (le:=[("letter",.str ""),("n",.int m)]) sO rfl rfl,dZ0]
 exact (bG ..).trans (sp_0 T E P 79 _ _ _)
noncomputable abbrev dU:DefP:=xR p3 "_law_unseen"
theorem dU_body:dU.body=[stAt dU 0,stAt dU 1]:=by kernel_rfl!
theorem fP0:dU.params=(["n"]:List Str):=by kernel_rfl!
noncomputable def unR(G:Gl)(_ y:Int):Option (PV×Sto):=onB (decide (y > 10)) (grd (0≤65013+y∧65013+y≤1114111) (some (.str ⟨#[(65013+y).toNat]⟩,[]))) (bT (.tup unTup) (.int y) [] fun x=>cQ G "chr" [x] [] fun r σ=>some (r,σ))
theorem un_0{β:Type}(T:Int→Option Str)(E P:Fn)(n:Nat)(m:Int)(k:Fl→Cx→Sto→Option β):exK (G1 T E P) (n+20) ⟨dU.names,[("n",.int m)]⟩ [] (stAt dU 0) k=onB (decide (Int.fmod m 27 > 10))
 (grd (0≤65013+Int.fmod m 27∧65013+Int.fmod m 27≤1114111) (k (.ret (.str ⟨#[(65013+Int.fmod m 27).toNat]⟩)) ⟨dU.names,[("n",.int m)]⟩ []))
 (k .nxt ⟨dU.names,[("n",.int m)]⟩ []):=by kernel_rfl!
theorem un_1{β:Type}(T:Int→Option Str)(E P:Fn)(n:Nat)(m:Int)(k:Fl→Cx→Sto→Option β):exK (G1 T E P) (n+20) ⟨dU.names,[("n",.int m)]⟩ [] (stAt dU 1) k=bT (.tup unTup) (.int (Int.fmod m 27)) [] fun x=>cQ (G1 T E P) "chr" [x] [] fun r σ=>k (.ret r) ⟨dU.names,[("n",.int m)]⟩ σ:=by kernel_rfl!
noncomputable def unL:List Nat:=[173,847,6150,6155,6156,6157,8203,8204,8205,8288,65279,65024,65025,65026,65027,65028,65029,65030,65031,65032,65033,65034,65035,65036,65037,65038,65039]
noncomputable def unC(m:Nat):Nat:=unL.getD (m % 27) 0
theorem un_y(T:Int→Option Str)(E P:Fn)(m:Int):∀y∈List.range 27,unR (G1 T E P) m (y:Int)=some (.str ⟨#[unL.getD y 0]⟩,[]):=List.map_inj_left.mp (by kernel_rfl!)
theorem aE0(T:Int→Option Str)(E P:Fn)(m:Nat):cU (G1 T E P) 100 dU [.int (m:Int)] []=some (.str ⟨#[unC m]⟩,[]):=by
 have h:=un_y T E P m (m % 27) (List.mem_range.mpr (Nat.mod_lt _ (by decide)))
 rw[← show Int.fmod (m:Int) 27=((m % 27:Nat):Int) from cY m 27]at h
 refine Eq.trans ?_ h
 rw[dV (le:=[("n",.int m)]) fP0 rfl rfl,dU_body]
 refine (bG ..).trans ((un_0 T E P 79 _ _).trans ?_)
 unfold unR
 cases decide (Int.fmod (m:Int) 27 > 10)with
 |true=>exact (oT _ _).trans (oT _ _).symm
 |false=>exact (qA _ _).trans (((bG ..).trans (un_1 T E P 78 _ _)).trans (qA _ _).symm)
section
variable {B:Bs}{k:Nat}{G:Gl}{n:Nat}
section
variable (ok:BsOk B){mg mb:Str→Option Value}(gok:GlOk B k G mg mb){cx cx':Cx}{σ σ':Sto}
include ok gok
theorem bI{st:Stmt}{fl:Fl}(h:exK G n cx σ st (fun f c s=>some (f,c,s))=some (fl,cx',σ')):S1 B k cx σ (exec st) fl cx' σ':=
 (kI (β:=Fl×Cx×Sto) ok gok n).ex h fun f c s e H=>by
  obtain⟨rfl,e2⟩:=Prod.mk.inj (Option.some.inj e)
  obtain⟨rfl,rfl⟩:=Prod.mk.inj e2
  exact H
theorem qE{sts:List Stmt}{fl:Fl}(h:cC G n cx σ sts (fun f c s=>some (f,c,s))=some (fl,cx',σ')):S1 B k cx σ (execs sts) fl cx' σ':=
 (kI (β:=Fl×Cx×Sto) ok gok n).exs h fun f c s e H=>by
  obtain⟨rfl,e2⟩:=Prod.mk.inj (Option.some.inj e)
  obtain⟨rfl,rfl⟩:=Prod.mk.inj e2
  exact H
theorem jT0{e:Expr}{v:PV}(h:evK G n cx σ e (fun v s=>some (v,s))=some (v,σ')):E1 B k cx σ e v σ':=
 (eQ (β:=PV×Sto) ok gok n).ev h fun u s e H=>by
  obtain⟨rfl,rfl⟩:=Prod.mk.inj (Option.some.inj e)
  exact H
theorem kH{e:Expr}{b:Bool}(h:dH G n cx σ e (fun v s=>some (v,s))=some (b,σ')):Tr B k cx σ e b σ':=
 (eQ (β:=Bool×Sto) ok gok n).isT h fun u s e H=>by
  obtain⟨rfl,rfl⟩:=Prod.mk.inj (Option.some.inj e)
  exact H
theorem wD{e:Expr}{items:List PV}{w:Option (Nat×Nat)}(h:bP G n cx σ e (fun l w s=>some (l,w,s))=some (items,w,σ')):It1 B k cx σ e items w σ':=
 (eQ (β:=List PV×Option (Nat×Nat)×Sto) ok gok n).it h fun l w s e H=>by
  obtain⟨rfl,e2⟩:=Prod.mk.inj (Option.some.inj e)
  obtain⟨rfl,rfl⟩:=Prod.mk.inj e2
  exact H
end
theorem kS0{l l':LE}(h:l'.map (fun p=>l.lookup p.1)=l'.map fun p=>some p.2):∀y v,l'.lookup y=some v→l.lookup y=some v:=fun y v hv=>List.map_inj_left.mp h (y,v) (mem_of_lookup hv)
section
variable {cx cx' cx'':Cx}{σ σ':Sto}{t:Env→Sem Flow}{fl:Fl}
theorem Fr.weak{X:List Addr}{env:Env}{ρ:List Addr}{h:Heap}(f:Fr B X cx env ρ h)(hn:cx'.names=cx.names)(hl:∀y v,cx'.le.lookup y=some v→cx.le.lookup y=some v):Fr B X cx' env ρ h where
 kind:=f.kind
 glob:=f.glob
 bt:=f.bt
 loc:=by rw[hn];exact f.loc.imp fun m q=>q.imp_right fun q x hx=>(q x hx).imp_right fun q v hv=>q v (hl x v hv)
 cel:=by rw[hn];exact fun x hx=>(f.cel x hx).imp_right fun q=>q.imp fun c q=>q.imp fun w q=>q.imp_right fun q=>q.imp_right fun q=>q.imp_right fun q v hv=>q v (hl x v hv)
 fre:=by rw[hn];exact fun x hx v hv=>f.fre x hx v (hl x v hv)
 glb:=by rw[hn];exact f.glb
 dom:=by rw[hn];exact fun x v hv=>f.dom x v (hl x v hv)
 own:=f.own
 ofX:=f.ofX
 ofc:=f.ofc
 apart:=f.apart
theorem S1.post(H:S1 B k cx σ t fl cx' σ')(hn:cx''.names=cx'.names)(hl:cx''.le.map (fun p=>cx'.le.lookup p.1)=cx''.le.map fun p=>some p.2):S1 B k cx σ t fl cx'' σ':=
 fun R x f q=>H R x f fun g s' ρ' p=>q g s' ρ' ⟨p.st,p.evo,p.fr.weak hn (kS0 hl),p.fl⟩
theorem S1.pre(H:S1 B k cx'' σ t fl cx' σ')(hn:cx''.names=cx.names)(hl:cx''.le.map (fun p=>cx.le.lookup p.1)=cx''.le.map fun p=>some p.2):S1 B k cx σ t fl cx' σ':=
 fun R x f q=>H R x (f.weak hn (kS0 hl)) q
end
mutual
noncomputable def lo(m:Nat):PV→Bool
 |.lst i=>Nat.blt i m
 |.tup xs=>los m xs
 |.none=>true
 |.bool _=>true
 |.int _=>true
 |.str _=>true
noncomputable def los(m:Nat):List PV→Bool
 |[]=>true
 |x::xs=>lo m x&&los m xs
end
noncomputable def loD(m:Nat):CD→Bool
 |.lst xs=>los m xs
 |.acc di xs=>Nat.blt di m&&los m xs
 |.dct kvs=>los m (kvs.map (·.2))
 |.ins kvs=>los m (kvs.map (·.2))
 |.hid=>true
noncomputable def loF(m:Nat):Fl→Bool
 |.ret v=>lo m v
 |_=>true
theorem dI0{m:Nat}:∀{xs:List PV} {x:PV},los m xs=true→x∈xs→lo m x=true
 |y::ys,x,h,hx=>by
  have h':(lo m y&&los m ys)=true:=h
  rw[Bool.and_eq_true]at h'
  rcases List.mem_cons.mp hx with e | hx
  ·exact e▸h'.1
  ·exact dI0 h'.2 hx
section
variable {ρ r:List Addr}{h:Heap}
mutual
theorem VR.drop:∀(x:PV) {v:Value},lo ρ.length x=true→VR B (ρ++r) h x v→VR B ρ h x v
 |.none,_,_,q=>q
 |.bool _,_,_,q=>q
 |.int _,_,_,q=>q
 |.str _,_,_,q=>q
 |.tup xs,v,hl,q=>by
  obtain⟨a,vs,e,h1,h2,h3,h4⟩:=q
  exact⟨a,vs,e,fun hm=>h1 (List.mem_append_left _ hm),h2,h3,VRs.drop xs hl h4⟩
 |.lst i,v,hl,q=>by
  obtain⟨a,e,ha⟩:=q
  exact⟨a,e,by rw[List.getElem?_append_left (Nat.le_of_ble_eq_true hl)]at ha;exact ha⟩
theorem VRs.drop:∀(xs:List PV) {vs:List Value},los ρ.length xs=true→VRs B (ρ++r) h xs vs→VRs B ρ h xs vs
 |[],_,_,q=>q
 |x::xs,vs,hl,q=>by
  obtain⟨v,t,e,h1,h2⟩:=q
  have h':(lo ρ.length x&&los ρ.length xs)=true:=hl
  rw[Bool.and_eq_true]at h'
  exact⟨v,t,e,VR.drop x h'.1 h1,VRs.drop xs h'.2 h2⟩
end
theorem CR.drop{a:Addr}(d:CD)(hl:loD ρ.length d=true)(q:CR B (ρ++r) h a d):CR B ρ h a d:=by
 cases d with
 |lst xs=>exact q.imp fun _ q=>q.imp_right (VRs.drop _ hl)
 |acc di xs=>
  obtain⟨vs,n,D,h1,h2,h3⟩:=q
  have h':(Nat.blt di ρ.length&&los ρ.length xs)=true:=hl
  rw[Bool.and_eq_true]at h'
  exact⟨vs,n,D,h1,VRs.drop _ h'.2 h2,by rw[List.getElem?_append_left (Nat.le_of_ble_eq_true h'.1)]at h3;exact h3⟩
 |dct kvs=>exact q.imp fun _ q=>q.imp_right fun q=>q.imp_right (VRs.drop _ hl)
 |ins kvs=>
  refine q.imp fun m q=>q.imp_right fun q x=>?_
  have:=q x
  cases hx:kvs.lookup x with
  |none=>rw[hx]at this;exact this
  |some pv=>rw[hx]at this;exact this.imp fun w p=>p.imp_right (VR.drop pv (dI0 hl (List.mem_map.mpr ⟨_,mem_of_lookup hx,rfl⟩)))
 |hid=>exact q
theorem Fr.drop{X:List Addr}{cx:Cx}{env:Env}(f:Fr B X cx env (ρ++r) h)(hl:(cx.le.all fun p=>lo ρ.length p.2)=true):Fr B X cx env ρ h:=by
 have vr:∀{x v w},cx.le.lookup x=some v→VR B (ρ++r) h v w→VR B ρ h v w:=fun hx q=>VR.drop _ (List.all_eq_true.mp hl _ (mem_of_lookup hx)) q
 exact { kind:=f.kind,glob:=f.glob,bt:=f.bt,glb:=f.glb,dom:=f.dom,own:=f.own,apart:=f.apart,loc:=f.loc.imp fun m q=>q.imp_right fun q x hx=>(q x hx).imp_right fun q v hv=>(q v hv).imp fun _ q=>q.imp_right (vr hv),cel:=fun x hx=>(f.cel x hx).imp_right fun q=>q.imp fun c q=>q.imp fun w q=>q.imp_right fun q=>q.imp_right fun q=>q.imp_right fun q v hv=>(q v hv).imp fun _ q=>q.imp_right (vr hv),fre:=fun x hx v hv=>(f.fre x hx v hv).imp_right fun q=>q.imp fun _ q=>q.imp fun _ q=>q.imp_right fun q=>q.imp_right (vr hv),ofX:=fun a ha=>(f.ofX a ha).imp_left fun q hm=>q (List.mem_append_left _ hm),ofc:=fun x c hc=>(f.ofc x c hc).imp_left fun q hm=>q (List.mem_append_left _ hm) }
end
theorem S1.drop{cx cx':Cx}{σ σ' g:Sto}{t:Env→Sem Flow}{fl:Fl}(H:S1 B k cx σ t fl cx' (σ'++g))(hle:σ.length≤σ'.length)
  (hc:∀(i:Nat) (c:Cell),σ'[i]?=some c→σ[i]?=some c∨loD σ'.length c.d=true) (hx:(cx'.le.all fun p=>lo σ'.length p.2)=true) (hf:loF σ'.length fl=true):S1 B k cx σ t fl cx' σ':=fun {A X env ρ s Q E} R x f q=>by
 refine H R x f fun g' s' ρ' p=>?_
 have hlen:=p.st.len
 rw[List.length_append]at hlen
 have hm:σ'.length≤ρ'.length:=hlen▸Nat.le_add_right ..
 have hsp:ρ'.take σ'.length++ρ'.drop σ'.length=ρ':=List.take_append_drop ..
 have hl1:(ρ'.take σ'.length).length=σ'.length:=List.length_take_of_le hm
 obtain⟨r,hr,hrd⟩:=p.evo.pre
 have hρ:ρ.length≤σ'.length:=x.len▸hle
 have hpre:ρ'.take σ'.length=ρ++r.take (σ'.length - ρ.length):=by rw[hr,List.take_append,List.take_of_length_le hρ]
 have at1:∀{i a},(ρ'.take σ'.length)[i]?=some a→i < σ'.length∧ρ'[i]?=some a:=fun {i a} ha=>by
  have hi:i < σ'.length:=hl1▸(List.getElem?_eq_some_iff.mp ha).1
  exact⟨hi,by rw[List.getElem?_take_of_lt hi]at ha;exact ha⟩
 have vk:Vk B ρ s.heap (ρ'.take σ'.length) s'.heap:=⟨fun i a ha=>by rw[hpre,List.getElem?_append_left (List.getElem?_eq_some_iff.mp ha).1];exact ha,fun a o vs n ho hcl hd h1 h2=>(p.evo.vk.tup a o vs n ho hcl hd h1 h2).imp_right fun z hm=>z (List.mem_of_mem_take hm)⟩
 refine q g' s' (ρ'.take σ'.length) ⟨⟨p.st.os,p.st.gens,p.st.base,hl1,?_,fun a ha=>p.st.fresh a (List.mem_of_mem_take ha),fun a ha=>p.st.off a (List.mem_of_mem_take ha),fun i c a hi ha=>?_,p.st.inv⟩,⟨p.evo.kp,⟨_,hpre,fun a ha=>hrd a (List.mem_of_mem_take ha)⟩,fun i c hi=>?_⟩,Fr.drop (r:=ρ'.drop σ'.length) (hsp.symm▸p.fr) (by rw[hl1];exact hx),?_⟩
 ·exact p.st.nodup.sublist (List.take_sublist ..)
 ·obtain⟨hlt,ha'⟩:=at1 ha
  have hi':(σ'++g)[i]?=some c:=by rw[List.getElem?_append_left hlt];exact hi
  rcases hc i c hi with h0 | h0
  ·have hlt0:i < ρ.length:=x.len▸(List.getElem?_eq_some_iff.mp h0).1
   have ha0:ρ[i]?=some a:=by rw[hr,List.getElem?_append_left hlt0]at ha';exact ha'
   obtain⟨c',h1,_,h3⟩:=p.evo.ver i c h0
   obtain rfl:c'=c:=Option.some.inj (h1.symm.trans hi')
   exact CR.vk vk c'.d (fun o ho=>(h3 rfl).2 a ha0 o ho) (x.cells i c' a h0 ha0)
  ·exact CR.drop (r:=ρ'.drop σ'.length) _ (by rw[hl1];exact h0) (by rw[hsp];exact p.st.cells i c a hi' ha')
 ·obtain⟨c',h1,h2,h3⟩:=p.evo.ver i c hi
  rw[List.getElem?_append_left (Nat.lt_of_lt_of_le (List.getElem?_eq_some_iff.mp hi).1 hle)]at h1
  exact⟨c',h1,h2,h3⟩
 ·have hfl:=p.fl
  cases fl with
  |ret v=>exact hfl.imp fun w z=>z.imp_right fun z=>VR.drop (r:=ρ'.drop σ'.length) v (by rw[hl1];exact hf) (hsp.symm▸z)
  |_=>exact hfl
theorem gI0{n:Str}{kvs:List (Str×PV)}{us:List (Str×Value)}(he:us.map (·.1)=kvs.map (·.1))(hn:kvs.lookup n=none)(w:Value):stored us n w=us++[(n,w)]:=by
 refine if_neg fun h=>?_
 obtain⟨p,hp,e⟩:=List.any_eq_true.mp h
 have hm:n∈kvs.map (·.1):=he▸List.mem_map.mpr ⟨p,hp,of_decide_eq_true e⟩
 obtain⟨q,hq,e2⟩:=List.mem_map.mp hm
 rw[List.lookup_eq_none_iff]at hn
 have:=hn q hq
 rw[e2,bne_self_eq_false]at this
 exact Bool.false_ne_true this
theorem VRs.snoc{ρ:List Addr}{h:Heap}{xs:List PV}{vs:List Value}{x:PV}{v:Value}(r:VRs B ρ h xs vs)(q:VR B ρ h x v):VRs B ρ h (xs++[x]) (vs++[v]):=VRs.append r ⟨v,[],rfl,q,rfl⟩
theorem vS(ok:BsOk B){cx:Cx}{σ σ₁ σ₂ σ₃:Sto}{o i value:Expr}{p pos:Pos}{v:PV}{c:Nat}{n:Str}{cell:Cell}{kvs:List (Str×PV)}(H1:E1 B k cx σ value v σ₁)(H2:E1 B k cx σ₁ o (.lst c) σ₂)(H3:E1 B k cx σ₂ i (.str n) σ₃)
  (hc:σ₃[c]?=some cell) (hd:cell.d=.dct kvs) (hn:kvs.lookup n=none) (hlen:kvs.length≤1000) (hs:∀env,swapsWith value (some (.Subscript o i p)) pos.line env=pure false):
  S1 B k cx σ (exec (.Assign [.Subscript o i p] value pos)) .nxt cx (aC σ₃ c (.dct (kvs++[(n,v)]))):=fun {A X env ρ s Q E} R x f q=>
 wpAny_Assign_Subscript (H1.use R x f fun va ρ₁ s₁ x₁ e₁ f₁ r₁=>H2.use R x₁ f₁ fun vo ρ₂ s₂ x₂ e₂ f₂ r₂=>H3.use R x₂ f₂ fun vi ρ₃ s₃ x₃ e₃ f₃ r₃=>by
  obtain⟨l,rfl,hl⟩:=VR.evo e₃ _ r₂
  obtain⟨u,rfl⟩:=r₃
  have hr:=VR.evo (e₂.trans e₃) _ r₁
  have hcell:=x₃.cells c cell l hc hl
  rw[hd]at hcell
  obtain⟨us,hm,he,hv⟩:=hcell
  have hul:us.length=kvs.length:=by rw[← List.length_map (f:=(·.1)) (as:=us),he,List.length_map]
  refine wpAny_setItem_pairs (strKind_is _ _ n u) hm (fun h' hm' hs'=>?_) (Nat.le_trans (hul▸hlen) (by decide))
  rw[gI0 he hn]at hm'
  obtain⟨od,es,ep,ho,h1,h2,h3⟩:=id hm'
  obtain⟨x₄,e₄⟩:=x₃.set ok (s':={ s₃ with heap:=h',toks:=s₃.toks+1 }) (d:=.dct (kvs++[(n,v)])) rfl rfl hl (fun b o hb ho=>hs'.extBut b o hb ho)
   (fun σ' e=>⟨_,hm',by rw[List.map_append,List.map_append,he];rfl,by rw[List.map_append,List.map_append];exact (VRs.evo e _ hv).snoc (VR.evo e _ hr)⟩) ⟨_,ho,fun vs z=>by rw[h2]at z;cases z⟩
  have ev:=(e₁.trans e₂).trans (e₃.trans e₄)
  exact q _ _ _ ⟨x₄,ev.weak,f.evo ev,rfl⟩) (hs env)
end
section
variable {prog:Program}{w:World}{A:Around}{E:Value→Shared→Prop}{s:Shared}
noncomputable abbrev zH1(h:Heap)(x:Str)(t:Tok):Heap:=h.push { cls:=.type "str_ascii_iterator",data:=.fields #[.str x t,.int 0 0] }
noncomputable abbrev zH2(h:Heap)(x:Str)(t:Tok)(l:Addr):Heap:=(zH1 h x t).push { cls:=.type "list_iterator",data:=.fields #[.ref l,.int 0 0] }
noncomputable abbrev zH3(h:Heap)(x:Str)(t:Tok)(l:Addr):Heap:=(zH2 h x t l).push { cls:=.type "tuple",data:=.seq #[.ref h.objs.size,.ref (zH1 h x t).objs.size] }
noncomputable abbrev zH4(h:Heap)(x:Str)(t:Tok)(l:Addr):Heap:=(zH3 h x t l).push { cls:=.type "tuple",data:=.seq #[.none,.none] }
noncomputable abbrev zH5(h:Heap)(x:Str)(t:Tok)(l:Addr):Heap:=(zH4 h x t l).push { cls:=.type "zip",data:=.fields #[.none,.bool false,.bool false,.ref (zH2 h x t l).objs.size,.ref (zH3 h x t l).objs.size] }
set_option maxHeartbeats 1000000 in
theorem fZ0(x:Str)(t:Tok)(l:Addr)(ys:Array Value)(ha:x.cps.all (· < 128)=true):
  Meets (Builtin.«zip.__new__» ⟨[.type "zip",.str x t,.ref l],[]⟩) (fun _ R s=>s.heap.IsList l ys∧R (.ok (.ret (.ref (zH4 s.heap x t l).objs.size))) { s with heap:=zH5 s.heap x t l }):=
 .of_wp fun prog w A R s h=>by
  obtain⟨hp,g,d,tk,os⟩:=s;obtain⟨hl2,h⟩:=h
  have hsub:=sub_zip
  have hL2:Heap.IsList (Shared.heap ⟨hp.push { cls:=.type "str_ascii_iterator",data:=.fields #[.str x t,.int 0 0] },g,d,tk,os⟩) l ys:=Heap.IsList.push hl2 _
  wp_walk using wpAny_pyIter_ascii ha,wpAny_pyIter_list hL2
  exact⟨_,rfl,h⟩
structure ZAt (h:Heap) (n l:Addr) (x:Str) (t:Tok) (j:Nat):Prop where
 z:IsZip h (n+4) (n+2) (n+3) .none
 ti:PySem.IsPair h (n+2) (.ref n) (.ref (n+1))
 i1:h.IsStrIter n "str_ascii_iterator" x t j
 i2:h.IsListIter (n+1) l j
theorem jX0{x:Str}{t:Tok}{l:Addr}{ys:Array Value}{Q:Value→Shared→Prop}(ha:x.cps.all (· < 128)=true)(hl:s.heap.IsList l ys)
  (h:∀h',ZAt h' s.heap.objs.size l x t 0→PySem.IsPair h' (s.heap.objs.size+3) .none .none→(∀c o,s.heap.get? c=some o→h'.get? c=some o)→Q (.ref (s.heap.objs.size+4)) { s with heap:=h' }):
  wpAny (model prog w) A (call (.type "zip") [.str x t,.ref l]) Q E s:=by
 refine callType_new F.called_zip (by decide) (F.typeCall_zip_2 _ _) (F.newCall_zip_2 _ _) (fun obj=>F.args_object_init_3 obj _ _) F.entry_zip_new (fZ0 x t l ys ha) ⟨hl,?_⟩
 have z1:(zH1 s.heap x t).objs.size=s.heap.objs.size+1:=Heap.size_push ..
 have z2:(zH2 s.heap x t l).objs.size=s.heap.objs.size+2:=by rw[Heap.size_push,z1]
 have z3:(zH3 s.heap x t l).objs.size=s.heap.objs.size+3:=by rw[Heap.size_push,z2]
 have z4:(zH4 s.heap x t l).objs.size=s.heap.objs.size+4:=by rw[Heap.size_push,z3]
 have up:∀{h:Heap} {a:Addr} {o o':Obj},h.get? a=some o→(h.push o').get? a=some o:=fun h=>Heap.get?_push_of_some _ h
 have g5:(zH5 s.heap x t l).get? (zH4 s.heap x t l).objs.size=some _:=Heap.get?_push_size _ rfl
 have g4:(zH5 s.heap x t l).get? (zH3 s.heap x t l).objs.size=some _:=up (Heap.get?_push_size _ rfl)
 have g3:(zH5 s.heap x t l).get? (zH2 s.heap x t l).objs.size=some _:=up (up (Heap.get?_push_size _ rfl))
 have g2:(zH5 s.heap x t l).get? (zH1 s.heap x t).objs.size=some _:=up (up (up (Heap.get?_push_size _ rfl)))
 have g1:(zH5 s.heap x t l).get? s.heap.objs.size=some _:=up (up (up (up (Heap.get?_push_size _ rfl))))
 show _∧_
 rw[z2,z3,z4]at g5
 rw[z1,z2]at g3
 rw[z3]at g4
 rw[z1]at g2
 rw[z4]
 exact⟨⟨_,g5,rfl⟩,h _ ⟨g5,g3,⟨_,g1,rfl,rfl⟩,⟨_,g2,rfl,rfl⟩⟩ g4 fun c o x=>up (up (up (up (up x))))⟩
theorem nadd{n a b:Nat}(h:a≠b):n+a≠n+b:=fun e=>h (Nat.add_left_cancel e)
theorem zip_next{n l:Addr}{x:Str}{t:Tok}{j c:Nat}{ys:Array Value}{y a b:Value}{Q:Option Value→Shared→Prop}(Z:ZAt s.heap n l x t j)(hTO:PySem.IsPair s.heap (n+3) a b)(hl:s.heap.IsList l ys)(hln:l < n)(hx:x.cps[j]?=some c)(hy:ys[j]?=some y)
  (hQ:∀h' T,(∀elts (k:Nat) pos (Q:Unit→Shared→Prop) (E:Value→Shared→Prop),(∀h'',ZAt h'' n l x t (j+1)→PySem.IsPair h'' (n+3) (.str ⟨#[c]⟩ s.toks) y→h''.get? T=some { cls:=.type "tuple",data:=.seq #[.str ⟨#[c]⟩ s.toks,y] }→s.heap.get? T=none→n+4 < T→
   (∀c o,c≠n→c≠n+1→c≠n+3→c≠n+4→s.heap.get? c=some o→h''.get? c=some o)→Q () { s with heap:=h'',toks:=s.toks+1 })→wpAny (model prog w) A (letOwnedTupleGo (.Tuple elts k pos) (.ref (n+4)) (.ref T)) Q E { s with heap:=h',toks:=s.toks+1 })→
   Q (some (.ref T)) { s with heap:=h',toks:=s.toks+1 }):wpAny (model prog w) A (pyNext (.ref (n+4))) Q E s:=by
 obtain⟨hp,g,d,tk,os⟩:=s
 obtain⟨hz,hTI,h1,h2⟩:=Z
 have hT:(⟨hp,g,d,tk,os⟩:Shared).TypeIs (.ref (n+4)) "zip":=⟨_,hz,rfl⟩
 have d14:n≠n+4:=nadd (a:=0) (b:=4) (by decide)
 have d24:n+1≠n+4:=nadd (by decide)
 have d34:n+3≠n+4:=nadd (by decide)
 have dT4:n+2≠n+4:=nadd (by decide)
 have d13:n≠n+3:=nadd (a:=0) (b:=3) (by decide)
 have d23:n+1≠n+3:=nadd (by decide)
 have d12:n≠n+1:=nadd (a:=0) (b:=1) (by decide)
 have dl:∀k,l≠n+k:=fun k=>Nat.ne_of_lt (Nat.lt_of_lt_of_le hln (Nat.le_add_right ..))
 unfold pyNext
 refine wpAny_bind (wpAny_attempt (wpAny_callSpecial?_slot (name:=Str.ofString "__next__") hT F.slot_zip_next (wpAny_call_entry F.slot_zip_next hT F.entry_zip_next ?_ (F.args_zip_next_1 _))))
 show wpAny _ _ (field (.ref (n+4)) 2 >>= _) _ _ _
 refine wpAny_bind (wpAny_field hz rfl (x:=.bool false) rfl ?_)
 show wpAny _ _ (field (.ref (n+4)) 3 >>= _) _ _ _
 refine wpAny_bind (wpAny_field hz rfl (x:=.ref (n+2)) rfl (wpAny_bind (wpAny_seqItems hTI rfl ?_)))
 show wpAny _ _ (Builtin.SmallTypes.ownedTupleIsFree (.ref (n+4)) >>= _) _ _ _
 refine wpAny_bind ?_
 unfold Builtin.SmallTypes.ownedTupleIsFree
 refine wpAny_bind (wpAny_field hz rfl (x:=.none) rfl (wpAny_pure ?_))
 simp -iota only[if_true]
 refine wpAny_bind (wpAny_rule (wpAny_bind (wpAny_field hz rfl (x:=.ref (n+3)) rfl ?_)))
 refine wpAny_bind (wpAny_setField_rec hz (by simp -iota) fun h₁ hz₁ hs₁=>?_)
 replace hs₁:Heap.SameBut (n+4) hp h₁:=hs₁
 replace hz₁:IsZip h₁ (n+4) (n+2) (n+3) .ellipsis:=hz₁
 refine wpAny_bind ?_
 simp -iota only[List.zipIdx_cons,List.zipIdx_nil,List.forIn_cons,List.forIn_nil]
 refine wpAny_bind (wpAny_bind (wpAny_onRaise ?_))
 show wpAny _ _ (Builtin.SmallTypes.nextOf (.ref n) >>= _) _ _ _
 refine wpAny_bind (wpAny_nextOf_ascii_item (h1.extBut hs₁.extBut d14) hx fun h₂ h1₂ hs₂=>wpAny_pure ?_)
 replace hs₂:Heap.SameBut n h₁ h₂:=hs₂
 have hTO₂:PySem.IsPair h₂ (n+3) a b:=hs₂.extBut _ _ (Ne.symm d13) (hs₁.extBut _ _ d34 hTO)
 refine wpAny_bind (wpAny_seqItems hTO₂ rfl ?_)
 refine wpAny_bind (wpAny_updateSeq_pair hTO₂ fun h₃ hTO₃ hs₃=>?_)
 replace hs₃:Heap.SameBut (n+3) h₂ h₃:=hs₃
 replace hTO₃:PySem.IsPair h₃ (n+3) (.str ⟨#[c]⟩ tk) b:=hTO₃
 refine wpAny_bind (wpAny_letGo (wpAny_pure ?_))
 refine wpAny_bind (wpAny_bind (wpAny_onRaise ?_))
 show wpAny _ _ (Builtin.SmallTypes.nextOf (.ref (n+1)) >>= _) _ _ _
 refine wpAny_bind (wpAny_nextOf_list_item (((h2.extBut hs₁.extBut d24).extBut hs₂.extBut (Ne.symm d12)).extBut hs₃.extBut d23) (((hl.extBut hs₁.extBut (dl 4)).extBut hs₂.extBut (dl 0)).extBut hs₃.extBut (dl 3)) hy fun h₄ h2₄ hs₄=>wpAny_pure ?_)
 replace hs₄:Heap.SameBut (n+1) h₃ h₄:=hs₄
 have hTO₄:PySem.IsPair h₄ (n+3) (.str ⟨#[c]⟩ tk) b:=hs₄.extBut _ _ (Ne.symm d23) hTO₃
 refine wpAny_bind (wpAny_seqItems hTO₄ rfl ?_)
 refine wpAny_bind (wpAny_updateSeq_pair hTO₄ fun h₅ hTO₅ hs₅=>?_)
 replace hs₅:Heap.SameBut (n+3) h₄ h₅:=hs₅
 replace hTO₅:PySem.IsPair h₅ (n+3) (.str ⟨#[c]⟩ tk) y:=hTO₅
 refine wpAny_bind (wpAny_letGo (wpAny_pure (wpAny_pure ?_)))
 refine wpAny_bind (wpAny_seqItems hTO₅ rfl ?_)
 refine wpAny_bind (wpAny_newTuple ?_)
 have hsz:h₅.objs.size=hp.objs.size:=by rw[hs₅.1,hs₄.1,hs₃.1,hs₂.1,hs₁.1]
 have hk₅:∀c o,c≠n→c≠n+1→c≠n+3→c≠n+4→hp.get? c=some o→h₅.get? c=some o:=fun c o c1 c2 c3 c4 e=>hs₅.extBut _ _ c3 (hs₄.extBut _ _ c2 (hs₃.extBut _ _ c3 (hs₂.extBut _ _ c1 (hs₁.extBut _ _ c4 e))))
 have hz₅:IsZip h₅ (n+4) (n+2) (n+3) .ellipsis:=hs₅.extBut _ _ (Ne.symm d34) (hs₄.extBut _ _ (Ne.symm d24) (hs₃.extBut _ _ (Ne.symm d34) (hs₂.extBut _ _ (Ne.symm d14) hz₁)))
 have h1₅:h₅.IsStrIter n "str_ascii_iterator" x t (j+1):=((h1₂.extBut hs₃.extBut d13).extBut hs₄.extBut d12).extBut hs₅.extBut d13
 have h2₅:h₅.IsListIter (n+1) l (j+1):=h2₄.extBut hs₅.extBut d23
 have hTI₅:PySem.IsPair h₅ (n+2) (.ref n) (.ref (n+1)):=hk₅ _ _ (nadd (a:=2) (b:=0) (by decide)) (nadd (by decide)) (nadd (by decide)) dT4 hTI
 have hzl:n+4 < hp.objs.size:=Heap.lt_size hz
 show wpAny _ _ (Builtin.SmallTypes.ownedTupleHandOut (.ref (n+4)) (.ref h₅.objs.size) >>= _) _ _ _
 rw[hsz]
 have hz₆:IsZip (h₅.push { cls:=.type "tuple",data:=.seq #[.str ⟨#[c]⟩ tk,y] }) (n+4) (n+2) (n+3) .ellipsis:=Heap.get?_push_of_some _ hz₅
 have hT₆:(h₅.push { cls:=.type "tuple",data:=.seq #[.str ⟨#[c]⟩ tk,y] }).get? hp.objs.size=some { cls:=.type "tuple",data:=.seq #[.str ⟨#[c]⟩ tk,y] }:=by rw[← hsz];exact Heap.get?_push_size _ rfl
 have up₆:∀b o,h₅.get? b=some o→(h₅.push { cls:=.type "tuple",data:=.seq #[.str ⟨#[c]⟩ tk,y] }).get? b=some o:=fun b o e=>Heap.get?_push_of_some _ e
 generalize h₅.push { cls:=.type "tuple",data:=.seq #[.str ⟨#[c]⟩ tk,y] }=h₆ at hz₆ hT₆ up₆
 refine wpAny_bind ?_
 unfold Builtin.SmallTypes.ownedTupleHandOut
 refine wpAny_bind (wpAny_setField_rec hz₆ (by simp -iota) fun h₇ hz₇ hs₇=>?_)
 replace hs₇:Heap.SameBut (n+4) h₆ h₇:=hs₇
 replace hz₇:IsZip h₇ (n+4) (n+2) (n+3) (rawInt hp.objs.size):=hz₇
 refine wpAny_setField_rec hz₇ (by simp -iota) fun h₈ hz₈ hs₈=>?_
 replace hs₈:Heap.SameBut (n+4) h₇ h₈:=hs₈
 replace hz₈:IsZip h₈ (n+4) (n+2) (n+3) (rawInt hp.objs.size):=hz₈
 refine wpAny_pure ⟨_,rfl,wpAny_pure (hQ h₈ hp.objs.size fun elts k pos Q E q=>wpAny_letOwnedTupleGo_zip hz₈ fun h₉ hz₉ hs₉=>?_)⟩
 replace hs₉:Heap.SameBut (n+4) h₈ h₉:=hs₉
 have up:∀b o,b≠n+4→h₆.get? b=some o→h₉.get? b=some o:=fun b o hb e=>hs₉.extBut _ _ hb (hs₈.extBut _ _ hb (hs₇.extBut _ _ hb e))
 have up5:∀b o,b≠n+4→h₅.get? b=some o→h₉.get? b=some o:=fun b o hb e=>up b o hb (up₆ b o e)
 exact q h₉ ⟨hz₉,up5 _ _ dT4 hTI₅,h1₅.imp fun o z=>z.imp_left fun e=>up5 _ o d14 e,h2₅.at fun o e=>up5 _ o d24 e⟩ (up5 _ _ d34 hTO₅) (up _ _ (Nat.ne_of_gt hzl) hT₆) (get?_size hp) hzl fun c o c1 c2 c3 c4 e=>up5 c o c4 (hk₅ c o c1 c2 c3 c4 e)
theorem kA0{n l:Addr}{x:Str}{t:Tok}{j:Nat}{Q:Option Value→Shared→Prop}(hh:A.handled=none)(Z:ZAt s.heap n l x t j)(hx:x.cps[j]?=none)
  (hQ:∀h',(∀c o,c≠n→c≠n+4→s.heap.get? c=some o→h'.get? c=some o)→Q none { s with heap:=h' }):wpAny (model prog w) A (pyNext (.ref (n+4))) Q E s:=by
 obtain⟨hp,g,d,tk,os⟩:=s
 obtain⟨hz,hTI,h1,h2⟩:=Z
 have hT:(⟨hp,g,d,tk,os⟩:Shared).TypeIs (.ref (n+4)) "zip":=⟨_,hz,rfl⟩
 have d14:n≠n+4:=nadd (a:=0) (b:=4) (by decide)
 unfold pyNext
 refine wpAny_bind (wpAny_attempt (wpAny_callSpecial?_slot (name:=Str.ofString "__next__") hT F.slot_zip_next (wpAny_call_entry F.slot_zip_next hT F.entry_zip_next ?_ (F.args_zip_next_1 _))))
 show wpAny _ _ (field (.ref (n+4)) 2 >>= _) _ _ _
 refine wpAny_bind (wpAny_field hz rfl (x:=.bool false) rfl ?_)
 show wpAny _ _ (field (.ref (n+4)) 3 >>= _) _ _ _
 refine wpAny_bind (wpAny_field hz rfl (x:=.ref (n+2)) rfl (wpAny_bind (wpAny_seqItems hTI rfl ?_)))
 show wpAny _ _ (Builtin.SmallTypes.ownedTupleIsFree (.ref (n+4)) >>= _) _ _ _
 refine wpAny_bind ?_
 unfold Builtin.SmallTypes.ownedTupleIsFree
 refine wpAny_bind (wpAny_field hz rfl (x:=.none) rfl (wpAny_pure ?_))
 simp -iota only[if_true]
 refine wpAny_bind (wpAny_rule (wpAny_bind (wpAny_field hz rfl (x:=.ref (n+3)) rfl ?_)))
 refine wpAny_bind (wpAny_setField_rec hz (by simp -iota) fun h₁ hz₁ hs₁=>?_)
 replace hs₁:Heap.SameBut (n+4) hp h₁:=hs₁
 replace hz₁:IsZip h₁ (n+4) (n+2) (n+3) .ellipsis:=hz₁
 refine wpAny_bind ?_
 simp -iota only[List.zipIdx_cons,List.zipIdx_nil,List.forIn_cons,List.forIn_nil]
 refine wpAny_bind (wpAny_bind (wpAny_onRaise ?_))
 show wpAny _ _ (Builtin.SmallTypes.nextOf (.ref n) >>= _) _ _ _
 refine wpAny_bind (wpAny_nextOf_ascii_end hh (h1.extBut hs₁.extBut d14) hx fun h₂ e hs₂ he=>?_)
 replace hs₂:Heap.ExtBut n h₁ h₂:=hs₂
 obtain⟨oe,hoe,hce⟩:=he
 have hz₂:IsZip h₂ (n+4) (n+2) (n+3) .ellipsis:=hs₂ _ _ (Ne.symm d14) hz₁
 have hez:e≠n+4:=fun x=>by subst x;rw[hz₂]at hoe;cases hoe;simp at hce
 refine wpAny_setField_rec hz₂ (by simp -iota) fun h₃ _ hs₃=>?_
 replace hs₃:Heap.SameBut (n+4) h₂ h₃:=hs₃
 refine wpAny_bind (wpAny_isInstance (T:="StopIteration") (b:=true) ⟨oe,hs₃.extBut _ _ hez hoe,hce⟩ isSubtype_stop ?_)
 exact wpAny_pure (hQ h₃ fun c o c1 c4 x=>hs₃.extBut _ _ c4 (hs₂ _ _ c1 (hs₁.extBut _ _ c4 x)))
end
section
variable {B:Bs}{k:Nat}{G:Gl}
noncomputable def ZTurns(B:Bs)(k:Nat)(t:Expr)(body:List Stmt)(hi li ver:Nat):List (Nat×PV)→Cx→Sto→Cx→Sto→Prop
 |[],cx,σ,cx',σ'=>cx'=cx∧σ'=σ
 |p::r,cx,σ,cx',σ'=>∃cx₁ cx₂ σ₂,aH cx t (.tup [.str ⟨#[p.1]⟩,p.2])=some cx₁∧watch σ (some (li,ver))=true∧S1 B k cx₁ (aC σ hi .hid) (execs body) .nxt cx₂ σ₂∧(∃c,σ₂[hi]?=some c∧c.d=.hid)∧ZTurns B k t body hi li ver r cx₂ σ₂ cx' σ'
structure ZHead (B:Bs) (li ver:Nat) (l:Addr) (x:Str) (ys:List PV) (vs:List Value) (ρ₀:List Addr) (σ₀:Sto) (s₀:Shared):Prop where
 st:St B ρ₀ σ₀ s₀
 cell:∃c,σ₀[li]?=some c∧c.ver=ver
 at_:ρ₀[li]?=some l
 lst:s₀.heap.PlainList l vs.toArray
 vr:VRs B ρ₀ s₀.heap ys vs
 le:x.cps.size≤ys.length
structure ZSt (B:Bs) (X:List Addr) (cx:Cx) (env:Env) (hi:Nat) (l:Addr) (x:Str) (tx:Tok) (ρ₀:List Addr) (σ₀:Sto) (s₀:Shared) (j:Nat) (ρ:List Addr) (σ:Sto) (s:Shared):Prop where
 st:St B ρ σ s
 evo:Evo B X ρ₀ σ₀ s₀.heap ρ σ s.heap
 fr:Fr B X cx env ρ s.heap
 z:ZAt s.heap s₀.heap.objs.size l x tx j
 hid:∃c,σ[hi]?=some c∧c.d=.hid
 to:ρ[hi]?=some (s₀.heap.objs.size+3)
 ti:s₀.heap.objs.size+2∉ρ
theorem zfield{h:Heap}{n l:Addr}{x:Str}{t:Tok}{j:Nat}(Z:ZAt h n l x t j){a:Addr}(ha:a∈[n,n+1,n+4]):∃o vs,h.get? a=some o∧o.data=.fields vs∧o.cls≠ .type "tuple"∧o.cls≠ .type "code":=by
 rcases List.mem_cons.mp ha with rfl | ha
 ·obtain⟨o,ho,hc,hd⟩:=Z.i1
  exact⟨o,_,ho,hd,by rw[hc];decide,by rw[hc];decide⟩
 rcases List.mem_cons.mp ha with rfl | ha
 ·obtain⟨o,ho,hc,hd⟩:=Z.i2
  exact⟨o,_,ho,hd,by rw[hc];decide,by rw[hc];decide⟩
 ·rw[List.mem_singleton.mp ha]
  exact⟨_,_,Z.z,rfl,(show Value.type "zip"≠ .type "tuple" by decide),(show Value.type "zip"≠ .type "code" by decide)⟩
theorem znew{h:Heap}{a:Addr}(ha:h.objs.size≤a):h.get? a=none:=Heap.get?_none_of_le ha
section
variable {A:Around}{X:List Addr}{cx cx':Cx}{env:Env}{hi li ver:Nat}{l:Addr}{x:Str}{tx:Tok}{ys:List PV}{vs:List Value}{ρ₀ ρ:List Addr}{σ₀ σ σ':Sto}{s₀ s:Shared}{j:Nat}
theorem zge{n a:Nat}(ha:a∈[n,n+1,n+4]):n≤a:=by
 rcases List.mem_cons.mp ha with rfl | ha
 ·exact Nat.le_refl _
 rcases List.mem_cons.mp ha with rfl | ha
 ·exact Nat.le_add_right ..
 ·rw[List.mem_singleton.mp ha];exact Nat.le_add_right ..
theorem ZSt.alter(ok:BsOk B)(H:ZHead B li ver l x ys vs ρ₀ σ₀ s₀)(x₁:St B ρ σ s)(e₁:Evo B X ρ₀ σ₀ s₀.heap ρ σ s.heap)(f₁:Fr B X cx env ρ s.heap)(Z:ZAt s.heap s₀.heap.objs.size l x tx j){h':Heap}{tk:Nat}
  (hk:∀b o,b∉[s₀.heap.objs.size,s₀.heap.objs.size+1,s₀.heap.objs.size+4]→s.heap.get? b=some o→h'.get? b=some o):St B ρ σ { s with heap:=h',toks:=tk }∧Evo B X ρ₀ σ₀ s₀.heap ρ σ h'∧Fr B X cx env ρ h':=by
 have ap:∀a∈[s₀.heap.objs.size,s₀.heap.objs.size+1,s₀.heap.objs.size+4],a∉ρ∧a∉B.Tb∧B.h₀.get? a=none∧∀o,s.heap.get? a=some o→(o.cls=.type "tuple"→∀vs n,o.data≠ .seq vs n)∧(o.cls=.type "code"→∀vs,o.data≠ .fields vs):=fun a ha=>by
  obtain⟨o,us,ho,hd,h1,h2⟩:=zfield Z ha
  obtain⟨_,g2,g3⟩:=H.st.dead ok (znew (zge ha))
  exact⟨fun hm=>x₁.notFields hm ho hd,g2,g3,fun o' ho'=>by rw[← Option.some.inj (ho.symm.trans ho')];exact⟨fun e=>absurd e h1,fun e=>absurd e h2⟩⟩
 obtain⟨x',vk⟩:=x₁.alter ok (tk:=tk) ap hk
 exact⟨x',e₁.alter (fun a ha=>znew (zge ha)) hk,f₁.vk' vk (fun a ha o ho=>by
  obtain⟨o',us,ho',hd,_⟩:=zfield Z ha
  rw[← Option.some.inj (ho'.symm.trans ho)]
  exact cD hd) hk⟩
theorem ZAt.keep(ok:BsOk B)(H:ZHead B li ver l x ys vs ρ₀ σ₀ s₀)(Z:ZAt s.heap s₀.heap.objs.size l x tx j)(x₁:St B ρ σ s)(hti:s₀.heap.objs.size+2∉ρ){ρ':List Addr}{h':Heap}(e:Evo B X ρ σ s.heap ρ' σ' h'):ZAt h' s₀.heap.objs.size l x tx j∧s₀.heap.objs.size+2∉ρ':=by
 have k1:∀a∈[s₀.heap.objs.size,s₀.heap.objs.size+1,s₀.heap.objs.size+4],∀o,s.heap.get? a=some o→h'.get? a=some o:=fun a ha o ho=>by
  obtain⟨o',us,ho',hd,_⟩:=zfield Z ha
  obtain⟨_,g2,_⟩:=H.st.dead ok (znew (zge ha))
  refine e.kp.keep a o ho (fun hm=>x₁.notFields hm ho' hd) g2 fun _=>?_
  rw[← Option.some.inj (ho'.symm.trans ho)]
  exact cD hd
 obtain⟨_,g2,_⟩:=H.st.dead ok (znew (Nat.le_add_right s₀.heap.objs.size 2))
 exact⟨⟨k1 _ (List.mem_cons_of_mem _ (List.mem_cons_of_mem _ List.mem_cons_self)) _ Z.z,e.kp.keep _ _ Z.ti hti g2 fun _=>fN rfl,Z.i1.imp fun o z=>z.imp_left (k1 _ List.mem_cons_self o),Z.i2.at fun o ho=>k1 _ (List.mem_cons_of_mem _ List.mem_cons_self) o ho⟩,e.notin hti Z.ti⟩
theorem hV0(ok:BsOk B)(H:ZHead B li ver l x ys vs ρ₀ σ₀ s₀){elts:List Expr}{kk:Nat}{tp:Pos}{body:List Stmt}{cx₁ cx₂:Cx}{σ₂:Sto}{c:Nat}{y:PV}{R:Result→Shared→Prop}(Rm:Room k A)(Z:ZSt B X cx env hi l x tx ρ₀ σ₀ s₀ j ρ σ s)(hx:x.cps[j]?=some c)(hy:ys[j]?=some y)
  (hw:watch σ (some (li,ver))=true) (hb:aH cx (.Tuple elts kk tp) (.tup [.str ⟨#[c]⟩,y])=some cx₁) (HB:S1 B k cx₁ (aC σ hi .hid) (execs body) .nxt cx₂ σ₂)
  (hh:∃c,σ₂[hi]?=some c∧c.d=.hid) (q:∀ρ' s',ZSt B X cx₂ env hi l x tx ρ₀ σ₀ s₀ (j+1) ρ' σ₂ s'→codeAny (model B.prog B.w) A (.forLoop (.Tuple elts kk tp) (.ref (s₀.heap.objs.size+4)) body [] env) R s'):
  codeAny (model B.prog B.w) A (.forLoop (.Tuple elts kk tp) (.ref (s₀.heap.objs.size+4)) body [] env) R s:=by
 obtain⟨ch,hch,hcd⟩:=Z.hid
 have hto:=Z.st.cells hi ch _ hch Z.to
 rw[hcd]at hto
 obtain⟨u,v,hto⟩:=hto
 obtain⟨cl,hcl,hcv⟩:=H.cell
 have hl:s.heap.IsList l vs.toArray:=by
  obtain⟨c',h1,h2,h3⟩:=Z.evo.ver li cl hcl
  unfold watch at hw
  simp only[h1]at hw
  obtain⟨n,ho⟩:=H.lst
  exact⟨_,(h3 (hcv.trans (Nat.eq_of_beq_eq_true hw).symm)).2 l H.at_ _ ho,rfl,n,rfl⟩
 have hln:l < s₀.heap.objs.size:=let ⟨n,ho⟩:=H.lst;Heap.lt_size ho
 obtain⟨vy,hvy,hry⟩:=H.vr.get hy
 refine cG (zip_next Z.z hto hl hln hx (by rw[List.getElem?_toArray];exact hvy) fun h' T hgo=>hgo elts kk tp _ _ fun h'' Z'' hto'' hT hTn hTl hk=>?_)
 have hne:∀{m:Nat},m≠3→s₀.heap.objs.size+3≠s₀.heap.objs.size+m:=fun h=>nadd (Ne.symm h)
 have ho':(s.heap.update (s₀.heap.objs.size+3) fun _=>{ cls:=.type "tuple",data:=.seq #[.str ⟨#[c]⟩ s.toks,vy] }).get? (s₀.heap.objs.size+3)=some { cls:=.type "tuple",data:=.seq #[.str ⟨#[c]⟩ s.toks,vy] }:=Heap.get?_update_self _ hto rfl
 have hs':Heap.SameBut (s₀.heap.objs.size+3) s.heap (s.heap.update (s₀.heap.objs.size+3) fun _=>{ cls:=.type "tuple",data:=.seq #[.str ⟨#[c]⟩ s.toks,vy] }):=Heap.SameBut.update ..
 generalize (s.heap.update (s₀.heap.objs.size+3) fun _=>{ cls:=.type "tuple",data:=.seq #[.str ⟨#[c]⟩ s.toks,vy] })=hm at ho' hs'
 obtain⟨x₁,e₁⟩:=Z.st.set ok (s':={ s with heap:=hm }) (d:=.hid) rfl rfl Z.to (fun b o hb ho=>hs'.extBut b o hb ho) (fun σ' e=>⟨_,_,ho'⟩) ⟨_,ho',fun vs h=>nomatch h⟩
 have up:∀b o,b≠s₀.heap.objs.size+3→s.heap.get? b=some o→hm.get? b=some o:=fun b o hb ho=>hs'.extBut b o hb ho
 have Zm:ZAt hm s₀.heap.objs.size l x tx j:=⟨up _ _ (Ne.symm (hne (by decide))) Z.z.z,up _ _ (Ne.symm (hne (by decide))) Z.z.ti,Z.z.i1.imp fun o z=>z.imp_left (up _ o (Ne.symm (hne (m:=0) (by decide)))),Z.z.i2.at fun o ho=>up _ o (Ne.symm (hne (by decide))) ho⟩
 obtain⟨x₂,e₂,f₂⟩:=ZSt.alter ok H x₁ (Z.evo.trans e₁.weak) (Z.fr.evo e₁) Zm (h':=h'') (tk:=s.toks+1) fun b o hb ho=>by
  by_cases h3:b=s₀.heap.objs.size+3
  ·subst h3
   rw[← Option.some.inj (ho'.symm.trans ho)]
   exact hto''
  ·have ho2:s.heap.get? b=some o:=(hs'.2 b h3).symm.trans ho
   exact hk b o (fun e=>hb (by rw[e];exact List.mem_cons_self)) (fun e=>hb (by rw[e];exact List.mem_cons_of_mem _ List.mem_cons_self)) h3 (fun e=>hb (by rw[e];exact List.mem_cons_of_mem _ (List.mem_cons_of_mem _ List.mem_cons_self))) ho2
 obtain⟨g1,g2,_⟩:=Z.st.dead ok hTn
 have vr:VR B ρ h'' (.tup [.str ⟨#[c]⟩,y]) (.ref T):=⟨T,_,rfl,g1,g2,⟨_,hT,rfl,_,rfl⟩,_,_,rfl,⟨s.toks,rfl⟩,_,_,rfl,VR.evo e₂ _ hry,rfl⟩
 refine iD ok Rm hb x₂ f₂ vr fun s₃ x₃ e₃ f₃=>HB Rm x₃ f₃ fun f s₄ ρ₄ p=>?_
 obtain rfl:f=.next:=p.fl
 obtain⟨z4,t4⟩:=ZAt.keep ok H (s:={ s with heap:=h'',toks:=s.toks+1 }) Z'' x₂ Z.ti (e₃.trans p.evo)
 exact q ρ₄ s₄ ⟨p.st,e₂.trans (e₃.trans p.evo),p.fr,z4,hh,(e₃.trans p.evo).at Z.to,t4⟩
theorem yS(ok:BsOk B)(H:ZHead B li ver l x ys vs ρ₀ σ₀ s₀){elts:List Expr}{kk:Nat}{tp:Pos}{body:List Stmt}{R:Result→Shared→Prop}(Rm:Room k A){cx':Cx}{σ':Sto}
  (q:∀f s' ρ',SEnd B X env ρ₀ σ₀ s₀.heap .nxt cx' σ' f s' ρ'→R (.ok f) s'):∀(r:List (Nat×PV)) {j:Nat} {cx:Cx} {σ:Sto} {ρ:List Addr} {s:Shared},ZTurns B k (.Tuple elts kk tp) body hi li ver r cx σ cx' σ'→(x.cps.toList.drop j).zip (ys.drop j)=r→
  ZSt B X cx env hi l x tx ρ₀ σ₀ s₀ j ρ σ s→codeAny (model B.prog B.w) A (.forLoop (.Tuple elts kk tp) (.ref (s₀.heap.objs.size+4)) body [] env) R s
 |[],j,cx,σ,ρ,s,T,hr,Z=>by
  obtain⟨rfl,rfl⟩:=T
  have hx:x.cps[j]?=none:=by
   rw[← Array.getElem?_toList]
   refine List.getElem?_eq_none (List.drop_eq_nil_iff.mp ?_)
   rcases List.zip_eq_nil_iff.mp hr with h | h
   ·exact h
   ·exact List.drop_eq_nil_iff.mpr (Nat.le_trans (Nat.le_of_eq (Array.length_toList ..)) (Nat.le_trans H.le (List.drop_eq_nil_iff.mp h)))
  refine cG (kA0 Rm.handled Z.z hx fun h' hk=>?_)
  obtain⟨x₂,e₂,f₂⟩:=ZSt.alter ok H Z.st Z.evo Z.fr Z.z (h':=h') (tk:=s.toks) fun b o hb ho=>hk b o (fun e=>hb (by rw[e];exact List.mem_cons_self)) (fun e=>hb (by rw[e];exact List.mem_cons_of_mem _ (List.mem_cons_of_mem _ List.mem_cons_self))) ho
  exact wpAny_execs_nil (q _ _ _ ⟨x₂,e₂,f₂,rfl⟩)
 |p::r,j,cx,σ,ρ,s,T,hr,Z=>by
  obtain⟨cx₁,cx₂,σ₂,hb,hw,HB,hh,T'⟩:=T
  have hp:(x.cps.toList.zip ys)[j]?=some p:=by
   have:=congrArg List.head? hr
   rw[List.zip_eq_zipWith,← List.drop_zipWith,List.head?_drop,← List.zip_eq_zipWith]at this
   exact this
  obtain⟨hx,hy⟩:=List.getElem?_zip_eq_some.mp hp
  refine hV0 ok H Rm Z (by rw[← Array.getElem?_toList];exact hx) hy hw hb HB hh fun ρ' s' Z'=>yS ok H Rm q r T' ?_ Z'
  have:=congrArg List.tail hr
  rw[List.zip_eq_zipWith,← List.drop_zipWith,List.tail_drop,List.drop_zipWith,← List.zip_eq_zipWith]at this
  exact this
end
theorem st_zip(ok:BsOk B){mg mb:Str→Option Value}(gok:GlOk B k G mg mb){cx cx':Cx}{σ σ₁ σ':Sto}{a1 a2:Expr}{p pq pos tp:Pos}{elts:List Expr}{kk:Nat}{body:List Stmt}{x:Str}{li:Nat}{c:Cell}{ys:List PV}
  (hk:cx.names.lookup ("zip":Str)=some .globalImplicit) (H:Es B k cx σ [a1,a2] [.str x,.lst li] σ₁) (hc:σ₁[li]?=some c) (hd:c.d=.lst ys) (ha:x.cps.all (· < 128)=true) (hle:x.cps.size≤ys.length)
  (T:ZTurns B k (.Tuple elts kk tp) body σ₁.length li c.ver (x.cps.toList.zip ys) cx (σ₁++[⟨0,.hid⟩]) cx' σ'):
  S1 B k cx σ (exec (.For (.Tuple elts kk tp) (.Call (.Name "zip" p) [a1,a2] [] pq) body [] pos)) .nxt cx' σ':=fun {A X env ρ s Q E} R x' f q=>by
 refine wpAny_For (wpAny_Call_NameR (cT gok x' f hk (by decide) (.inr (gok.bg _ (.type "zip") rfl)) ?_)) (fun _=>rfl)
 rw[cA H.star]
 refine dK "zip" A _ s pq [] [a1,a2] env _ (H.run.use R x' f fun vals ρ₁ s₁ x₁ e₁ f₁ r₁=>⟨⟨ρ₁,_,x₁⟩,?_⟩)
 obtain⟨_,_,rfl,⟨t,rfl⟩,_,ws,rfl,⟨l,rfl,hl⟩,h3⟩:=r₁
 obtain rfl:ws=[]:=h3
 have hcell:=x₁.cells li c l hc hl
 rw[hd]at hcell
 obtain⟨vs,hp,hr⟩:=hcell
 refine jX0 ha hp.isList fun h' Z hTO hk'=>wpAny_pyIter_zip Z.z ?_
 obtain⟨x₂,e₂,hat⟩:=x₁.new ok (s':={ s₁ with heap:=h' }) (a:=s₁.heap.objs.size+3) (d:=.hid) rfl rfl (znew (Nat.le_add_right ..)) hk' fun ρ' σ' e hρ=>⟨_,_,hTO⟩
 obtain⟨g1,_,_⟩:=x₁.dead ok (znew (Nat.le_add_right s₁.heap.objs.size 2))
 refine yS ok (tx:=t) ⟨x₁,⟨c,hc,rfl⟩,hl,hp,hr,hle⟩ R (fun f s' ρ' p=>q f s' ρ' (p.after e₁.weak)) _ T (by rw[List.drop_zero,List.drop_zero]) ⟨x₂,e₂.weak,f₁.evo e₂,Z,⟨_,by rw[List.getElem?_append_right (Nat.le_refl _),Nat.sub_self];rfl,rfl⟩,hat,fun hm=>?_⟩
 rcases List.mem_append.mp hm with hm | hm
 ·exact g1 hm
 ·exact nadd (by decide) (List.mem_singleton.mp hm)
end
theorem gO{F:Fn}{args:List PV}{v:PV}{τ:Sto}(ha:args.all flat=true)(h:F args []=some (v,τ))(hv:flat v=true)(σ:Sto):jS F args σ=some (v,σ):=by
 unfold jS
 rw[gp ha,h]
 exact gp hv
theorem add_ss{β:Type}(a b:Str)(σ:Sto)(k:PV→Sto→Option β):aV .Add (.str a) (.str b) σ k=grd ((a++b).length≤100000) (k (.str (a++b)) σ):=rfl
theorem eY{β:Type}(a b:List Nat)(h:a.length+b.length≤100000)(σ:Sto)(k:PV→Sto→Option β):aV .Add (.str (S a)) (.str (S b)) σ k=k (.str (S (a++b))) σ:=by
 rw[add_ss,S_app]
 exact gp (by rw[S_len,List.length_append];exact h)
theorem iA(σ l:Sto)(j:Nat):(σ++l)[σ.length+j]?=l[j]?:=by rw[List.getElem?_append_right (Nat.le_add_right ..),Nat.add_sub_cancel_left]
theorem jY:∀(σ l:Sto) (j:Nat) (d:CD),aC (σ++l) (σ.length+j) d=σ++aC l j d
 |[],l,j,d=>by rw[List.nil_append,List.nil_append,List.length_nil,Nat.zero_add]
 |c::σ,l,j,d=>by
  rw[List.length_cons,Nat.add_right_comm]
  exact congrArg (c::·) (jY σ l j d)
noncomputable def kE(sp un:Fn):Str→Option Fn:=fun n=>if n="_law_spelled" then some sp else if n="_law_unseen" then some un else none
structure SpOk (sp un:Fn):Prop where
 hs:∀(c m:Nat) (τ:Sto),fil c→sp [.str (S [c]),.int (m:Int)] τ=some (.str (S [frC c m]),τ)
 h0:∀(m:Int) (τ:Sto),sp [.str (S []),.int m] τ=some (.str (S []),τ)
 hu:∀(m:Nat) (τ:Sto),un [.int (m:Int)] τ=some (.str (S [unC m]),τ)
theorem SpOk.of(T:Int→Option Str)(E P:Fn):SpOk (jS (cU (G1 T E P) 100 dS)) (jS (cU (G1 T E P) 100 dU)):=
 ⟨fun c m τ hc=>gO rfl (wV T E P c hc m) rfl τ,fun m τ=>gO rfl (tS T E P m) rfl τ,fun m τ=>gO rfl (aE0 T E P m) rfl τ⟩
noncomputable def gB:List (List Nat):=[[102],[105],[108],[102,102],[102,105],[102,108],[102,102,105],[102,102,108]]
noncomputable def hB0:List (List Nat):=[[],[102],[105],[108]]
noncomputable def jM0:List Nat:=[102,105,108]
theorem c3{P:Nat→Prop}(h0:P 0)(h1:P 1)(h2:P 2)(i:Nat)(h:i < 3):P i:=by
 cases i with
 |zero=>exact h0
 |succ i=>cases i with
  |zero=>exact h1
  |succ i=>cases i with
   |zero=>exact h2
   |succ i=>exact absurd h (Nat.not_lt.mpr (Nat.le_add_left 3 i))
noncomputable def more(n:Nat):List Nat:=hB0.getD (n / 8 % 4) []
noncomputable def iH(n:Nat):List Nat:=gB.getD (n % 8) []++more n
noncomputable def fO(n:Nat):Nat:=if n % 8 < 3 then frC (jM0.getD (n % 8) 0) (n / 32) else 64253+n % 8
noncomputable def dO(n:Nat):List Nat:=[fO n]++[unC (n / 384)]++(more n).map fun c=>frC c (n / 32+5)
noncomputable abbrev dI:DefP:=xR p3 "_law_images"
theorem dI_body:dI.body=[stAt dI 0,stAt dI 1,stAt dI 2]:=by kernel_rfl!
theorem gN0:dI.params=(["numbers"]:List Str):=by kernel_rfl!
noncomputable def bAt(st:Stmt)(j:Nat):Stmt:=(bN st).getD j st
noncomputable def imB(j:Nat):Stmt:=bAt (stAt dI 1) j
theorem im_bs:bN (stAt dI 1)=[imB 0,imB 1,imB 2,imB 3]:=by kernel_rfl!
noncomputable def iB(m i:Nat):LE:=[("images",.lst (m+1)),("typed",.lst m),("numbers",.lst i)]
section
variable {β:Type}(T:Int→Option Str)(E P sp un:Fn)(N m i:Nat)(c:Nat)(n:Int)
noncomputable def iT(m i c:Nat)(n:Int):LE:=("n",.int n)::("letter",.str ⟨#[c]⟩)::iB m i
noncomputable def iM(m i c:Nat)(n:Int)(kd:Int)(mo:PV):LE:=("more",mo)::("kind",.int kd)::iT m i c n
noncomputable def iF(m i c:Nat)(n:Int)(kd:Int)(mo fs:PV):LE:=("first",fs)::iM m i c n kd mo
noncomputable def cE:Cell:=⟨0,.dct []⟩
theorem im_0(σ:Sto)(k:Fl→Cx→Sto→Option β):exK (G2 T E P (kE sp un)) (N+20) ⟨dI.names,[("numbers",.lst i)]⟩ σ (stAt dI 0) k=
 k .nxt ⟨dI.names,[("images",.lst (σ++[cE]:Sto).length),("typed",.lst σ.length),("numbers",.lst i)]⟩ ((σ++[cE])++[cE]):=by kernel_rfl!
theorem im_t(_:PV):aH ⟨dI.names,iB m i⟩ (cH (stAt dI 1)) (.tup [.str ⟨#[c]⟩,.int n])=some ⟨dI.names,iT m i c n⟩:=by kernel_rfl!
theorem im_b0(τ:Sto)(k:Fl→Cx→Sto→Option β):exK (G2 T E P (kE sp un)) (N+20) ⟨dI.names,iT m i c n⟩ τ (imB 0) k=
 bT (.tup [.str "",.str "f",.str "i",.str "l"]) (.int (Int.fmod (Int.fdiv n 8) 4)) τ fun v=>k .nxt ⟨dI.names,iM m i c n (Int.fmod n 8) v⟩ τ:=by kernel_rfl!
theorem im_b1(kd:Int)(mo:PV)(τ:Sto)(k:Fl→Cx→Sto→Option β):exK (G2 T E P (kE sp un)) (N+20) ⟨dI.names,iM m i c n kd mo⟩ τ (imB 1) k=onB (decide (kd < 3))
 (bT (.str "fil") (.int kd) τ fun l=>aR (sp [l,.int (Int.fdiv n 32)] τ) fun v τ'=>k .nxt ⟨dI.names,iF m i c n kd mo v⟩ τ')
 (grd (0≤64253+kd∧64253+kd≤1114111) (k .nxt ⟨dI.names,iF m i c n kd mo (.str ⟨#[(64253+kd).toNat]⟩)⟩ τ)):=by kernel_rfl!
theorem im_b2(kd:Int)(mo fs:PV)(τ:Sto)(k:PV→Sto→Option β):evK (G2 T E P (kE sp un)) (N+20) ⟨dI.names,iF m i c n kd mo fs⟩ τ (mJ (imB 2)) k=
 aR (un [.int (Int.fdiv n 384)] τ) fun a τ=>aV .Add fs a τ fun r τ=>aR (sp [mo,.int (Int.fdiv n 32+5)] τ) fun b τ=>aV .Add r b τ k:=by kernel_rfl!
theorem im_b3(kd:Int)(mo fs:PV)(τ:Sto)(k:PV→Sto→Option β):evK (G2 T E P (kE sp un)) (N+20) ⟨dI.names,iF m i c n kd mo fs⟩ τ (mJ (imB 3)) k=
 bT (.tup [.str "f",.str "i",.str "l",.str "ff",.str "fi",.str "fl",.str "ffi",.str "ffl"]) (.int kd) τ fun a=>aV .Add a mo τ k:=by kernel_rfl!
theorem im_2(τ:Sto)(k:Fl→Cx→Sto→Option β):exK (G2 T E P (kE sp un)) (N+20) ⟨dI.names,iB m i⟩ τ (stAt dI 2) k=k (.ret (.tup [.lst m,.lst (m+1)])) ⟨dI.names,iB m i⟩ τ:=by kernel_rfl!
end
noncomputable def morS:List Str:=["","f","i","l"]
noncomputable def ligS:List Str:=["f","i","l","ff","fi","fl","ffi","ffl"]
theorem fM0{β:Type}(xs:List PV)(j:Int)(σ:Sto)(k:PV→Option β):bT (.tup xs) (.int j) σ k=grd (-(2 ^ 63)≤j∧j < 2 ^ 63) (xV j xs k):=rfl
theorem yB{β:Type}(σ:Sto)(i:Nat)(xs:List PV)(v:PV)(k:PV→Option β)(hv:xs[i]?=some v)(hl:xs.length≤1000):bT (.tup xs) (.int (i:Int)) σ k=k v:=by
 have hi:i < xs.length:=(List.getElem?_eq_some_iff.mp hv).1
 have es:seqIndex? (i:Int) xs.length=some i:=oN hi
 have h1:(i:Int) < 2 ^ 63:=Int.lt_of_lt_of_le (Int.ofNat_lt.mpr (Nat.lt_of_lt_of_le hi hl)) (by decide)
 have h0:(-(2 ^ 63):Int)≤i:=Int.le_trans (by decide) (Int.natCast_nonneg i)
 rw[fM0]
 refine (gp ⟨h0,h1⟩).trans ?_
 show opt (seqIndex? (i:Int) xs.length) _=_
 rw[es]
 show opt xs[i]? k=_
 rw[hv]
 rfl
theorem mor_at:∀y∈List.range 4,([.str "",.str "f",.str "i",.str "l"]:List PV)[y]?=some (.str (morS.getD y "")):=List.map_inj_left.mp rfl
theorem lig_at:∀y∈List.range 8,([.str "f",.str "i",.str "l",.str "ff",.str "fi",.str "fl",.str "ffi",.str "ffl"]:List PV)[y]?=some (.str (ligS.getD y "")):=List.map_inj_left.mp rfl
theorem mor_S:∀y∈List.range 4,morS.getD y ""=S (hB0.getD y []):=by decide+kernel
theorem lig_S:∀y∈List.range 8,ligS.getD y ""=S (gB.getD y []):=by decide+kernel
theorem sub_mor{β:Type}(τ:Sto)(k:PV→Option β)(y:Nat)(h:y∈List.range 4):bT (.tup [.str "",.str "f",.str "i",.str "l"]) (.int (y:Int)) τ k=k (.str (S (hB0.getD y []))):=mor_S y h▸yB τ y _ _ k (mor_at y h) (by decide)
theorem sub_lig{β:Type}(τ:Sto)(k:PV→Option β)(y:Nat)(h:y∈List.range 8):bT (.tup [.str "f",.str "i",.str "l",.str "ff",.str "fi",.str "fl",.str "ffi",.str "ffl"]) (.int (y:Int)) τ k=k (.str (S (gB.getD y []))):=lig_S y h▸yB τ y _ _ k (lig_at y h) (by decide)
theorem sub_fst{β:Type}(sp:Fn)(q:Int)(τ:Sto)(K:PV→Sto→Option β):∀y∈List.range 8,onB (decide ((y:Int) < 3)) (bT (.str "fil") (.int (y:Int)) τ fun l=>aR (sp [l,.int q] τ) K) (grd (0≤64253+(y:Int)∧64253+(y:Int)≤1114111) (K (.str ⟨#[(64253+(y:Int)).toNat]⟩) τ))=
  if y < 3 then aR (sp [.str (S [jM0.getD y 0]),.int q] τ) K else K (.str (S [64253+y])) τ:=List.map_inj_left.mp (by kernel_rfl!)
theorem kC0:∀y∈List.range 3,fil (jM0.getD y 0):=fun y hy=>c3 (P:=fun y=>fil (jM0.getD y 0)) (.inl rfl) (.inr (.inl rfl)) (.inr (.inr rfl)) y (List.mem_range.mp hy)
theorem more_is(n:Nat):more n=[]∨∃c,fil c∧more n=[c]:=by
 unfold more
 have h:n / 8 % 4 < 4:=Nat.mod_lt _ (by decide)
 generalize n / 8 % 4=y at h
 cases y with
 |zero=>exact .inl rfl
 |succ y=>exact .inr (c3 (P:=fun y=>∃c,fil c∧(hB0.getD (y+1) [])=[c]) ⟨_,.inl rfl,rfl⟩ ⟨_,.inr (.inl rfl),rfl⟩ ⟨_,.inr (.inr rfl),rfl⟩ y (Nat.lt_of_succ_lt_succ h))
section
variable {T:Int→Option Str}{E P sp un:Fn}(O:SpOk sp un)(m i c n:Nat)(τ:Sto)
include O
theorem sp_more(q:Nat):sp [.str (S (more n)),.int (q:Int)] τ=some (.str (S ((more n).map fun c=>frC c q)),τ):=by
 rcases more_is n with e | ⟨c,hc,e⟩
 ·rw[e];exact O.h0 _ τ
 ·rw[e];exact O.hs c q τ hc
omit O in
theorem im_e0{β:Type}(k:Fl→Cx→Sto→Option β):exK (G2 T E P (kE sp un)) 20 ⟨dI.names,iT m i c n⟩ τ (imB 0) k=k .nxt ⟨dI.names,iM m i c n ((n % 8:Nat):Int) (.str (S (more n)))⟩ τ:=by
 refine (im_b0 T E P sp un 0 m i c n τ k).trans ?_
 rw[show Int.fmod (Int.fdiv (n:Int) 8) 4=((n / 8 % 4:Nat):Int) from (congrArg (Int.fmod · 4) (lV n 8)).trans (cY _ 4),show Int.fmod (n:Int) 8=((n % 8:Nat):Int) from cY n 8]
 exact sub_mor τ _ _ (List.mem_range.mpr (Nat.mod_lt _ (by decide)))
theorem im_e1{β:Type}(mo:PV)(k:Fl→Cx→Sto→Option β):exK (G2 T E P (kE sp un)) 20 ⟨dI.names,iM m i c n ((n % 8:Nat):Int) mo⟩ τ (imB 1) k=k .nxt ⟨dI.names,iF m i c n ((n % 8:Nat):Int) mo (.str (S [fO n]))⟩ τ:=by
 refine (im_b1 T E P sp un 0 m i c n _ mo τ k).trans ((sub_fst sp _ τ (fun v τ'=>k .nxt ⟨dI.names,iF m i c n ((n % 8:Nat):Int) mo v⟩ τ') _ (List.mem_range.mpr (Nat.mod_lt _ (by decide)))).trans ?_)
 unfold fO
 by_cases h:n % 8 < 3
 ·rw[if_pos h,if_pos h,show Int.fdiv (n:Int) 32=((n / 32:Nat):Int) from lV n 32,O.hs _ _ τ (kC0 _ (List.mem_range.mpr h))]
  rfl
 ·rw[if_neg h,if_neg h]
theorem im_e2{β:Type}(kd:Int)(k:PV→Sto→Option β):evK (G2 T E P (kE sp un)) 20 ⟨dI.names,iF m i c n kd (.str (S (more n))) (.str (S [fO n]))⟩ τ (mJ (imB 2)) k=k (.str (S (dO n))) τ:=by
 have hm:(more n).length≤1:=by
  rcases more_is n with e | ⟨c,_,e⟩<;>rw[e]
  ·exact Nat.zero_le _
  ·exact Nat.le_refl _
 refine (im_b2 T E P sp un 0 m i c n kd _ _ τ k).trans ?_
 rw[show Int.fdiv (n:Int) 384=((n / 384:Nat):Int) from lV n 384,O.hu,bL,eY [fO n] [unC (n / 384)] (show 1+1≤100000 by decide),show Int.fdiv (n:Int) 32+5=((n / 32+5:Nat):Int) from congrArg (· +5) (lV n 32),sp_more O,bL,eY _ _ (by rw[List.length_map];exact Nat.le_trans (Nat.add_le_add_left hm _) (show 2+1≤100000 by decide))]
 rfl
omit O in
theorem im_e3{β:Type}(fs:PV)(k:PV→Sto→Option β):evK (G2 T E P (kE sp un)) 20 ⟨dI.names,iF m i c n ((n % 8:Nat):Int) (.str (S (more n))) fs⟩ τ (mJ (imB 3)) k=k (.str (S (iH n))) τ:=by
 have hm:(more n).length≤1:=by
  rcases more_is n with e | ⟨c,_,e⟩<;>rw[e]
  ·exact Nat.zero_le _
  ·exact Nat.le_refl _
 have hl:∀y∈List.range 8,(gB.getD y []).length≤3:=by decide
 have h8:n % 8∈List.range 8:=List.mem_range.mpr (Nat.mod_lt _ (by decide))
 refine (im_b3 T E P sp un 0 m i c n _ _ fs τ k).trans ((sub_lig τ _ _ h8).trans ?_)
 exact eY _ _ (Nat.le_trans (Nat.add_le_add (hl _ h8) hm) (by decide)) τ k
end
theorem im_s2:∃o j p pos,imB 2=.Assign [.Subscript (.Name "typed" o) (.Name "letter" j) p] (mJ (imB 2)) pos∧∀env,swapsWith (mJ (imB 2)) (some (.Subscript (.Name "typed" o) (.Name "letter" j) p)) pos.line env=pure false:=⟨_,_,_,_,rfl,fun _=>rfl⟩
theorem im_s3:∃o j p pos,imB 3=.Assign [.Subscript (.Name "images" o) (.Name "letter" j) p] (mJ (imB 3)) pos∧∀env,swapsWith (mJ (imB 3)) (some (.Subscript (.Name "images" o) (.Name "letter" j) p)) pos.line env=pure false:=⟨_,_,_,_,rfl,fun _=>rfl⟩
set_option maxHeartbeats 1000000
theorem S1.keep{B:Bs}{k:Nat}{N:List (Str×NameKind)}{cx:Cx}{l:LE}{σ σ':Sto}{t:Env→Sem Flow}{fl:Fl}(l':LE)(H:S1 B k cx σ t fl ⟨N,l⟩ σ')(hl:l'.map (fun p=>l.lookup p.1)=l'.map fun p=>some p.2):S1 B k cx σ t fl ⟨N,l'⟩ σ':=S1.post (cx'':=⟨N,l'⟩) H rfl hl
theorem ex4{B:Bs}{k:Nat}{c0 c1 c2 c3 c4:Cx}{σ0 σ1 σ2 σ3 σ4:Sto}{a b c d:Stmt}(h1:S1 B k c0 σ0 (exec a) .nxt c1 σ1)(h2:S1 B k c1 σ1 (exec b) .nxt c2 σ2)(h3:S1 B k c2 σ2 (exec c) .nxt c3 σ3)(h4:S1 B k c3 σ3 (exec d) .nxt c4 σ4):
  S1 B k c0 σ0 (execs [a,b,c,d]) .nxt c4 σ4:=aP h1 (aP h2 (aP h3 (aP h4 fZ)))
noncomputable def τ3(σ:Sto)(v w:Nat)(K1 K2:List (Str×PV)):Sto:=σ++[⟨v,.dct K1⟩,⟨v,.dct K2⟩,⟨w,.hid⟩]
section
variable {B:Bs}{k:Nat}{T:Int→Option Str}{E P sp un:Fn}{mg mb:Str→Option Value}(ok:BsOk B)(gok:GlOk B k (G2 T E P (kE sp un)) mg mb)(O:SpOk sp un)
include ok gok O
theorem im_turn(σ:Sto)(i c n v w:Nat)(K1 K2:List (Str×PV))(h1:K1.lookup ⟨#[c]⟩=none)(h2:K2.lookup ⟨#[c]⟩=none)(l1:K1.length≤1000)(l2:K2.length≤1000):
  S1 B k ⟨dI.names,iT σ.length i c n⟩ (τ3 σ v w K1 K2) (execs (bN (stAt dI 1))) .nxt ⟨dI.names,iB σ.length i⟩ (τ3 σ (v+1) w (K1++[(⟨#[c]⟩,.str (S (dO n)))]) (K2++[(⟨#[c]⟩,.str (S (iH n)))])):=by
 obtain⟨o2,j2,p2,q2,e2,w2⟩:=im_s2
 obtain⟨o3,j3,p3,q3,e3,w3⟩:=im_s3
 have nm:∀{x:Str} {u:PV} {le:LE} {τ:Sto} {p:Pos},¬ (x="__debug__"∨x="__classdict__")→le.lookup x=some u→E1 B k ⟨dI.names,le⟩ τ (.Name x p) u τ:=fun h1 h2=>oK gok h1 (.inl h2)
 have g1:aC (τ3 σ v w K1 K2) σ.length (.dct (K1++[(⟨#[c]⟩,.str (S (dO n)))]))=σ++[⟨v+1,.dct (K1++[(⟨#[c]⟩,.str (S (dO n)))])⟩,⟨v,.dct K2⟩,⟨w,.hid⟩]:=jY σ _ 0 _
 have g2:aC (σ++[⟨v+1,.dct (K1++[(⟨#[c]⟩,.str (S (dO n)))])⟩,⟨v,.dct K2⟩,⟨w,.hid⟩]) (σ.length+1) (.dct (K2++[(⟨#[c]⟩,.str (S (iH n)))]))=τ3 σ (v+1) w (K1++[(⟨#[c]⟩,.str (S (dO n)))]) (K2++[(⟨#[c]⟩,.str (S (iH n)))]):=jY σ _ 1 _
 have s0:S1 B k ⟨dI.names,iT σ.length i c n⟩ (τ3 σ v w K1 K2) (exec (imB 0)) .nxt ⟨dI.names,iM σ.length i c n ((n % 8:Nat):Int) (.str (S (more n)))⟩ (τ3 σ v w K1 K2):=bI ok gok (n:=20) (im_e0 ..)
 have s1:S1 B k ⟨dI.names,iM σ.length i c n ((n % 8:Nat):Int) (.str (S (more n)))⟩ (τ3 σ v w K1 K2) (exec (imB 1)) .nxt ⟨dI.names,iF σ.length i c n ((n % 8:Nat):Int) (.str (S (more n))) (.str (S [fO n]))⟩ (τ3 σ v w K1 K2):=bI ok gok (n:=20) (im_e1 O ..)
 have hl:∀(τ:Sto) (p:Pos),E1 B k ⟨dI.names,iF σ.length i c n ((n % 8:Nat):Int) (.str (S (more n))) (.str (S [fO n]))⟩ τ (.Name "letter" p) (.str ⟨#[c]⟩) τ:=fun τ p=>nm (by decide) (by kernel_rfl!)
 have ht:∀(τ:Sto) (p:Pos),E1 B k ⟨dI.names,iF σ.length i c n ((n % 8:Nat):Int) (.str (S (more n))) (.str (S [fO n]))⟩ τ (.Name "typed" p) (.lst σ.length) τ:=fun τ p=>nm (by decide) (by kernel_rfl!)
 have hi:∀(τ:Sto) (p:Pos),E1 B k ⟨dI.names,iF σ.length i c n ((n % 8:Nat):Int) (.str (S (more n))) (.str (S [fO n]))⟩ τ (.Name "images" p) (.lst (σ.length+1)) τ:=fun τ p=>nm (by decide) (by kernel_rfl!)
 have v2:∀τ:Sto,E1 B k ⟨dI.names,iF σ.length i c n ((n % 8:Nat):Int) (.str (S (more n))) (.str (S [fO n]))⟩ τ (mJ (imB 2)) (.str (S (dO n))) τ:=fun τ=>jT0 ok gok (n:=20) (im_e2 O ..)
 have v3:∀τ:Sto,E1 B k ⟨dI.names,iF σ.length i c n ((n % 8:Nat):Int) (.str (S (more n))) (.str (S [fO n]))⟩ τ (mJ (imB 3)) (.str (S (iH n))) τ:=fun τ=>jT0 ok gok (n:=20) (im_e3 ..)
 have s2:S1 B k ⟨dI.names,iF σ.length i c n ((n % 8:Nat):Int) (.str (S (more n))) (.str (S [fO n]))⟩ (τ3 σ v w K1 K2) (exec (imB 2)) .nxt ⟨dI.names,iF σ.length i c n ((n % 8:Nat):Int) (.str (S (more n))) (.str (S [fO n]))⟩ (σ++[⟨v+1,.dct (K1++[(⟨#[c]⟩,.str (S (dO n)))])⟩,⟨v,.dct K2⟩,⟨w,.hid⟩]):=by
  rw[← g1,e2]
  exact @vS B k ok _ _ _ _ _ _ _ _ _ _ (.str (S (dO n))) σ.length ⟨#[c]⟩ ⟨v,.dct K1⟩ K1 (v2 _) (ht _ _) (hl _ _) (iA σ _ 0) rfl h1 l1 w2
 have s3:S1 B k ⟨dI.names,iF σ.length i c n ((n % 8:Nat):Int) (.str (S (more n))) (.str (S [fO n]))⟩ (σ++[⟨v+1,.dct (K1++[(⟨#[c]⟩,.str (S (dO n)))])⟩,⟨v,.dct K2⟩,⟨w,.hid⟩]) (exec (imB 3)) .nxt ⟨dI.names,iF σ.length i c n ((n % 8:Nat):Int) (.str (S (more n))) (.str (S [fO n]))⟩ (τ3 σ (v+1) w (K1++[(⟨#[c]⟩,.str (S (dO n)))]) (K2++[(⟨#[c]⟩,.str (S (iH n)))])):=by
  rw[← g2,e3]
  exact @vS B k ok _ _ _ _ _ _ _ _ _ _ (.str (S (iH n))) (σ.length+1) ⟨#[c]⟩ ⟨v,.dct K2⟩ K2 (v3 _) (hi _ _) (hl _ _) (iA σ _ 1) rfl h2 l2 w3
 rw[im_bs]
 exact @S1.keep B k dI.names _ (iF σ.length i c n ((n % 8:Nat):Int) (.str (S (more n))) (.str (S [fO n]))) _ _ _ _ (iB σ.length i) (@ex4 B k _ _ _ _ _ _ _ _ _ _ _ _ _ _ @s0 @s1 @s2 @s3) (by kernel_rfl!)
end
theorem zL{B:Bs}{k:Nat}{names:List (Str×NameKind)}{params ps:List Str}{args as:List PV}{body:List Stmt}{v w:PV}{σ σ' τ:Sto}{cx:Cx}(hp:params=ps)(ha:args=as)(hl:as.length=ps.length)(h:some (w,τ)=some (v,σ'))(H:S1 B k ⟨names,ps.zip as⟩ σ (execs body) (.ret w) cx τ):
  args.length=params.length∧∃fl cx',S1 B k ⟨names,params.zip args⟩ σ (execs body) fl cx' σ'∧(fl=.ret v∨fl=.nxt∧v=.none):=by
 obtain⟨h1,h2⟩:=Prod.mk.inj (Option.some.inj h)
 subst hp ha h1 h2
 exact⟨hl,.ret w,cx,@H,.inl rfl⟩
set_option maxHeartbeats 1000000
noncomputable def fT(a b c:Nat):List (Str×PV):=[(⟨#[102]⟩,.str (S (dO a))),(⟨#[105]⟩,.str (S (dO b))),(⟨#[108]⟩,.str (S (dO c)))]
noncomputable def jJ(a b c:Nat):List (Str×PV):=[(⟨#[102]⟩,.str (S (iH a))),(⟨#[105]⟩,.str (S (iH b))),(⟨#[108]⟩,.str (S (iH c)))]
noncomputable def gT:Fn:=fun args σ=>one args fun v=>eS v fun i=>opt (bM σ i) fun xs=>three xs fun x y z=>bS x fun a=>bS y fun b=>bS z fun c=>grd (0≤a∧0≤b∧0≤c)
 (some (.tup [.lst σ.length,.lst (σ.length+1)],σ++[⟨3,.dct (fT a.toNat b.toNat c.toNat)⟩,⟨3,.dct (jJ a.toNat b.toNat c.toNat)⟩]))
theorem im_zip:∃elts kk tp p a1 a2 pq pos,stAt dI 1=.For (.Tuple elts kk tp) (.Call (.Name "zip" p) [a1,a2] [] pq) (bN (stAt dI 1)) [] pos∧cH (stAt dI 1)=.Tuple elts kk tp∧(∃q u,a1=.Constant (.str "fil") q u)∧∃q,a2=.Name "numbers" q:=⟨_,_,_,_,_,_,_,_,rfl,rfl,⟨_,_,rfl⟩,_,rfl⟩
theorem watch_at{σ l:Sto}{i:Nat}{c:Cell}(hc:σ[i]?=some c):watch (σ++l) (some (i,c.ver))=true:=by
 have e:∀o:Option Cell,o=some c→(match o with
  |some c'=>Nat.beq c'.ver c.ver
  |none=>false)=true:=fun o h=>by rw[h];exact Nat.beq_refl _
 exact e _ ((List.getElem?_append_left (List.getElem?_eq_some_iff.mp hc).1).trans hc)
section
variable {B:Bs}{k:Nat}{T:Int→Option Str}{E P sp un:Fn}{mg mb:Str→Option Value}(ok:BsOk B)(gok:GlOk B k (G2 T E P (kE sp un)) mg mb)(O:SpOk sp un)
include ok gok O
theorem qH(σ:Sto)(i c n v w:Nat)(K1 K2:List (Str×PV))(cl:Cell)(hc:σ[i]?=some cl)(h1:K1.lookup ⟨#[c]⟩=none)(h2:K2.lookup ⟨#[c]⟩=none)(l1:K1.length≤1000)(l2:K2.length≤1000){elts:List Expr}{kk:Nat}{tp:Pos}(ht:cH (stAt dI 1)=.Tuple elts kk tp)
  {r:List (Nat×PV)} {cx':Cx} {σ':Sto} (H:ZTurns B k (.Tuple elts kk tp) (bN (stAt dI 1)) (σ.length+2) i cl.ver r ⟨dI.names,iB σ.length i⟩ (τ3 σ (v+1) (w+1) (K1++[(⟨#[c]⟩,.str (S (dO n)))]) (K2++[(⟨#[c]⟩,.str (S (iH n)))])) cx' σ'):
  ZTurns B k (.Tuple elts kk tp) (bN (stAt dI 1)) (σ.length+2) i cl.ver ((c,.int n)::r) ⟨dI.names,iB σ.length i⟩ (τ3 σ v w K1 K2) cx' σ':=
 ⟨_,_,_,ht▸im_t σ.length i c n .none,watch_at hc,by rw[show aC (τ3 σ v w K1 K2) (σ.length+2) .hid=τ3 σ v (w+1) K1 K2 from jY σ _ 2 _];exact @im_turn B k T E P sp un mg mb ok gok O σ i c n v (w+1) K1 K2 h1 h2 l1 l2,⟨_,iA σ _ 2,rfl⟩,H⟩
theorem zP(σ:Sto)(i a b c:Nat)(cl:Cell)(hc:σ[i]?=some cl)(hd:cl.d=.lst [.int a,.int b,.int c]):
  S1 B k ⟨dI.names,[("numbers",.lst i)]⟩ σ (execs dI.body) (.ret (.tup [.lst σ.length,.lst (σ.length+1)])) ⟨dI.names,[]⟩ (σ++[⟨3,.dct (fT a b c)⟩,⟨3,.dct (jJ a b c)⟩]):=by
 obtain⟨elts,kk,tp,p,a1,a2,pq,pos,e1,ht,⟨q1,u1,rfl⟩,q2,rfl⟩:=im_zip
 have hl1:(σ++[cE]:Sto).length=σ.length+1:=List.length_append ..
 have hl2:(σ++[cE,cE]:Sto).length=σ.length+2:=List.length_append ..
 have ha:(σ++[cE])++[cE]=σ++[cE,cE]:=List.append_assoc ..
 have s0:S1 B k ⟨dI.names,[("numbers",.lst i)]⟩ σ (exec (stAt dI 0)) .nxt ⟨dI.names,iB σ.length i⟩ (σ++[cE,cE]):=by
  have h:=im_0 T E P sp un 0 i σ fun f c s=>some (f,c,s)
  rw[hl1,ha]at h
  exact @bI B k _ 20 ok mg mb gok _ _ _ _ _ _ h
 have hf:("fil":Str).cps.toList=[102,105,108]:=by decide+kernel
 have s1:S1 B k ⟨dI.names,iB σ.length i⟩ (σ++[cE,cE]) (exec (stAt dI 1)) .nxt ⟨dI.names,iB σ.length i⟩ (τ3 σ 3 3 (fT a b c) (jJ a b c)):=by
  have hes:Es B k ⟨dI.names,iB σ.length i⟩ (σ++[cE,cE]) [.Constant (.str "fil") q1 u1,.Name "numbers" q2] [.str "fil",.lst i] (σ++[cE,cE]):=
   uC (fun _ _ h=>nomatch h) (jT0 ok gok (n:=5) (by kernel_rfl!)) (uC (fun _ _ h=>nomatch h) (oK gok (by decide) (.inl (by kernel_rfl!))) lN0)
  rw[e1]
  refine @st_zip B k _ ok mg mb gok _ _ _ _ _ _ _ p pq pos tp elts kk _ "fil" i cl _ (by kernel_rfl!) hes ((List.getElem?_append_left (List.getElem?_eq_some_iff.mp hc).1).trans hc) hd (by decide+kernel) (show ("fil":Str).cps.size≤3 by decide+kernel) ?_
  rw[hf,hl2,List.append_assoc]
  exact qH ok gok O σ i 102 a 0 0 [] [] cl hc rfl rfl (by decide) (by decide) ht (qH ok gok O σ i 105 b 1 1 [(⟨#[102]⟩,.str (S (dO a)))] [(⟨#[102]⟩,.str (S (iH a)))] cl hc rfl rfl (show 1≤1000 by decide) (show 1≤1000 by decide) ht
   (qH ok gok O σ i 108 c 2 2 [(⟨#[102]⟩,.str (S (dO a))),(⟨#[105]⟩,.str (S (dO b)))] [(⟨#[102]⟩,.str (S (iH a))),(⟨#[105]⟩,.str (S (iH b)))] cl hc rfl rfl (show 2≤1000 by decide) (show 2≤1000 by decide) ht ⟨rfl,rfl⟩))
 have s2:S1 B k ⟨dI.names,iB σ.length i⟩ (τ3 σ 3 3 (fT a b c) (jJ a b c)) (exec (stAt dI 2)) (.ret (.tup [.lst σ.length,.lst (σ.length+1)])) ⟨dI.names,iB σ.length i⟩ ((σ++[⟨3,.dct (fT a b c)⟩,⟨3,.dct (jJ a b c)⟩])++[⟨3,.hid⟩]):=by
  have h:=im_2 T E P sp un 0 σ.length i (τ3 σ 3 3 (fT a b c) (jJ a b c)) fun f c s=>some (f,c,s)
  rw[List.append_assoc]
  exact @bI B k _ 20 ok mg mb gok _ _ _ _ _ _ h
 have hl:(σ++[⟨3,.dct (fT a b c)⟩,⟨3,.dct (jJ a b c)⟩]:Sto).length=σ.length+2:=List.length_append ..
 rw[dI_body]
 have e:=@aP B k _ _ _ _ _ _ _ _ _ @s0 (@aP B k _ _ _ _ _ _ _ _ _ @s1 (@mZ B k _ _ _ _ _ [] _ @s2))
 refine @S1.drop B k _ _ _ _ _ _ _ (@S1.keep B k dI.names _ (iB σ.length i) _ _ _ _ [] @e rfl) (hl▸Nat.le_add_right ..) (fun j c hj=>?_) rfl ?_
 ·rcases Nat.lt_or_ge j σ.length with hlt | hge
  ·rw[List.getElem?_append_left hlt]at hj
   exact .inl hj
  ·right
   obtain⟨d,rfl⟩:=Nat.le.dest hge
   rw[iA]at hj
   match d,hj with
   |0,hj=>obtain rfl:=Option.some.inj hj;rfl
   |1,hj=>obtain rfl:=Option.some.inj hj;rfl
 ·rw[hl]
  show (Nat.blt σ.length (σ.length+2)&&(Nat.blt (σ.length+1) (σ.length+2)&&true))=true
  rw[show Nat.blt σ.length (σ.length+2)=true from Nat.ble_eq_true_of_le (Nat.le_succ _),show Nat.blt (σ.length+1) (σ.length+2)=true from Nat.ble_eq_true_of_le (Nat.le_refl _)]
  rfl
theorem eZ0{a:Addr}{fd:FuncData}(D:DefAt B a fd dI.names dI.params dI.body):FnOk B (k+1) (.ref a) gT:=pW ok D fun args σ v σ' h=>one_el h fun w e h=>kP h fun i ei h=>aY h fun xs hx h=>kM0 h fun x y z exs h=>jZ h fun a ea h=>jZ h fun b eb h=>jZ h fun c ec h=>cV h fun hg h=>iP (tP hx) fun cl hcl hd=>zL (as:=[.lst i]) gN0 (e.trans (by rw[ei])) rfl h (@zP B k T E P sp un mg mb ok gok O σ i a.toNat b.toNat c.toNat cl hcl (hd.trans (by rw[exs,ea,eb,ec,Int.toNat_of_nonneg hg.1,Int.toNat_of_nonneg hg.2.1,Int.toNat_of_nonneg hg.2.2])))
end
set_option maxHeartbeats 1000000
noncomputable abbrev dF:DefP:=xR p3 "_law_folded"
theorem dF_body:dF.body=[stAt dF 0,stAt dF 1,stAt dF 2]:=by kernel_rfl!
theorem fA0:dF.params=(["word","typed"]:List Str):=by kernel_rfl!
noncomputable def cL:Cell:=⟨0,.lst []⟩
noncomputable def fL0(w:Str)(t:Nat):LE:=[("word",.str w),("typed",.lst t)]
noncomputable def fL1(w:Str)(t s:Nat):LE:=("seen",.lst s)::fL0 w t
noncomputable def fL2(w:Str)(t s c:Nat):LE:=("sign",.str ⟨#[c]⟩)::fL1 w t s
noncomputable def fL3(w:Str)(t s c:Nat):LE:=("hidden",.bool (gN (c:Int)))::fL2 w t s c
noncomputable def eFI:Expr:=dQ (stAt dF 1)
theorem app_at{β:Type}{G:Gl}{τ:Sto}{s:Nat}{c:Cell}{L:List PV}(hc:τ[s]?=some c)(hd:c.d=.lst L)(hl:L.length≤10000)(x:PV)(K:PV→Sto→Option β):aU G (.lst s) "append" [x] τ K=K .none (aC τ s (.lst (L++[x]))):=by
 obtain⟨v,d⟩:=c
 dsimp only at hd
 subst hd
 show opt τ[s]? _=_
 rw[hc]
 exact gp hl
theorem hP0{τ:Sto}{s:Nat}{c:Cell}{L:List PV}(hc:τ[s]?=some c)(hd:c.d=.lst L):aI τ (.lst s)=true:=by
 show fX τ[s]? true (fun c=>xP τ c.d)=true
 rw[hc]
 show xP τ c.d=true
 rw[hd]
 rfl
section
variable {β:Type}(T:Int→Option Str)(E P:Fn)(n:Nat)(w:Str)(t s c:Nat)
theorem fo_0(σ:Sto)(k:Fl→Cx→Sto→Option β):exK (G1 T E P) (n+20) ⟨dF.names,fL0 w t⟩ σ (stAt dF 0) k=k .nxt ⟨dF.names,fL1 w t σ.length⟩ (σ++[cL]):=by kernel_rfl!
theorem fo_1s:∃pos,stAt dF 1=.For (cH (stAt dF 1)) eFI (bN (stAt dF 1)) [] pos∧cP eFI (cH (stAt dF 1))=true:=⟨_,rfl,rfl⟩
theorem fo_1it:ItIs eFI:=fun β G n cx σ k=>by kernel_rfl!
theorem fo_1j:vI eFI:=fun β G n cx σ k=>by kernel_rfl!
theorem fo_1e:qW eFI="":=by kernel_rfl!
theorem fo_1l:aX0 ⟨dF.names,fL1 w t s⟩ (bU eFI):=fun β G n σ k=>by kernel_rfl!
theorem fo_1i(σ:Sto)(k:List PV→Option (Nat×Nat)→Sto→Option β):bP (G1 T E P) (n+5) ⟨dF.names,fL1 w t s⟩ σ (lcI (bU eFI)) k=k (signs w) none σ:=by kernel_rfl!
noncomputable def fC(w:Str)(t s:Nat):LE:=capt ⟨dF.names,fL1 w t s⟩ (lcN (bU eFI))
theorem fo_1a(v:PV):aH ⟨lcN (bU eFI),fC w t s⟩ (lcT (bU eFI)) v=some ⟨lcN (bU eFI),("letter",v)::fC w t s⟩:=by kernel_rfl!
theorem fo_1b(u v:PV):aH ⟨lcN (bU eFI),("letter",u)::fC w t s⟩ (lcT (bU eFI)) v=some ⟨lcN (bU eFI),("letter",v)::fC w t s⟩:=by kernel_rfl!
theorem fo_1c(σ:Sto)(x:PV)(K:Option PV→Sto→Option β):iJ (G1 T E P) (n+20) ⟨lcN (bU eFI),("letter",x)::fC w t s⟩ σ (bU eFI) K=bT (.lst t) x σ fun v=>K (some v) σ:=by kernel_rfl!
theorem fo_1t(v:PV):aH ⟨dF.names,fL1 w t s⟩ (cH (stAt dF 1)) v=some ⟨dF.names,("sign",v)::fL1 w t s⟩:=by kernel_rfl!
theorem fo_t(τ:Sto)(k:Fl→Cx→Sto→Option β):cC (G1 T E P) (n+20) ⟨dF.names,fL2 w t s c⟩ τ (bN (stAt dF 1)) k=onB (decide (gN (c:Int)=false))
  (aR (b3F T [.str ⟨#[c]⟩] τ) fun x σ'=>grd (aK τ (.lst s)=aK σ' (.lst s)∧aI τ (.lst s)=true) (aU (G1 T E P) (.lst s) "append" [x] σ' fun _ σ''=>k .nxt ⟨dF.names,fL3 w t s c⟩ σ''))
  (onB (!(decide (gN (c:Int)=true))) (grd (aK τ (.lst s)=aK τ (.lst s)∧aI τ (.lst s)=true) (aU (G1 T E P) (.lst s) "append" [.str "?"] τ fun _ σ''=>k .nxt ⟨dF.names,fL3 w t s c⟩ σ'')) (k .nxt ⟨dF.names,fL3 w t s c⟩ τ)):=by kernel_rfl!
theorem fo_2r:RetIs (stAt dF 2):=fun β G n cx σ k=>by kernel_rfl!
theorem fo_2j:vI (hY0 (stAt dF 2)):=fun β G n cx σ k=>by kernel_rfl!
theorem fo_2e:qW (hY0 (stAt dF 2))="":=by kernel_rfl!
theorem fo_2x(σ:Sto)(k:PV→Sto→Option β):evK (G1 T E P) (n+5) ⟨dF.names,fL1 w t s⟩ σ (bU (hY0 (stAt dF 2))) k=k (.lst s) σ:=by kernel_rfl!
end
noncomputable def bW(T:Int→Option Str)(c:Nat):Option Str:=if gN (c:Int)=true then none else bG0 T c
noncomputable def okC(T:Int→Option Str)(c:Nat):Prop:=gN (c:Int)=true∨(gN (c:Int)=false∧∃x,bG0 T c=some x)
theorem pT{T:Int→Option Str}{c:Nat}(h:gN (c:Int)=true):bW T c=none:=if_pos h
theorem zR{T:Int→Option Str}{c:Nat}{y:Str}(h:gN (c:Int)=false)(hy:bG0 T c=some y):bW T c=some y:=(if_neg (by rw[h];exact Bool.false_ne_true)).trans hy
section
variable {B:Bs}{k:Nat}{T:Int→Option Str}{E P:Fn}{mg mb:Str→Option Value}(ok:BsOk B)(gok:GlOk B k (G1 T E P) mg mb)(w:Str)(t:Nat)(σ:Sto)(g:Cell)
include ok gok
theorem fo_turn(c v:Nat)(L:List PV)(hc:okC T c)(hL:L.length≤10000):∃v',S1 B k ⟨dF.names,fL2 w t σ.length c⟩ (σ++[⟨v,.lst L⟩,g]) (execs (bN (stAt dF 1))) .nxt ⟨dF.names,fL1 w t σ.length⟩ (σ++[⟨v',.lst (L++(bW T c).toList.map .str)⟩,g]):=by
 have hs:(σ++[⟨v,.lst L⟩,g])[σ.length]?=some ⟨v,.lst L⟩:=iA σ _ 0
 have h:=fo_t T E P 0 w t σ.length c (σ++[⟨v,.lst L⟩,g]) fun f c s=>some (f,c,s)
 have fin:∀v' L',cC (G1 T E P) 20 ⟨dF.names,fL2 w t σ.length c⟩ (σ++[⟨v,.lst L⟩,g]) (bN (stAt dF 1)) (fun f c s=>some (f,c,s))=some (.nxt,⟨dF.names,fL3 w t σ.length c⟩,σ++[⟨v',.lst L'⟩,g])→
   S1 B k ⟨dF.names,fL2 w t σ.length c⟩ (σ++[⟨v,.lst L⟩,g]) (execs (bN (stAt dF 1))) .nxt ⟨dF.names,fL1 w t σ.length⟩ (σ++[⟨v',.lst L'⟩,g]):=fun v' L' h=>@S1.keep B k dF.names _ (fL3 w t σ.length c) _ _ _ _ (fL1 w t σ.length) (@qE B k _ 20 ok mg mb gok _ _ _ _ _ _ h) (by kernel_rfl!)
 rcases hc with hb | ⟨hb,y,hy⟩
 ·rw[pT hb]
  refine⟨v,@fin v _ (h.trans ?_)⟩
  rw[hb,show L++(none:Option Str).toList.map PV.str=L from List.append_nil L]
  rfl
 ·rw[zR hb hy]
  refine⟨v+1,@fin (v+1) _ (h.trans ?_)⟩
  have e:b3F T [.str ⟨#[c]⟩] (σ++[⟨v,.lst L⟩,g])=some (.str y,σ++[⟨v,.lst L⟩,g]):=by
   show opt (bG0 T c) (fun x=>some (PV.str x,(σ++[⟨v,.lst L⟩,g]:Sto)))=_
   rw[hy]
   rfl
  rw[hb,e]
  show grd _ (aU (G1 T E P) (.lst σ.length) "append" [.str y] _ _)=_
  rw[gp ⟨rfl,hP0 hs rfl⟩,app_at hs rfl hL,show aC (σ++[⟨v,.lst L⟩,g]) σ.length (.lst (L++[.str y]))=σ++[⟨v+1,.lst (L++[.str y])⟩,g]from jY σ _ 0 _]
  rfl
theorem cZ0:∀(cs:List Nat) (v:Nat) (L:List PV),(∀c∈cs,okC T c)→L.length+cs.length≤10000→
  ∃v',oI B k ⟨dF.names,fL1 w t σ.length⟩ (σ++[⟨v,.lst L⟩,g]) (cH (stAt dF 1)) (bN (stAt dF 1)) none (cs.map fun c=>.str ⟨#[c]⟩) .nxt ⟨dF.names,fL1 w t σ.length⟩ (σ++[⟨v',.lst (L++(cs.filterMap (bW T)).map .str)⟩,g])
 |[],v,L,_,_=>⟨v,by rw[show L++(([]:List Nat).filterMap (bW T)).map PV.str=L from List.append_nil L];exact iG ok rfl⟩
 |c::cs,v,L,hc,hl=>by
  rw[List.length_cons]at hl
  obtain⟨v1,H1⟩:=fo_turn ok gok w t σ g c v L (hc c List.mem_cons_self) (by lia)
  have hle:(L++(bW T c).toList.map PV.str).length+cs.length≤10000:=by
   rw[List.length_append,List.length_map]
   cases bW T c with
   |none=>exact Nat.le_trans (Nat.le_succ _) hl
   |some y=>show L.length+1+cs.length≤_;lia
  obtain⟨v2,H2⟩:=cZ0 cs v1 _ (fun d hd=>hc d (List.mem_cons_of_mem _ hd)) hle
  refine⟨v2,?_⟩
  have e:L++(bW T c).toList.map PV.str++(cs.filterMap (bW T)).map .str=L++((c::cs).filterMap (bW T)).map .str:=by
   rw[List.append_assoc,← List.map_append]
   cases hf:bW T c with
   |none=>rw[List.filterMap_cons_none hf];rfl
   |some y=>rw[List.filterMap_cons_some hf];rfl
  rw[← e]
  exact fA ok rfl (fo_1t w t σ.length (.str ⟨#[c]⟩)) @H1 H2
end
set_option maxHeartbeats 1000000
noncomputable def rD(kvs:List (Str×PV)):List Nat→Option (List (List Nat))
 |[]=>some []
 |c::cs=>opt (kvs.lookup ⟨#[c]⟩) fun v=>fB v fun s=>opt (rD kvs cs) fun r=>some (s.cps.toList::r)
noncomputable def lA0(T:Int→Option Str)(c:Nat):Bool:=gN (c:Int) || (bG0 T c).isSome
theorem okB2_t{T:Int→Option Str}{c:Nat}(h:lA0 T c=true):okC T c:=by
 unfold lA0 at h
 cases hb:gN (c:Int)with
 |true=>exact .inl hb
 |false=>
  rw[hb,Bool.false_or]at h
  exact .inr ⟨hb,Option.isSome_iff_exists.mp h⟩
noncomputable def wO{β:Type}(d:CD)(f:List (Str×PV)→Option β):Option β:=match d with
 |.dct kvs=>f kvs
 |_=>none
theorem zZ{β:Type}{r:β}{d:CD}{f:List (Str×PV)→Option β}(h:wO d f=some r):∃kvs,d=.dct kvs∧f kvs=some r:=by
 cases d with
 |dct kvs=>exact⟨kvs,rfl,h⟩
 |_=>exact nos h
theorem wM{C:Prop}{β:Type}{r:β}{d:CD}{f:List (Str×PV)→Option β}(h:wO d f=some r)(q:∀kvs,d=.dct kvs→f kvs=some r→C):C:=iP (zZ h) q
noncomputable def dLk(kvs:List (Str×PV)):PV→Option PV
 |.str x=>kvs.lookup x
 |_=>none
noncomputable def rsL(T:Int→Option Str)(ls:List (List Nat)):List Str:=ls.flatten.filterMap (bW T)
noncomputable abbrev foOk(T:Int→Option Str)(ls:List (List Nat)):Prop:=ls.length≤9000∧ls.flatten.length≤9000∧ls.flatten.all (lA0 T)=true∧JoinOk "" (rsL T ls)=true
noncomputable def foF(T:Int→Option Str):Fn:=fun args σ=>two args fun a b=>fB a fun w=>eS b fun t=>opt σ[t]? fun cell=>wO cell.d fun kvs=>opt (rD kvs w.cps.toList) fun ls=>grd (foOk T ls) (some (.str (Txt.join "" (rsL T ls)),σ))
theorem xA{kvs:List (Str×PV)}:∀{cs:List Nat} {ls:List (List Nat)},rD kvs cs=some ls→((cs.map fun c=>PV.str ⟨#[c]⟩).filterMap (dLk kvs)=(ls.map S).map .str∧(∀c∈cs,∃v,kvs.lookup ⟨#[c]⟩=some v)∧ls.length=cs.length)
 |[],ls,h=>by obtain rfl:=Option.some.inj h;exact⟨rfl,(fun c h=>nomatch h),rfl⟩
 |c::cs,ls,h=>by
  obtain⟨v,hv,h⟩:=aA h
  obtain⟨s,rfl,h⟩:=bZ h
  obtain⟨r,hr,h⟩:=aA h
  obtain rfl:=Option.some.inj h
  obtain⟨i1,i2,i3⟩:=xA hr
  refine⟨?_,List.forall_mem_cons.mpr ⟨⟨_,hv⟩,i2⟩,congrArg (· +1) i3⟩
  rw[List.map_cons,List.filterMap_cons_some (show dLk kvs (.str ⟨#[c]⟩)=some (.str s) from hv),i1]
  rfl
section
variable {B:Bs}{k:Nat}{T:Int→Option Str}{E P:Fn}{mg mb:Str→Option Value}(ok:BsOk B)(gok:GlOk B k (G1 T E P) mg mb)
include ok gok
theorem aT0(w:Str)(t:Nat)(σ:Sto)(cell:Cell)(kvs:List (Str×PV))(ls:List (List Nat))(hc:σ[t]?=some cell)(hd:cell.d=.dct kvs)(hl:rD kvs w.cps.toList=some ls)(hok:foOk T ls):
  S1 B k ⟨dF.names,fL0 w t⟩ σ (execs dF.body) (.ret (.str (Txt.join "" (rsL T ls)))) ⟨dF.names,[]⟩ σ:=by
 obtain⟨pos,e1,hio⟩:=fo_1s
 obtain⟨o1,o2,o3,o4⟩:=hok
 obtain⟨i1,i2,i3⟩:=xA hl
 have hlt:t < σ.length:=(List.getElem?_eq_some_iff.mp hc).1
 have hc1:(σ++[cL])[t]?=some cell:=(List.getElem?_append_left hlt).trans hc
 have s0:S1 B k ⟨dF.names,fL0 w t⟩ σ (exec (stAt dF 0)) .nxt ⟨dF.names,fL1 w t σ.length⟩ (σ++[cL]):=@bI B k _ 20 ok mg mb gok _ _ _ _ _ _ (fo_0 T E P 0 w t σ _)
 have hjs:qW eFI="":=fo_1e
 have hsum:((ls.map S).map (·.length)).sum≤9000:=by rw[uV];exact o2
 have hj:=gC0 (β:=List PV×Option (Nat×Nat)×Sto) (G:=G1 T E P) (cx:=⟨dF.names,fL1 w t σ.length⟩) (σ:=σ++[cL]) (e:=eFI) (fun v=>("letter",v)::fC w t σ.length) (dLk kvs) 20 (items:=w.cps.toList.map fun c=>PV.str ⟨#[c]⟩) (ts:=ls.map S) fo_1j (fo_1l w t σ.length) 0
  (itK fun l w s=>some (l,w,s)) (fun n K=>(fo_1i T E P n w t σ.length _ K).trans rfl) (fun v _=>fo_1a w t σ.length v) (fun v _ u=>fo_1b w t σ.length u v) (fun v hv n K=>by
   obtain⟨c,hcm,rfl⟩:=List.mem_map.mp hv
   obtain⟨u,hu⟩:=i2 c hcm
   refine (fo_1c T E P n w t σ.length _ _ K).trans ?_
   show opt (σ++[cL])[t]? _=_
   rw[hc1]
   obtain⟨ver,d⟩:=cell
   dsimp only at hd
   subst hd
   show opt (kvs.lookup ⟨#[c]⟩) (fun v=>K (some v) (σ++[cL]))=K (kvs.lookup ⟨#[c]⟩) (σ++[cL])
   rw[hu]
   rfl) i1 (by rw[List.length_map];exact Nat.le_trans o1 (by decide)) (by rw[hjs];exact lY _ _ (Nat.le_trans (Nat.add_le_add hsum (Nat.le_refl _)) (by
    rw[show (Str.ofString "").length=0 from rfl,Nat.mul_zero]
    decide)))
 have hit:bP (G1 T E P) (0+(20+10)+(w.cps.toList.map fun c=>PV.str ⟨#[c]⟩).length+1) ⟨dF.names,fL1 w t σ.length⟩ (σ++[cL]) eFI (fun l w s=>some (l,w,s))=some (ls.flatten.map fun c=>PV.str ⟨#[c]⟩,none,σ++[cL,⟨0,.lst ((ls.map S).map .str)⟩]):=
  (fo_1it ..).trans (hj.trans (by
   rw[hjs,vP,List.append_assoc]
   show some (signs (S ls.flatten),(none:Option (Nat×Nat)),_)=_
   rw[signs_S]
   rfl))
 obtain⟨v',HF⟩:=cZ0 ok gok w t σ ⟨0,.lst ((ls.map S).map .str)⟩ ls.flatten 0 [] (fun c hc=>okB2_t (List.all_eq_true.mp o3 c hc)) (by rw[List.length_nil,Nat.zero_add];exact Nat.le_trans o2 (by decide))
 rw[List.nil_append]at HF
 have s1:S1 B k ⟨dF.names,fL1 w t σ.length⟩ (σ++[cL]) (exec (stAt dF 1)) .nxt ⟨dF.names,fL1 w t σ.length⟩ (σ++[⟨v',.lst ((rsL T ls).map .str)⟩,⟨0,.lst ((ls.map S).map .str)⟩]):=by
  rw[e1]
  exact @bC0 B k _ _ _ _ _ _ _ _ _ _ _ _ hio (wD ok gok hit) HF
 have s2:S1 B k ⟨dF.names,fL1 w t σ.length⟩ (σ++[⟨v',.lst ((rsL T ls).map .str)⟩,⟨0,.lst ((ls.map S).map .str)⟩]) (exec (stAt dF 2)) (.ret (.str (Txt.join "" (rsL T ls)))) ⟨dF.names,fL1 w t σ.length⟩ (σ++[⟨v',.lst ((rsL T ls).map .str)⟩,⟨0,.lst ((ls.map S).map .str)⟩]):=by
  have hs:bM (σ++[⟨v',.lst ((rsL T ls).map .str)⟩,⟨0,.lst ((ls.map S).map .str)⟩]) σ.length=some ((rsL T ls).map .str):=by
   unfold bM
   rw[show (σ++[⟨v',.lst ((rsL T ls).map .str)⟩,⟨0,.lst ((ls.map S).map .str)⟩]:Sto)[σ.length]?=some ⟨v',.lst ((rsL T ls).map .str)⟩ from iA σ _ 0]
  have h:exK (G1 T E P) 20 ⟨dF.names,fL1 w t σ.length⟩ (σ++[⟨v',.lst ((rsL T ls).map .str)⟩,⟨0,.lst ((ls.map S).map .str)⟩]) (stAt dF 2) (fun f c s=>some (f,c,s))=some (.ret (.str (Txt.join "" (rsL T ls))),⟨dF.names,fL1 w t σ.length⟩,σ++[⟨v',.lst ((rsL T ls).map .str)⟩,⟨0,.lst ((ls.map S).map .str)⟩]):=
   (exK_ret 19 _ _ _ _ fo_2r).trans ((fo_2j _ _ 16 _ _ _).trans ((fo_2x T E P 12 w t σ.length _ _).trans (by rw[fo_2e];exact dE0 "" _ _ σ.length _ hs o4)))
  exact @bI B k _ 20 ok mg mb gok _ _ _ _ _ _ h
 rw[dF_body]
 have e:=@aP B k _ _ _ _ _ _ _ _ _ @s0 (@aP B k _ _ _ _ _ _ _ _ _ @s1 (@mZ B k _ _ _ _ _ [] _ @s2))
 exact @S1.drop B k _ _ _ _ _ _ _ (@S1.keep B k dF.names _ (fL1 w t σ.length) _ _ _ _ [] @e rfl) (Nat.le_refl _) (fun i c h=>.inl h) rfl rfl
theorem gZ0{a:Addr}{fd:FuncData}(D:DefAt B a fd dF.names dF.params dF.body):FnOk B (k+1) (.ref a) (foF T):=pW ok D fun args σ v σ' h=>two_el h fun x y e h=>zC h fun w ew h=>kP h fun t et h=>aY h fun cell hc h=>wM h fun kvs hd h=>aY h fun ls hl h=>cV h fun hok h=>zL (as:=[.str w,.lst t]) fA0 (e.trans (by rw[ew,et])) rfl h
  (@aT0 B k T E P mg mb ok gok w t σ cell kvs ls hc hd hl hok)
end
set_option maxHeartbeats 1000000
noncomputable abbrev dD:DefP:=xR p3 "_law_down"
theorem dD_body:dD.body=[stAt dD 0,stAt dD 1]:=by kernel_rfl!
theorem eN0:dD.params=(["pile","letter","images","deep"]:List Str):=by kernel_rfl!
noncomputable def whT(s:Stmt):Expr:=eJ s (.Name "" default) (wh:=fun t _=>t)
noncomputable def whB(s:Stmt):List Stmt:=eJ s [] (wh:=fun _ b=>b)
noncomputable def dL0(p:Nat)(l:Str)(m:Nat)(d:Int):LE:=[("pile",.lst p),("letter",.str l),("images",.lst m),("deep",.int d)]
noncomputable def dL1(p:Nat)(l:PV)(m:Nat)(d:Int):LE:=[("letter",l),("pile",.lst p),("images",.lst m),("deep",.int d)]
theorem dn_0s:∃pos,stAt dD 0=.While (whT (stAt dD 0)) (whB (stAt dD 0)) [] pos:=⟨_,rfl⟩
section
variable {β:Type}(T:Int→Option Str)(E P:Fn)(n p:Nat)(l:Str)(m:Nat)(d:Int)
theorem dn_t(τ:Sto)(k:Bool→Sto→Option β):dH (G1 T E P) (n+20) ⟨dD.names,dL0 p l m d⟩ τ (whT (stAt dD 0)) k=
 grd (aK τ (.lst p)=aK τ (.lst p)∧aI τ (.lst p)=true) (aU (G1 T E P) (.lst p) "part_count" [] τ fun v τ'=>eD .Lt τ' v (.int d) fun t=>k t τ'):=by kernel_rfl!
theorem dn_b(τ:Sto)(k:Fl→Cx→Sto→Option β):cC (G1 T E P) (n+20) ⟨dD.names,dL0 p l m d⟩ τ (whB (stAt dD 0)) k=
 bT (.lst m) (.str l) τ fun s=>grd (aK τ (.lst p)=aK τ (.lst p)∧aI τ (.lst p)=true) (aU (G1 T E P) (.lst p) "push" [.str "",s] τ fun _ τ'=>bT (.lst m) (.str l) τ' fun s=>bT s (.int 0) τ' fun c=>k .nxt ⟨dD.names,dL1 p c m d⟩ τ'):=by kernel_rfl!
theorem dn_1(τ:Sto)(k:Fl→Cx→Sto→Option β):exK (G1 T E P) (n+20) ⟨dD.names,dL0 p l m d⟩ τ (stAt dD 1) k=k (.ret (.str l)) ⟨dD.names,dL0 p l m d⟩ τ:=by kernel_rfl!
end
section
variable {β:Type}{G:Gl}{τ:Sto}{p m di:Nat}{c:Cell}{xs:List PV}
theorem uD(hm:G.meth "part_count"=some lT)(hc:τ[p]?=some c)(hd:c.d=.acc di xs)(hl:xs.length≤100000)(K:PV→Sto→Option β):aU G (.lst p) "part_count" [] τ K=K (.int xs.length) τ:=by
 obtain⟨v,d⟩:=c
 dsimp only at hd
 subst hd
 show opt τ[p]? _=_
 rw[hc]
 show opt (G.meth "part_count") (fun F=>aR (F [.lst p] τ) K)=_
 rw[hm]
 show aR (opt τ[p]? _) K=_
 rw[hc]
 show aR (grd (xs.length≤100000) _) K=_
 rw[gp hl]
 rfl
theorem vA(hm:G.meth "push"=some pushF)(hc:τ[p]?=some c)(hd:c.d=.acc di xs)(hok:aI τ (.lst p)=true)(hl:xs.length≤10000)(a b:PV)(K:PV→Sto→Option β):aU G (.lst p) "push" [a,b] τ K=K .none (aC τ p (.acc di (xs++[.tup [a,b]]))):=by
 obtain⟨v,d⟩:=c
 dsimp only at hd
 subst hd
 show opt τ[p]? _=_
 rw[hc]
 show opt (G.meth "push") (fun F=>aR (F [.lst p,a,b] τ) K)=_
 rw[hm]
 show aR (grd (aI τ (.lst p)=true) (opt τ[p]? _)) K=_
 rw[gp hok,hc]
 show aR (grd (xs.length≤10000) _) K=_
 rw[gp hl]
 rfl
theorem gJ{kvs:List (Str×PV)}{l:Str}{v:PV}(hc:τ[m]?=some c)(hd:c.d=.dct kvs)(hv:kvs.lookup l=some v)(k:PV→Option β):bT (.lst m) (.str l) τ k=k v:=by
 obtain⟨w,d⟩:=c
 dsimp only at hd
 subst hd
 show opt τ[m]? _=_
 rw[hc]
 show opt (kvs.lookup l) k=_
 rw[hv]
 rfl
theorem fits_nat{k:Nat}(h:k≤100000):fitsSsize (k:Int)=true:=by
 have h1:(k:Int) < 9223372036854775808:=Int.lt_of_le_of_lt (Int.ofNat_le.mpr h) (by decide)
 have h0:(-9223372036854775808:Int)≤k:=Int.le_trans (by decide) (Int.natCast_nonneg k)
 unfold fitsSsize
 simp -iota [h0,h1]
theorem mC{l:List Nat}{i:Nat}(hi:i < l.length)(hl:l.length≤100000)(k:PV→Option β):bT (.str (S l)) (.int (i:Int)) τ k=k (.str (S [l.getD i 0])):=by
 show grd (fitsSsize (i:Int)=true∧(Txt.charAt (S l) (i:Int)).isSome=true) (k (.str (Txt.item (S l) (i:Int))))=_
 rw[iE0]
 exact gp ⟨fits_nat (Nat.le_trans (Nat.le_of_lt hi) hl),by rw[pX,List.getElem?_eq_getElem hi];rfl⟩
theorem acc_ne(hc:τ[p]?=some c)(hd:c.d=.acc di xs)(hok:aI τ (.lst p)=true):p≠di∧fX τ[di]? false (fun c=>tG c.d)=true:=by
 have h:fX τ[p]? true (fun c=>xP τ c.d)=true:=hok
 rw[hc]at h
 have h2:xP τ c.d=true:=h
 rw[hd]at h2
 refine⟨fun e=>?_,h2⟩
 have h3:fX τ[di]? false (fun c=>tG c.d)=true:=h2
 rw[← e,hc]at h3
 have h4:tG c.d=true:=h3
 rw[hd]at h4
 exact Bool.false_ne_true h4
theorem uE(hne:p≠m)(d:CD):(aC τ p d)[m]?=τ[m]?:=by
 unfold aC
 rw[List.getElem?_modify]
 simp -iota [hne]
theorem yR(hc:τ[p]?=some c)(d:CD):(aC τ p d)[p]?=some ⟨c.ver+1,d⟩:=by
 unfold aC
 rw[List.getElem?_modify]
 simp -iota [hc]
theorem eQ0(hc:τ[p]?=some c)(hd:c.d=.acc di xs)(hok:aI τ (.lst p)=true)(ys:List PV):aI (aC τ p (.acc di ys)) (.lst p)=true:=by
 obtain⟨hne,h⟩:=acc_ne hc hd hok
 show fX (aC τ p (.acc di ys))[p]? true (fun c=>xP (aC τ p (.acc di ys)) c.d)=true
 rw[yR hc]
 show fX (aC τ p (.acc di ys))[di]? false (fun c=>tG c.d)=true
 rw[uE hne]
 exact h
noncomputable def jW(σ:Sto)(i n:Nat)(d:CD):Sto:=σ.modify i fun c=>⟨c.ver+n,d⟩
theorem gK0(hc:τ[p]?=some c):jW τ p 0 c.d=τ:=by
 apply List.ext_getElem?
 intro j
 unfold jW
 rw[List.getElem?_modify]
 by_cases h:p=j
 ·subst h;rw[hc];simp -iota
 ·simp -iota [h]
theorem gT0(n:Nat)(d d':CD):jW (aC τ p d) p n d'=jW τ p (n+1) d':=by
 unfold jW aC
 rw[List.modify_modify_eq]
 congr 1
 funext c
 show (⟨c.ver+1+n,d'⟩:Cell)=⟨c.ver+(n+1),d'⟩
 rw[Nat.add_assoc,Nat.add_comm 1]
end
noncomputable def jQ(kvs:List (Str×PV)):Nat→Str→Option (List PV×Str)
 |0,l=>some ([],l)
 |n+1,l=>opt (kvs.lookup l) fun v=>fB v fun s=>opt s.cps.toList.head? fun c=>grd (s.length≤1000) (opt (jQ kvs n ⟨#[c]⟩) fun r=>some (.tup [.str "",.str s]::r.1,r.2))
noncomputable def four{α β:Type}(l:List α)(f:α→α→α→α→Option β):Option β:=match l with
 |[]=>none
 |a::l=>three l fun b c d=>f a b c d
theorem gA0{α β:Type}{r:β}{l:List α}{f:α→α→α→α→Option β}(h:four l f=some r):∃a b c d,l=[a,b,c,d]∧f a b c d=some r:=by
 cases l with
 |nil=>exact nos h
 |cons a l=>
  obtain⟨b,c,d,e,h⟩:=iY h
  exact⟨a,b,c,d,by rw[e],h⟩
theorem four_el{C:Prop}{α β:Type}{r:β}{l:List α}{f:α→α→α→α→Option β}(h:four l f=some r)(q:∀a b c d,l=[a,b,c,d]→f a b c d=some r→C):C:=(gA0 h).elim fun a h=>h.elim fun b h=>h.elim fun c h=>iP h (q a b c)
noncomputable def aG:Fn:=fun args σ=>four args fun a b c d=>eS a fun p=>fB b fun l=>eS c fun m=>bS d fun dd=>opt σ[p]? fun cp=>rR cp.d fun di xs=>opt σ[m]? fun cm=>wO cm.d fun kvs=>grd (aI σ (.lst p)=true∧(xs.length:Int)≤dd∧dd≤9000) (opt (jQ kvs (dd.toNat - xs.length) l) fun r=>some (.str r.2,jW σ p (dd.toNat - xs.length) (.acc di (xs++r.1))))
section
variable {B:Bs}{k:Nat}{T:Int→Option Str}{E P:Fn}{mg mb:Str→Option Value}(ok:BsOk B)(gok:GlOk B k (G1 T E P) mg mb)(p m di:Nat)(d:Nat)(hd9:d≤9000)(kvs:List (Str×PV))
include ok gok hd9
theorem dn_loop:∀(n:Nat) (l l':Str) (ys xs:List PV) (τ:Sto) (cp cm:Cell),jQ kvs n l=some (ys,l')→τ[p]?=some cp→cp.d=.acc di xs→τ[m]?=some cm→cm.d=.dct kvs→aI τ (.lst p)=true→xs.length+n=d→
  eF B k ⟨dD.names,dL0 p l m (d:Int)⟩ τ (whT (stAt dD 0)) (whB (stAt dD 0)) .nxt ⟨dD.names,dL0 p l' m (d:Int)⟩ (jW τ p n (.acc di (xs++ys))):=fun n=>by
 have tst:∀(l:Str) (xs:List PV) (τ:Sto) (cp:Cell),τ[p]?=some cp→cp.d=.acc di xs→aI τ (.lst p)=true→xs.length≤d→Tr B k ⟨dD.names,dL0 p l m (d:Int)⟩ τ (whT (stAt dD 0)) (decide ((xs.length:Int) < (d:Int))) τ:=fun l xs τ cp hc hcd hok hle=>kH ok gok (n:=20) ((dn_t T E P 0 p l m d τ fun v s=>some (v,s)).trans ((gp ⟨rfl,hok⟩).trans (uD rfl hc hcd (Nat.le_trans hle (Nat.le_trans hd9 (by decide))) _)))
 induction n with
 |zero=>
  intro l l' ys xs τ cp cm h hc hcd hm hmd hok hn
  obtain⟨rfl,rfl⟩:=Prod.mk.inj (Option.some.inj h)
  have ht:=tst l xs τ cp hc hcd hok (Nat.le_of_eq hn)
  rw[decide_eq_false (Int.not_lt.mpr (Int.ofNat_le.mpr (Nat.le_of_eq (show d=xs.length from hn.symm))))]at ht
  rw[List.append_nil,← hcd,gK0 hc]
  exact gX ht
 |succ n ih=>
  intro l l' ys xs τ cp cm h hc hcd hm hmd hok hn
  obtain⟨v,hv,h⟩:=aA h
  obtain⟨s,rfl,h⟩:=bZ h
  obtain⟨c,hcs,h⟩:=aA h
  obtain⟨hsl,h⟩:=grd_some h
  obtain⟨⟨ys',l''⟩,hr,h⟩:=aA h
  obtain⟨rfl,rfl⟩:=Prod.mk.inj (Option.some.inj h)
  have hlt:xs.length < d:=hn▸Nat.lt_add_of_pos_right n.succ_pos
  have ht:=tst l xs τ cp hc hcd hok (Nat.le_of_lt hlt)
  rw[decide_eq_true (Int.ofNat_lt.mpr hlt)]at ht
  have hpm:p≠m:=fun e=>by
   rw[e,hm]at hc
   rw[← Option.some.inj hc,hmd]at hcd
   cases hcd
  have hl0:0 < s.cps.toList.length:=by
   cases hs:s.cps.toList with
   |nil=>rw[hs]at hcs;cases hcs
   |cons a r=>exact Nat.succ_pos _
  have hg:s.cps.toList.getD 0 0=c:=by
   cases hs:s.cps.toList with
   |nil=>rw[hs]at hcs;cases hcs
   |cons a r=>rw[hs]at hcs;exact Option.some.inj hcs
  have hb:cC (G1 T E P) 20 ⟨dD.names,dL0 p l m (d:Int)⟩ τ (whB (stAt dD 0)) (fun f c s=>some (f,c,s))=some (.nxt,⟨dD.names,dL1 p (.str ⟨#[c]⟩) m (d:Int)⟩,aC τ p (.acc di (xs++[.tup [.str "",.str s]]))):=by
   refine (dn_b T E P 0 p l m d τ _).trans ((gJ hm hmd hv _).trans ((gp ⟨rfl,hok⟩).trans ((vA rfl hc hcd hok (Nat.le_trans (Nat.le_of_lt hlt) (Nat.le_trans hd9 (by decide))) _ _ _).trans ((gJ ((uE hpm _).trans hm) hmd hv _).trans ((mC (l:=s.cps.toList) (i:=0) hl0 (Nat.le_trans (Nat.le_of_eq (Array.length_toList ..)) (Nat.le_trans hsl (by decide))) _).trans ?_)))))
   rw[hg]
   rfl
  have H1:S1 B k ⟨dD.names,dL0 p l m (d:Int)⟩ τ (execs (whB (stAt dD 0))) .nxt ⟨dD.names,dL0 p ⟨#[c]⟩ m (d:Int)⟩ (aC τ p (.acc di (xs++[.tup [.str "",.str s]]))):=
   @S1.keep B k dD.names _ (dL1 p (.str ⟨#[c]⟩) m (d:Int)) _ _ _ _ (dL0 p ⟨#[c]⟩ m (d:Int)) (@qE B k _ 20 ok mg mb gok _ _ _ _ _ _ hb) (by kernel_rfl!)
  have H2:=ih ⟨#[c]⟩ l'' ys' (xs++[.tup [.str "",.str s]]) (aC τ p (.acc di (xs++[.tup [.str "",.str s]]))) _ cm hr (yR hc _) rfl ((uE hpm _).trans hm) hmd (eQ0 hc hcd hok _) (by rw[List.length_append,← hn];exact Nat.add_right_comm xs.length 1 n)
  rw[gT0,List.append_assoc]at H2
  exact jO ht @H1 H2
theorem kL0(l l':Str)(ys xs:List PV)(σ:Sto)(cp cm:Cell)(hr:jQ kvs (d - xs.length) l=some (ys,l'))(hc:σ[p]?=some cp)(hcd:cp.d=.acc di xs)(hm:σ[m]?=some cm)(hmd:cm.d=.dct kvs)(hok:aI σ (.lst p)=true)(hle:xs.length≤d):
  S1 B k ⟨dD.names,dL0 p l m (d:Int)⟩ σ (execs dD.body) (.ret (.str l')) ⟨dD.names,dL0 p l' m (d:Int)⟩ (jW σ p (d - xs.length) (.acc di (xs++ys))):=by
 obtain⟨pos,e⟩:=dn_0s
 have s0:S1 B k ⟨dD.names,dL0 p l m (d:Int)⟩ σ (exec (stAt dD 0)) .nxt ⟨dD.names,dL0 p l' m (d:Int)⟩ (jW σ p (d - xs.length) (.acc di (xs++ys))):=by
  rw[e]
  exact @qV B k _ _ _ _ _ _ _ _ (dn_loop ok gok p m di d hd9 kvs (d - xs.length) l l' ys xs σ cp cm hr hc hcd hm hmd hok (Nat.add_sub_cancel' hle))
 have s1:S1 B k ⟨dD.names,dL0 p l' m (d:Int)⟩ (jW σ p (d - xs.length) (.acc di (xs++ys))) (exec (stAt dD 1)) (.ret (.str l')) ⟨dD.names,dL0 p l' m (d:Int)⟩ (jW σ p (d - xs.length) (.acc di (xs++ys))):=@bI B k _ 20 ok mg mb gok _ _ _ _ _ _ (dn_1 T E P 0 p l' m d _ _)
 rw[dD_body]
 exact @aP B k _ _ _ _ _ _ _ _ _ @s0 (@mZ B k _ _ _ _ _ [] _ @s1)
end
theorem uH(pre r y:List Nat):hit (pre++r) y (pre++r).length pre.length=y.isPrefixOf r:=by
 unfold hit
 rw[List.drop_left,Bool.eq_iff_iff,Bool.and_eq_true,decide_eq_true_eq,beq_iff_eq,List.isPrefixOf_iff_prefix,List.length_append]
 constructor
 ·rintro ⟨_,h⟩
  exact h▸List.take_prefix ..
 ·intro h
  exact⟨Nat.add_le_add_left h.length_le _,(List.prefix_iff_eq_take.mp h).symm⟩
theorem cut_yes{y r:List Nat}{d:Nat}(h:y.isPrefixOf (d::r)=true):iX y (d::r)=some ((d::r).drop y.length):=if_pos h
theorem cut_no{y r:List Nat}{d:Nat}(h:¬ y.isPrefixOf (d::r)=true):iX y (d::r)=iX y r:=if_neg h
theorem lC(y r:List Nat)(n:Nat):cI r (List.replicate (n+1) y)=match iX y r with
  |some r=>cI r (List.replicate n y)
  |none=>false:=rfl
theorem yZ(x y:List Nat)(hi limit:Nat):∀(l:List Nat) (f f' cnt:Nat),(∀i∈l,f≤i)→(∀i∈l,f'≤i)→dY x y hi limit l f cnt=dY x y hi limit l f' cnt
 |[],_,_,_,_,_=>rfl
 |i::l,f,f',cnt,h,h'=>by
  have e:=yZ x y hi limit l f f' cnt (fun i hi=>h i (List.mem_cons_of_mem _ hi)) fun i hi=>h' i (List.mem_cons_of_mem _ hi)
  rw[dY,dY]
  by_cases hc:cnt < limit∧hit x y hi i=true
  ·rw[if_pos ⟨hc.1,h i List.mem_cons_self,hc.2⟩,if_pos ⟨hc.1,h' i List.mem_cons_self,hc.2⟩]
  ·rw[if_neg fun z=>hc ⟨z.1,z.2.2⟩,if_neg fun z=>hc ⟨z.1,z.2.2⟩,e]
theorem cnt_go(y:List Nat)(hy:y≠[])(limit:Nat):∀(r pre:List Nat) (j n cnt:Nat),j≤r.length→cnt+r.length < limit→
  decide (n≤(dY (pre++r) y (pre++r).length limit (List.range' pre.length (r.length+1)) (pre.length+j) cnt).length)=cI (r.drop j) (List.replicate n y)
 |[],pre,j,n,cnt,hj,hl=>by
  obtain rfl:j=0:=Nat.le_zero.mp hj
  rw[List.length_nil,List.range'_succ,dY,if_neg (fun h=>hy (List.prefix_nil.mp (List.isPrefixOf_iff_prefix.mp ((uH pre [] y).symm.trans h.2.2)))),List.range'_zero]
  cases n with
  |zero=>rfl
  |succ n=>
   rw[lC,List.drop_zero,show iX y []=none from if_neg hy]
   rfl
 |d::r,pre,j,n,cnt,hj,hl=>by
  rw[List.length_cons]at hj hl
  rw[List.length_cons,List.range'_succ,dY]
  have ih:=fun j n cnt h1 h2=>cnt_go y hy limit r (pre++[d]) j n cnt h1 h2
  rw[show (pre++[d])++r=pre++d::r from List.append_assoc ..,show (pre++[d]).length=pre.length+1 from List.length_append ..]at ih
  cases j with
  |succ j=>
   rw[if_neg (fun h=>by have:=h.2.1;lia)]
   have h:=ih j n cnt (by lia) (by lia)
   rw[show pre.length+1+j=pre.length+(j+1) by lia]at h
   exact h
  |zero=>
   rw[List.drop_zero]
   by_cases hp:y.isPrefixOf (d::r)=true
   ·rw[if_pos ⟨by lia,Nat.le_refl _,(uH pre (d::r) y).trans hp⟩,List.length_cons]
    cases n with
    |zero=>rfl
    |succ n=>
     rw[lC,cut_yes hp]
     obtain⟨a,y',rfl⟩:=List.exists_cons_of_ne_nil hy
     have hle:(a::y').length≤(d::r).length:=(List.isPrefixOf_iff_prefix.mp hp).length_le
     rw[List.length_cons,List.length_cons]at hle
     have h:=ih y'.length n (cnt+1) (by lia) (by lia)
     rw[show pre.length+1+y'.length=pre.length+(a::y').length by rw[List.length_cons];lia]at h
     rw[← show (d::r).drop (a::y').length=r.drop y'.length from rfl]at h
     exact (decide_eq_decide.mpr Nat.succ_le_succ_iff).trans h
   ·rw[if_neg (fun h=>hp ((uH pre (d::r) y).symm.trans h.2.2))]
    have h:decide (n≤(dY (pre++d::r) y (pre++d::r).length limit (List.range' (pre.length+1) (r.length+1)) (pre.length+0) cnt).length)=cI r (List.replicate n y):=by
     rw[yZ _ _ _ _ _ (pre.length+0) (pre.length+1+0) cnt (fun i hi=>Nat.le_trans (Nat.le_succ _) (List.mem_range'_1.mp hi).1) fun i hi=>(List.mem_range'_1.mp hi).1]
     exact (ih 0 n cnt (Nat.zero_le _) (by lia)).trans (by rw[List.drop_zero])
    refine h.trans ?_
    cases n with
    |zero=>rfl
    |succ n=>rw[lC,lC,cut_no hp]
theorem jJ0(x y:List Nat)(hy:y≠[])(n:Nat):decide ((Txt.count (S x) (S y):Int)≥(n:Int))=cI x (List.replicate n y):=by
 have h:=cnt_go y hy (x.length+1) x [] 0 n 0 (Nat.zero_le _) (by lia)
 rw[List.nil_append,List.drop_zero]at h
 rw[← h]
 unfold Txt.count
 rw[jN0,S_len]
 exact decide_eq_decide.mpr Int.ofNat_le
set_option maxHeartbeats 1000000
theorem hS0{B:Bs}{k:Nat}{T:Int→Option Str}{E P:Fn}{mg mb:Str→Option Value}(ok:BsOk B)(gok:GlOk B k (G1 T E P) mg mb)(p m di:Nat)(dd:Int)(l:Str)(kvs:List (Str×PV))(xs:List PV)(σ:Sto)(cp cm:Cell)(yl:List PV×Str)(hc:σ[p]?=some cp)(hcd:cp.d=.acc di xs)(hm:σ[m]?=some cm)(hmd:cm.d=.dct kvs)
  (hok:aI σ (.lst p)=true) (h1:(xs.length:Int)≤dd) (h2:dd≤9000) (hr:jQ kvs (dd.toNat - xs.length) l=some yl):
  S1 B k ⟨dD.names,(["pile","letter","images","deep"]:List Str).zip [.lst p,.str l,.lst m,.int dd]⟩ σ (execs dD.body) (.ret (.str yl.2)) ⟨dD.names,dL0 p yl.2 m dd⟩ (jW σ p (dd.toNat - xs.length) (.acc di (xs++yl.1))):=by
 obtain⟨d,rfl⟩:=Int.eq_ofNat_of_zero_le (Int.le_trans (Int.natCast_nonneg _) h1)
 exact @kL0 B k T E P mg mb ok gok p m di d (Int.ofNat_le.mp h2) kvs l yl.2 yl.1 xs σ cp cm hr hc hcd hm hmd hok (Int.ofNat_le.mp h1)
theorem down_ok{B:Bs}{k:Nat}{T:Int→Option Str}{E P:Fn}{mg mb:Str→Option Value}(ok:BsOk B)(gok:GlOk B k (G1 T E P) mg mb){a:Addr}{fd:FuncData}(D:DefAt B a fd dD.names dD.params dD.body):FnOk B (k+1) (.ref a) aG:=pW ok D fun args σ v σ' h=>four_el h fun x y z u e h=>kP h fun p ep h=>zC h fun l el h=>kP h fun m em h=>jZ h fun dd ed h=>aY h fun cp hc h=>accD_el h fun di xs hcd h=>aY h fun cm hm h=>wM h fun kvs hmd h=>cV h fun hg h=>aY h fun yl hr h=>zL (as:=[.lst p,.str l,.lst m,.int dd]) eN0 (e.trans (by rw[ep,el,em,ed])) rfl h (@hS0 B k T E P mg mb ok gok p m di dd l kvs xs σ cp cm yl hc hcd hm hmd hg.1 hg.2.1 hg.2.2 hr)
noncomputable abbrev dT:DefP:=xR p3 "_law_taken"
theorem dT_body:dT.body=[stAt dT 0,stAt dT 1,stAt dT 2]:=by kernel_rfl!
theorem gB0:dT.params=(["text","front","middle","times","back"]:List Str):=by kernel_rfl!
noncomputable def tL0(t f m:Str)(n:Int)(b:Str):LE:=[("text",.str t),("front",.str f),("middle",.str m),("times",.int n),("back",.str b)]
noncomputable def tL1(t f m:Str)(n:Int)(b:Str)(h:Int):LE:=("behind",.int h)::tL0 t f m n b
section
variable {β:Type}(T:Int→Option Str)(E P:Fn)(N:Nat)(t f m:Str)(n:Int)(b:Str)(h:Int)
theorem tk_0(k:Fl→Cx→Sto→Option β):exK (G1 T E P) (N+20) ⟨dT.names,tL0 t f m n b⟩ [] (stAt dT 0) k=grd (t.length≤100000) (grd (b.length≤100000) (k .nxt ⟨dT.names,tL1 t f m n b ((t.length:Int) - (b.length:Int))⟩ [])):=by kernel_rfl!
theorem tk_1(k:Fl→Cx→Sto→Option β):exK (G1 T E P) (N+20) ⟨dT.names,tL1 t f m n b h⟩ [] (stAt dT 1) k=
 grd (f.length≤100000) (grd (t.length≤100000) (onB (!(decide (aJ t none (some (f.length:Int)) none=f))) (k (.ret (.bool false)) ⟨dT.names,tL1 t f m n b h⟩ []) (grd (t.length≤100000) (onB (!(decide (aJ t (some h) none none=b))) (k (.ret (.bool false)) ⟨dT.names,tL1 t f m n b h⟩ [])
  (grd (f.length≤100000) (onB (decide ((f.length:Int) > h)) (k (.ret (.bool false)) ⟨dT.names,tL1 t f m n b h⟩ []) (k .nxt ⟨dT.names,tL1 t f m n b h⟩ []))))))):=by kernel_rfl!
theorem tk_2(k:Fl→Cx→Sto→Option β):exK (G1 T E P) (N+20) ⟨dT.names,tL1 t f m n b h⟩ [] (stAt dT 2) k=
 grd (f.length≤100000) (grd (t.length≤100000) (k (.ret (.bool (decide ((Txt.count (aJ t (some (f.length:Int)) (some h) none) m:Int)≥n)))) ⟨dT.names,tL1 t f m n b h⟩ [])):=by kernel_rfl!
end
theorem pre_dec(f t:List Nat)(_:f.length≤t.length):decide (S (t.take f.length)=S f)=f.isPrefixOf t:=by
 rw[Bool.eq_iff_iff,decide_eq_true_eq,xU,List.isPrefixOf_iff_prefix]
 exact⟨fun e=>e▸List.take_prefix ..,fun e=>(List.prefix_iff_eq_take.mp e).symm⟩
theorem suf_dec(b t:List Nat)(h:b.length≤t.length):decide (S (t.drop (t.length - b.length))=S b)=wY b t:=by
 unfold wY
 rw[decide_eq_true h,Bool.true_and,Bool.eq_iff_iff,decide_eq_true_eq,xU,beq_iff_eq]
theorem gH0(T:Int→Option Str)(E P:Fn)(t f m b:List Nat)(n:Nat)(ht:t.length≤1000)(hf:f.length≤t.length)(hb:b.length≤t.length)(hm:m≠[]):
  cU (G1 T E P) 100 dT [.str (S t),.str (S f),.str (S m),.int (n:Int),.str (S b)] []=some (.bool (rS f (List.replicate n m) b t),[]):=by
 have l1:(S t).length≤100000:=by rw[S_len];exact Nat.le_trans ht (by decide)
 have l2:(S f).length≤100000:=by rw[S_len];exact Nat.le_trans hf (Nat.le_trans ht (by decide))
 have l3:(S b).length≤100000:=by rw[S_len];exact Nat.le_trans hb (Nat.le_trans ht (by decide))
 have hh:((S t).length:Int) - ((S b).length:Int)=((t.length - b.length:Nat):Int):=by rw[S_len,S_len,Int.ofNat_sub hb]
 rw[dV (le:=tL0 (S t) (S f) (S m) (n:Int) (S b)) gB0 rfl rfl,dT_body]
 refine (bG ..).trans ((tk_0 T E P 79 ..).trans ((gp l1).trans ((gp l3).trans ?_)))
 rw[hh]
 refine (bG ..).trans ((tk_1 T E P 78 ..).trans ((gp l2).trans ((gp l1).trans ?_)))
 rw[gp l1,gp l2,S_len,kG0 t f.length hf,pre_dec f t hf,lQ t _ (Nat.sub_le ..),suf_dec b t hb]
 unfold rS
 cases f.isPrefixOf t with
 |false=>rfl
 |true=>
 cases wY b t with
 |false=>rfl
 |true=>
 have hcmp:∀x:Bool,decide (f.length+b.length≤t.length)=x→decide ((f.length:Int) > ((t.length - b.length:Nat):Int))=!x:=fun x h=>by
  rw[← h,← decide_not,decide_eq_decide,gt_iff_lt,Int.ofNat_lt,Nat.sub_lt_iff_lt_add hb,Nat.not_le,Nat.add_comm]
 cases hle:decide (f.length+b.length≤t.length)with
 |true=>
  rw[hcmp _ hle]
  obtain⟨n',e⟩:=Nat.le.dest (of_decide_eq_true hle)
  have e9:t.length - b.length=f.length+n':=by rw[← e,Nat.add_right_comm,Nat.add_sub_cancel]
  refine (bG ..).trans ((tk_2 T E P 77 ..).trans ((gp l2).trans ((gp l1).trans ?_)))
  rw[S_len,e9,sli_ab t f.length n' (e9▸Nat.sub_le ..),jJ0 _ _ hm,List.drop_take,Nat.add_sub_cancel_left]
  rfl
 |false=>
  rw[hcmp _ hle]
  rfl
section
variable {B:Bs}{A:Around}{ρ:List Addr}{σ:Sto}{s:Shared}{E:Value→Shared→Prop}
section
variable {M:Model}{sl:Addr}{vl:Value}{j:Option Int}
theorem sl_sub{Q:Option Int→Shared→Prop}(hs:s.heap.IsSliceOf sl vl .none .none)(h:Q none s):wpAny M A (Builtin.List.listSubscript? (.ref sl)) Q E s:=by
 obtain⟨os,hos,hcs,hds⟩:=hs
 have hTs:s.TypeIs (.ref sl) "slice":=⟨os,hos,hcs⟩
 unfold Builtin.List.listSubscript?
 refine wpAny_bind (wpAny_specialOf hTs slice_no_index ?_)
 simp -iota only[Option.isNone_none,if_true]
 exact wpAny_pure h
theorem xZ{Q:Value×Value×Value→Shared→Prop}(hs:s.heap.IsSliceOf sl vl .none .none)(pl:IsPart vl j)(h:Q (rawPart j,.none,.none) s):wpAny M A (Builtin.List.listSliceParts (.ref sl)) Q E s:=by
 obtain⟨os,hos,hcs,hds⟩:=hs
 rw[listSliceParts_eq]
 refine wpAny_bind (wpAny_field hos hds (x:=.none) rfl (wpAny_bind (wpAny_listPart .none ?_)))
 rw[if_neg (show ¬ ((rawPart none==rawInt 0)=true) from Bool.false_ne_true)]
 exact wpAny_bind (wpAny_field hos hds (x:=vl) rfl (wpAny_bind (wpAny_listPart pl (wpAny_bind (wpAny_field hos hds (x:=.none) rfl (wpAny_bind (wpAny_listPart .none (wpAny_pure h))))))))
end
theorem nO{K:Frag}(C:ClsOk B K){name:Str}{id:String}(hf:findIn K (.ref B.cls) name=some (some (.builtin id)))(x:St B ρ σ s){a:Addr}{o:Obj}(ho:s.heap.get? a=some o)(hc:o.cls=.ref B.cls){args:List Value}{Q:Option Value→Shared→Prop}
  (hb:bindSpecial (.builtin id) (.ref a)=pure (.builtin id,[.ref a])) (h:wpAny (model B.prog B.w) A (call (.builtin id) (.ref a::args)) (fun v=>Q (some v)) E s):wpAny (model B.prog B.w) A (callSpecial? (.ref a) name args) Q E s:=by
 unfold callSpecial?
 refine wpAny_bind (wpAny_bind ((kD ho hc).here ((looks_findIn (C.in x) hf).here ?_)))
 refine wpAny_holding ?_
 rw[hb]
 exact wpAny_bind (wpAny_pure (wpAny_bind (wpAny_mono h (fun _ _ z=>wpAny_pure z) fun _ _ z=>z)))
theorem cE0{K:Frag}(C:ClsOk B K)(hq:noSeq K B.cls=true)(x:St B ρ σ s){a:Addr}{o:Obj}(ho:s.heap.get? a=some o)(hc:o.cls=.ref B.cls){i:Value}{name:Str}{Q:Value→Shared→Prop}(h:Q i s):
  wpAny (model B.prog B.w) A (sequenceKey (.ref a) i name) Q E s:=by
 unfold sequenceKey
 refine wpAny_bind ((kD ho hc).here (wpAny_bind ((anyM_none (C.in x) hq).here ?_)))
 rw[if_pos (show (!false)=true from rfl)]
 exact wpAny_pure h
theorem tQ{K:Frag}(C:ClsOk B K)(hq:noSeq K B.cls=true)(hf:findIn K (.ref B.cls) "__getitem__"=some (some (.builtin "list.__getitem__")))(x:St B ρ σ s){a:Addr}{o:Obj}(ho:s.heap.get? a=some o)(hc:o.cls=.ref B.cls)
  {items:Array Value} {n:Nat} (hd:o.data=.seq items n) {sl:Addr} {vl:Value} {j:Option Int} (hs:s.heap.IsSliceOf sl vl .none .none) (pl:IsPart vl j) (hsz:items.size≤sizeLine) {Q:Value→Shared→Prop}
  (h:Q (.ref s.heap.objs.size) { s with heap:=s.heap.push { cls:=.type "list",data:=.seq (slicePick items j none none) } }):wpAny (model B.prog B.w) A (getItem (.ref a) (.ref sl)) Q E s:=by
 obtain⟨os,hos,hcs,hds⟩:=id hs
 have hTs:s.TypeIs (.ref sl) "slice":=⟨os,hos,hcs⟩
 unfold getItem
 refine wpAny_holding (wpAny_bind (cE0 C hq x ho hc (wpAny_bind (nO C hf x ho hc (slot_list_getitem.bind _) ?_))))
 refine gP (owner:="list") (n:="__getitem__") (by decide+kernel) (by first | exact .inl (by decide+kernel) | exact .inr (by decide+kernel)) (by decide+kernel) (fun A E Q q=>eU C x ho hc q) entry_list_getitem (args_list_getitem _ _) ?_
 show wpAny _ _ (Builtin.List.listSubscript? (.ref sl) >>= _) _ _ s
 refine wpAny_bind (sl_sub hs ?_)
 show wpAny _ _ (typeOf (.ref sl) >>= _) _ _ s
 refine wpAny_bind (wpAny_typeOf hTs ?_)
 rw[if_neg (by decide)]
 refine wpAny_bind (xZ hs pl ?_)
 refine wpAny_bind (m:=Builtin.List.listItems (.ref a)) ?_
 unfold Builtin.List.listItems
 refine wpAny_bind (wpAny_seqItems ho hd (wpAny_pure ?_))
 refine wpAny_bind (wpAny_of_eq (sliceIndices_raw j none none items.size (fun e=>nomatch e)) ?_)
 exact wpAny_bind (wpAny_newObj_type (wpAny_pure ⟨_,rfl,wpAny_pure h⟩) (Nat.le_trans (slicePick_size_le items j none none) hsz))
theorem xX{i n:Nat}(hi:i≤n):sliceBounds (some (i:Int)) none none n=((i:Int),(n:Int),1):=by
 have h1:¬ ((i:Int) < 0):=Int.not_lt.mpr (Int.natCast_nonneg i)
 show (max 0 (min (if (i:Int) < 0 then (i:Int)+n else i) (n:Int)),(n:Int),(1:Int))=_
 rw[if_neg h1,Int.min_eq_left (Int.ofNat_le.mpr hi),Int.max_eq_right (Int.natCast_nonneg i)]
theorem iB0{items:Array Value}{i:Nat}(hi:i≤items.size):items.extract 0 ((i:Nat):Int).toNat++#[]++items.extract (max ((i:Nat):Int) ((items.size:Nat):Int)).toNat items.size=(items.toList.take i).toArray:=by
 rw[Int.max_eq_right (Int.ofNat_le.mpr hi),Int.toNat_natCast,Int.toNat_natCast]
 apply Array.ext'
 simp
theorem uX{K:Frag}(C:ClsOk B K)(hq:noSeq K B.cls=true)(hf:findIn K (.ref B.cls) "__setitem__"=some (some (.builtin "list.__setitem__")))(x:St B ρ σ s){a D:Addr}{items:Array Value}{n:Nat}
  (ho:s.heap.get? a=some { cls:=.ref B.cls,data:=.seq items n,dict:=some D }) {sl:Addr} {t:Tok} {i:Nat} (hs:s.heap.IsSliceOf sl (.int i t) .none .none) (hi:i≤items.size) (hsz:items.size≤10000) {l:Addr} (hl:s.heap.IsList l #[]) (hne:l≠a) {Q:Unit→Shared→Prop}
  (h:∀h' m,h'.get? a=some { cls:=.ref B.cls,data:=.seq (items.toList.take i).toArray m,dict:=some D }→Heap.SameBut a s.heap h'→Q () { s with heap:=h' }):
  wpAny (model B.prog B.w) A (setItem (.ref a) (.ref sl) (.ref l)) Q E s:=by
 obtain⟨os,hos,hcs,hds⟩:=id hs
 have hTs:s.TypeIs (.ref sl) "slice":=⟨os,hos,hcs⟩
 obtain⟨ol,hol,hcl,nl,hdl⟩:=id hl
 unfold setItem
 refine wpAny_holding (wpAny_bind (cE0 C hq x ho rfl (wpAny_bind (nO C hf x ho rfl (slot_list_setitem.bind _) ?_))))
 refine gP (owner:="list") (n:="__setitem__") (by decide+kernel) (by first | exact .inl (by decide+kernel) | exact .inr (by decide+kernel)) (by decide+kernel) (fun A E Q q=>eU C x ho rfl q) entry_list_setitem (args_list_setitem _ _ _) ?_
 show wpAny _ _ (Builtin.List.listSubscript? (.ref sl) >>= _) _ _ s
 refine wpAny_bind (sl_sub hs ?_)
 show wpAny _ _ (typeOf (.ref sl) >>= _) _ _ s
 refine wpAny_bind (wpAny_typeOf hTs ?_)
 rw[if_neg (by decide)]
 refine wpAny_bind (xZ hs (.int i t) ?_)
 show wpAny _ _ (if (a==l)=true then _ else _) _ _ s
 rw[if_neg (by rw[beq_eq_false_iff_ne.mpr (Ne.symm hne)];exact Bool.false_ne_true)]
 refine wpAny_bind ?_
 unfold Builtin.List.listAllItems
 refine wpAny_bind (wpAny_typeOf hl.typeIs ?_)
 rw[if_pos (by decide)]
 unfold Builtin.List.listItems
 refine wpAny_bind (wpAny_seqItems hol hdl (wpAny_pure ?_))
 refine wpAny_bind (wpAny_bind (wpAny_seqItems ho rfl (wpAny_pure ?_)))
 refine wpAny_bind (wpAny_of_eq (sliceIndices_raw (some (i:Int)) none none items.size (fun e=>nomatch e)) ?_)
 rw[xX hi]
 show wpAny _ _ (rule "list.__setitem__.slice" >>= _) _ _ s
 refine wpAny_bind (wpAny_rule ?_)
 show wpAny _ _ (if Builtin.List.listTooLong (items.size+0)=true then _ else _) _ _ s
 rw[if_neg (by unfold Builtin.List.listTooLong;rw[decide_eq_true_eq];exact Nat.not_lt.mpr (Nat.le_trans hsz (by decide)))]
 show wpAny _ _ (updateSeq a (fun xs=>xs.extract 0 ((i:Nat):Int).toNat++#[]++xs.extract (max ((i:Nat):Int) ((items.size:Nat):Int)).toNat xs.size) >>= _) _ _ s
 refine wpAny_bind (wpAny_updateSeq ho rfl ?_ (Nat.le_trans hsz (by decide)) (by rw[iB0 hi,List.size_toArray];exact Nat.le_trans (List.length_take_le' ..) (Nat.le_trans (Nat.le_of_eq (Array.length_toList ..)) (Nat.le_trans hsz (by decide)))))
 have ho':∃m,(s.heap.update a (Obj.mapSeq fun xs=>xs.extract 0 ((i:Nat):Int).toNat++#[]++xs.extract (max ((i:Nat):Int) ((items.size:Nat):Int)).toNat xs.size)).get? a=some { cls:=.ref B.cls,data:=.seq (items.toList.take i).toArray m,dict:=some D }:=
  ⟨_,by rw[Heap.get?_update_self _ ho (by simp[Obj.mapSeq,Obj.isFreed])];unfold Obj.mapSeq;dsimp only;rw[iB0 hi]⟩
 obtain⟨m,ho'⟩:=ho'
 exact wpAny_bind (wpAny_letGo (wpAny_pure ⟨.none,rfl,wpAny_pure (h _ m ho' (Heap.SameBut.update ..))⟩))
end
section
variable {B:Bs}{k:Nat}{σ:Sto}{K:Frag}
structure SlOk (B:Bs) (K:Frag):Prop where
 C:ClsOk B K
 q:noSeq K B.cls=true
 get:findIn K (.ref B.cls) "__getitem__"=some (some (.builtin "list.__getitem__"))
 set:findIn K (.ref B.cls) "__setitem__"=some (some (.builtin "list.__setitem__"))
theorem wU{ρ:List Addr}{h:Heap}:∀(i:Nat) {xs:List PV} {vs:List Value},VRs B ρ h xs vs→VRs B ρ h (xs.drop i) (vs.drop i)
 |0,_,_,r=>r
 |i+1,[],vs,r=>by rw[show vs=[]from r];exact rfl
 |i+1,x::xs,vs,r=>by obtain⟨v,t,rfl,h1,h2⟩:=r;exact wU i h2
theorem wP{ρ:List Addr}{h:Heap}:∀(i:Nat) {xs:List PV} {vs:List Value},VRs B ρ h xs vs→VRs B ρ h (xs.take i) (vs.take i)
 |0,_,_,r=>rfl
 |i+1,[],vs,r=>by rw[show vs=[]from r];exact rfl
 |i+1,x::xs,vs,r=>by obtain⟨v,t,rfl,h1,h2⟩:=r;exact⟨v,_,rfl,h1,wP i h2⟩
theorem sli_acc(ok:BsOk B)(S:SlOk B K){b di i:Nat}{c:Cell}{xs:List PV}(hc:σ[b]?=some c)(hd:c.d=.acc di xs)(hl:xs.length≤10000):SliS B (.lst b) (some (i:Int)) none none σ (.lst σ.length) (σ++[⟨0,.lst (xs.drop i)⟩]):=by
 intro A ρ s value los his sts p va vl vh vs l h c' I x ha el eh es rl rh rs hI
 obtain⟨ops,hops⟩:=@mD los his sts p va (.ref I)
 obtain⟨a,rfl,ha⟩:=ha
 have hcell:=x.cells b c a hc ha
 rw[hd]at hcell
 obtain⟨us,n,D,ho,hr,hD⟩:=hcell
 obtain⟨_,_,_,p1⟩:=dN el rl
 obtain⟨qh,eh',e2,_⟩:=dN eh rh
 obtain⟨qs,es',e3,_⟩:=dN es rs
 cases qh with
 |some _=>cases e2
 |none=>
 cases qs with
 |some _=>cases e3
 |none=>
 subst eh' es'
 unfold subscriptTail
 refine wpAny_bind ?_
 rw[getitemInPython_of_ne (o:=.ref a) (fun e=>nomatch e)]
 refine wpAny_bind (wpAny_bind ((kD ho rfl).here ((looks_findIn (S.C.in x) S.get).here (wpAny_pure (wpAny_bind ?_)))))
 rw[hops]
 refine wpAny_operating (tQ S.C S.q S.get x ho rfl rfl hI p1 (Nat.le_trans (Nat.le_of_eq hr.length) (Nat.le_trans hl (by decide))) (wpAny_bind (wpAny_letTemporaryGo (wpAny_pure ?_))))
 rw[slicePick_from']
 exact lL ok x _ (wU i hr)
theorem st_cut(ok:BsOk B)(S:SlOk B K){cx:Cx}{o e:Expr}{p p2 p3 pos:Pos}{b di i:Nat}{c:Cell}{xs:List PV}(H1:E1 B k cx σ o (.lst b) σ)(H2:E1 B k cx σ e (.int i) σ)(hc:σ[b]?=some c)(hd:c.d=.acc di xs)(hi:i≤xs.length)(hl:xs.length≤10000):
  S1 B k cx σ (exec (.Assign [.Subscript o (.Slice (some e) none none p2) p] (.List [] p3) pos)) .nxt cx (aC σ b (.acc di (xs.take i))):=fun {A X env ρ s Q E} R x f q=>by
 refine wpAny_Assign_Subscript (wpAny_List ?_) rfl
 refine Calls.spliced_nil ⟨Nat.zero_le _,?_⟩
 obtain⟨g1,g2,g3⟩:=x.dead ok (get?_size s.heap)
 obtain⟨x₁,e₁⟩:=x.grow ok (s':={ s with heap:=s.heap.push { cls:=.type "list",data:=.seq #[] } }) rfl x.gens fun a o ho=>Heap.get?_push_of_some _ ho
 have hL:(s.heap.push { cls:=.type "list",data:=.seq #[] }).get? s.heap.objs.size=some { cls:=.type "list",data:=.seq #[] }:=Heap.get?_push_size _ rfl
 refine H1.use R x₁ (f.evo e₁) fun va ρ₂ s₂ x₂ e₂ f₂ r₂=>wpAny_Slice ((oM H2 rfl).use R x₂ f₂ fun vl ρ₃ s₃ x₃ e₃ f₃ r₃=>?_)
 rw[evalPart_none]
 refine wpAny_pure (wpAny_pure ?_)
 obtain⟨a,rfl,ha⟩:=VR.evo e₃ _ r₂
 obtain⟨pv,hp,hv⟩:=r₃
 obtain⟨qq,e5,e6,_⟩:=dN hp hv
 cases qq with
 |none=>cases e6
 |some ii=>
 obtain⟨i',t⟩:=ii
 obtain rfl:i'=(i:Int):=Option.some.inj e6
 subst e5
 have e₀₃:=(e₁.trans e₂).trans e₃
 have hL3:=(e₂.trans e₃).kp.keep _ _ hL g1 g2 (fun h=>nomatch h)
 obtain⟨x₄,e₄⟩:=x₃.grow ok (s':={ s₃ with heap:=s₃.heap.push { cls:=.type "slice",data:=.fields #[.int i t,.none,.none] } }) rfl x₃.gens fun a o ho=>Heap.get?_push_of_some _ ho
 have hcell:=x₄.cells b c a hc ha
 rw[hd]at hcell
 obtain⟨us,n,D,ho,hr,hD⟩:=hcell
 have hul:us.toArray.size=xs.length:=hr.length
 have hne:s.heap.objs.size≠a:=fun h=>(e₂.trans e₃).notin g1 hL (h▸List.mem_of_getElem? ha)
 refine uX S.C S.q S.set x₄ ho (Heap.IsSliceOf.new ..) (by rw[hul];exact hi) (by rw[hul];exact hl) ⟨_,Heap.get?_push_of_some _ hL3,rfl,_,rfl⟩ hne fun h' m ho' hs'=>?_
 obtain⟨x₅,e₅⟩:=x₄.set ok (s':={ s₃ with heap:=h' }) (d:=.acc di (xs.take i)) rfl rfl ha (fun b o hb ho=>hs'.extBut b o hb ho) (fun σ' e=>⟨us.take i,m,D,ho',wP i (VRs.evo e _ hr),hD⟩) ⟨_,ho',fun vs h=>nomatch h⟩
 have ev:=e₀₃.trans (e₄.trans e₅)
 exact q _ _ _ ⟨x₅,ev.weak,f.evo ev,rfl⟩
noncomputable def jA(b i:Nat)(σ:Sto):Option (PV×Sto):=opt σ[b]? fun c=>rR c.d fun di xs=>grd (xs.length≤10000∧i≤xs.length) (some (.lst σ.length,aC (σ++[⟨0,.lst (xs.drop i)⟩]) b (.acc di (xs.take i))))
noncomputable def nT:Fn:=fun args σ=>match args with
 |[]=>none
 |v::l=>eS v fun b=>match l with
  |[]=>jA b 0 σ
  |w::l=>bS w fun i=>grd (0≤i) (pU l (jA b i.toNat σ))
noncomputable def nmP:List (Str×NameKind):=[("self",.local),("i",.local),("popped",.local)]
theorem sJ{cx:Cx}:T1 B k cx σ (evalPart none) σ (Part B none):=fun A X env ρ s R x f=>by rw[evalPart_none];exact wpAny_pure ⟨ρ,x,.refl ..,.none,rfl,rfl⟩
theorem gY0(ok:BsOk B)(S:SlOk B K){mg mb:Str→Option Value}{G:Gl}(gok:GlOk B k G mg mb){a1 a2 a3 a4 a5 a6 b1 b2 b3 b4 b5 b6 c1 c2:Pos}{b di i:Nat}{c:Cell}{xs:List PV}(hc:σ[b]?=some c)(hd:c.d=.acc di xs)(hi:i≤xs.length)(hl:xs.length≤10000):
  ∃cx',S1 B k ⟨nmP,[("self",.lst b),("i",.int i)]⟩ σ (execs [.Assign [.Name "popped" a1] (.Subscript (.Name "self" a2) (.Slice (some (.Name "i" a3)) none none a4) a5) a6,.Assign [.Subscript (.Name "self" b1) (.Slice (some (.Name "i" b2)) none none b3) b4] (.List [] b5) b6,.Return (some (.Name "popped" c1)) c2]) (.ret (.lst σ.length)) cx' (aC (σ++[⟨0,.lst (xs.drop i)⟩]) b (.acc di (xs.take i))):=by
 have nm:∀{x:Str} {v:PV} {le:LE} {τ:Sto} {p:Pos},¬ (x="__debug__"∨x="__classdict__")→le.lookup x=some v→E1 B k ⟨nmP,le⟩ τ (.Name x p) v τ:=fun h1 h2=>oK gok h1 (.inl h2)
 have hlt:b < σ.length:=(List.getElem?_eq_some_iff.mp hc).1
 have h1:S1 B k ⟨nmP,[("self",.lst b),("i",.int i)]⟩ σ (exec (.Assign [.Name "popped" a1] (.Subscript (.Name "self" a2) (.Slice (some (.Name "i" a3)) none none a4) a5) a6)) .nxt ⟨nmP,[("popped",.lst σ.length),("self",.lst b),("i",.int i)]⟩ (σ++[⟨0,.lst (xs.drop i)⟩]):=fun R x f q=>mU ok (oA ok (nm (by decide) rfl) (oM (nm (by decide) rfl) rfl) (sJ (σ:=σ)) (sJ (σ:=σ)) (sli_acc ok S hc hd hl)) rfl rfl R x f q
 exact⟨_,aP h1 (aP (st_cut ok S (nm (by decide) rfl) (nm (by decide) rfl) (by rw[List.getElem?_append_left hlt];exact hc) hd hi hl) (mZ (hZ0 (nm (by decide) rfl))))⟩
end
set_option maxHeartbeats 1000000
noncomputable abbrev dL:DefP:=xR p3 "law"
theorem dL_body:dL.body=[stAt dL 0,stAt dL 1,stAt dL 2,stAt dL 3,stAt dL 4,stAt dL 5,stAt dL 6,stAt dL 7,stAt dL 8,stAt dL 9,stAt dL 10,stAt dL 11,stAt dL 12,stAt dL 13,stAt dL 14,stAt dL 15]:=by kernel_rfl!
theorem sY:dL.params=(["script"]:List Str):=by kernel_rfl!
noncomputable def own2(im fo dn tk:Fn):Str→Option Fn:=fun n=>if n="_law_images" then some im else if n="_law_folded" then some fo else if n="_law_down" then some dn else if n="_law_taken" then some tk else none
noncomputable def GL(T:Int→Option Str)(e:Str→Str→Option Bool)(im fo dn tk:Fn):Gl:=G2 T (elF e) nT (own2 im fo dn tk)
noncomputable def wB(j:Nat):Stmt:=(whB (stAt dL 10)).getD j (stAt dL 10)
theorem wB_eq:whB (stAt dL 10)=[wB 0,wB 1,wB 2,wB 3,wB 4]:=by kernel_rfl!
noncomputable def mB(j:Nat):Stmt:=(ifA (wB 0)).getD j (stAt dL 10)
theorem mB_eq:ifA (wB 0)=[mB 0,mB 1,mB 2,mB 3,mB 4,mB 5,mB 6,mB 7]:=by kernel_rfl!
section
variable (t ro le rd:Str)(sp D fi:Int)
noncomputable def W1:LE:=[("marks",.lst 7),("read",.str rd),("letter",.str le),("pile",.lst 6),("spot",.int sp),("deep",.int D),("text",.str t),("first",.int fi),("root",.str ro),("images",.lst 4),("typed",.lst 3),("numbers",.lst 1)]
noncomputable def W0(re ah:Str):LE:=("rest",.str re)::("ahead",.str ah)::W1 t ro le rd sp D fi
noncomputable def M0(cu:Int):LE:=("cut",.int cu)::W1 t ro le rd sp D fi
noncomputable def M1(cu:Int):LE:=("lower",.lst 8)::M0 t ro le rd sp D fi cu
noncomputable def M3(fr ba wa st:Str)(cu:Int):LE:=("steps",.str st)::("way",.str wa)::("back",.str ba)::("front",.str fr)::M1 t ro le rd sp D fi cu
noncomputable def M4(ah on fr ba wa st:Str)(cu:Int):LE:=("onward",.str on)::("ahead",.str ah)::M3 t ro le rd sp D fi fr ba wa st cu
end
section
variable {β:Type}(T:Int→Option Str)(e:Str→Str→Option Bool)(im fo dn tk:Fn)(n:Nat)(t ro le rd:Str)(sp D fi cu:Int)
theorem w_t(re ah:Str)(σ:Sto)(k:Bool→Sto→Option β):dH (GL T e im fo dn tk) (n+20) ⟨dL.names,W0 t ro le rd sp D fi re ah⟩ σ (whT (stAt dL 10)) k=
 onB (!(decide (re=""))) (grd (rd.length≤100000) (grd (t.length≤100000) (onB (decide ((rd.length:Int) < (t.length:Int))) (k true σ) (k false σ)))) (k false σ):=by kernel_rfl!
theorem m_t(σ:Sto)(k:Bool→Sto→Option β):dH (GL T e im fo dn tk) (n+20) ⟨dL.names,W1 t ro le rd sp D fi⟩ σ (ifT (wB 0)) k=
 grd (rd.length≤100000) (onB (decide (sp≤(rd.length:Int))) (k (decide ((rd.length:Int) < sp+3)) σ) (k false σ)):=by kernel_rfl!
theorem m_0(σ:Sto)(k:Fl→Cx→Sto→Option β):exK (GL T e im fo dn tk) (n+20) ⟨dL.names,W1 t ro le rd sp D fi⟩ σ (mB 0) k=
 bT (.lst 1) (.int 5) σ fun x=>grd (rd.length≤100000) (aV .Add x (.int rd.length) σ fun r σ=>aV .Mod r (.int (D+1)) σ fun r σ=>opt (aH ⟨dL.names,W1 t ro le rd sp D fi⟩ (dB (mB 0)) r) fun cx'=>k .nxt cx' σ):=by kernel_rfl!
theorem m_0t:aH ⟨dL.names,W1 t ro le rd sp D fi⟩ (dB (mB 0)) (.int cu)=some ⟨dL.names,M0 t ro le rd sp D fi cu⟩:=by kernel_rfl!
theorem m_1(σ:Sto)(k:Fl→Cx→Sto→Option β):exK (GL T e im fo dn tk) (n+20) ⟨dL.names,M0 t ro le rd sp D fi cu⟩ σ (mB 1) k=
 grd (aK σ (.lst 6)=aK σ (.lst 6)∧aI σ (.lst 6)=true) (aU (GL T e im fo dn tk) (.lst 6) "pop_from" [.int cu] σ fun v σ=>opt (aH ⟨dL.names,M0 t ro le rd sp D fi cu⟩ (dB (mB 1)) v) fun cx'=>k .nxt cx' σ):=by kernel_rfl!
theorem m_1t:aH ⟨dL.names,M0 t ro le rd sp D fi cu⟩ (dB (mB 1)) (.lst 8)=some ⟨dL.names,M1 t ro le rd sp D fi cu⟩:=by kernel_rfl!
theorem m_2(σ:Sto)(k:Bool→Sto→Option β):dH (GL T e im fo dn tk) (n+20) ⟨dL.names,M1 t ro le rd sp D fi cu⟩ σ (ifT (mB 2)) k=
 opt (bM σ 8) fun _=>cQ (GL T e im fo dn tk) "len" [.lst 8] σ fun a σ=>grd (aK σ (.lst 6)=aK σ (.lst 6)∧aI σ (.lst 6)=true) (aU (GL T e im fo dn tk) (.lst 6) "part_count" [] σ fun b σ=>eD .NotEq σ (.tup [a,b]) (.tup [.int (D - cu),.int cu]) fun t=>onB t (k true σ) (k false σ)):=by kernel_rfl!
theorem m_3(σ:Sto)(k:Fl→Cx→Sto→Option β):exK (GL T e im fo dn tk) (n+20) ⟨dL.names,M1 t ro le rd sp D fi cu⟩ σ (mB 3) k=k .nxt ⟨dL.names,M3 t ro le rd sp D fi "" "" ro "" cu⟩ σ:=by kernel_rfl!
theorem m_4i(fr ba wa st:Str)(σ:Sto)(k:List PV→Option (Nat×Nat)→Sto→Option β):bP (GL T e im fo dn tk) (n+20) ⟨dL.names,M3 t ro le rd sp D fi fr ba wa st cu⟩ σ (dQ (mB 4)) k=
 grd (aK σ (.lst 6)=aK σ (.lst 6)∧aI σ (.lst 6)=true) (aU (GL T e im fo dn tk) (.lst 6) "pop_from" [] σ fun v σ=>aV .Add v (.lst 8) σ (itK k)):=by kernel_rfl!
theorem m_4t(fr ba wa st ah on:Str):aH ⟨dL.names,M3 t ro le rd sp D fi fr ba wa st cu⟩ (cH (mB 4)) (.tup [.str ah,.str on])=some ⟨dL.names,M4 t ro le rd sp D fi ah on fr ba wa st cu⟩:=by kernel_rfl!
theorem f_b(ah on fr ba wa st:Str)(σ:Sto)(k:Fl→Cx→Sto→Option β):cC (GL T e im fo dn tk) (n+20) ⟨dL.names,M4 t ro le rd sp D fi ah on fr ba wa st cu⟩ σ (bN (mB 4)) k=
 aR (fo [.str fr,.lst 3] σ) fun a σ=>aV .Add a (.str ah) σ fun a σ=>grd (on.length≤100000) (aR (fo [.str ba,.lst 3] σ) fun b σ=>aV .Add (.str (aJ on (some 1) none none)) b σ fun b σ=>bT (.str on) (.int 0) σ fun w=>bT (.lst 4) (.str wa) σ fun s=>aV .Add (.str st) s σ fun s σ=>grd (aK σ (.lst 6)=aK σ (.lst 6)∧aI σ (.lst 6)=true) (aU (GL T e im fo dn tk) (.lst 6) "push" [.str ah,.str on] σ fun _ σ=>k .nxt ⟨dL.names,("steps",s)::("way",w)::("back",b)::("front",a)::("onward",.str on)::("ahead",.str ah)::M1 t ro le rd sp D fi cu⟩ σ)):=by kernel_rfl!
theorem m_5(fr ba wa st:Str)(σ:Sto)(k:Bool→Sto→Option β):dH (GL T e im fo dn tk) (n+20) ⟨dL.names,M3 t ro le rd sp D fi fr ba wa st cu⟩ σ (ifT (mB 5)) k=
 aV .Add (.str fr) (.str le) σ fun a σ=>aV .Add a (.str ba) σ fun a σ=>grd (fr.length≤100000) (grd (rd.length≤100000) (eD .NotEq σ (.tup [a,.int fr.length,.str wa]) (.tup [.str t,.int rd.length,.str le]) fun t=>k t σ)):=by kernel_rfl!
theorem m_6(fr ba wa st:Str)(σ:Sto)(k:Bool→Sto→Option β):dH (GL T e im fo dn tk) (n+20) ⟨dL.names,M3 t ro le rd sp D fi fr ba wa st cu⟩ σ (ifT (mB 6)) k=
 cQ (GL T e im fo dn tk) "str" [.lst 6] σ fun a σ=>cQ (GL T e im fo dn tk) "len" [.lst 6] σ fun b σ=>grd (aK σ (.lst 6)=aK σ (.lst 6)∧aI σ (.lst 6)=true) (aU (GL T e im fo dn tk) (.lst 6) "part_count" [] σ fun c σ=>grd (st.length≤100000) (eD .NotEq σ (.tup [a,b,c]) (.tup [.str st,.int (fi+st.length),.int D]) fun t=>k t σ)):=by kernel_rfl!
theorem m_7(fr ba wa st:Str)(σ:Sto)(k:Fl→Cx→Sto→Option β):exK (GL T e im fo dn tk) (n+20) ⟨dL.names,M3 t ro le rd sp D fi fr ba wa st cu⟩ σ (mB 7) k=
 grd (aK σ (.lst 7)=aK σ (.lst 7)∧aI σ (.lst 7)=true) (aU (GL T e im fo dn tk) (.lst 7) "append" [.tup [.str fr,.str ba]] σ fun _ σ=>k .nxt ⟨dL.names,M3 t ro le rd sp D fi fr ba wa st cu⟩ σ):=by kernel_rfl!
theorem w_1(σ:Sto)(k:Fl→Cx→Sto→Option β):exK (GL T e im fo dn tk) (n+20) ⟨dL.names,W1 t ro le rd sp D fi⟩ σ (wB 1) k=grd ((rd++le).length≤100000) (k .nxt ⟨dL.names,cX (W1 t ro le rd sp D fi) "read" (.str (rd++le))⟩ σ):=by kernel_rfl!
theorem w_2(σ:Sto)(k:Fl→Cx→Sto→Option β):exK (GL T e im fo dn tk) (n+20) ⟨dL.names,W1 t ro le rd sp D fi⟩ σ (wB 2) k=
 grd (aK σ (.lst 6)=aK σ (.lst 6)∧aI σ (.lst 6)=true) (aU (GL T e im fo dn tk) (.lst 6) "pop" [] σ fun v σ=>opt (aH ⟨dL.names,W1 t ro le rd sp D fi⟩ (dB (wB 2)) v) fun cx'=>k .nxt cx' σ):=by kernel_rfl!
theorem w_2t(re ah:Str):aH ⟨dL.names,W1 t ro le rd sp D fi⟩ (dB (wB 2)) (.tup [.str ah,.str re])=some ⟨dL.names,W0 t ro le rd sp D fi re ah⟩:=by kernel_rfl!
theorem w_3t(re ah:Str)(σ:Sto)(k:Bool→Sto→Option β):dH (GL T e im fo dn tk) (n+20) ⟨dL.names,W0 t ro le rd sp D fi re ah⟩ σ (whT (wB 3)) k=grd (re.length≤100000) (k (decide ((re.length:Int)=1)) σ):=by kernel_rfl!
theorem w_3b(re ah:Str)(σ:Sto)(k:Fl→Cx→Sto→Option β):cC (GL T e im fo dn tk) (n+20) ⟨dL.names,W0 t ro le rd sp D fi re ah⟩ σ (whB (wB 3)) k=
 grd (aK σ (.lst 6)=aK σ (.lst 6)∧aI σ (.lst 6)=true) (aU (GL T e im fo dn tk) (.lst 6) "pop" [] σ fun v σ=>opt (aH ⟨dL.names,W0 t ro le rd sp D fi re ah⟩ (dB (wB 2)) v) fun cx'=>k .nxt cx' σ):=by kernel_rfl!
theorem w_3B(re ah re' ah':Str):aH ⟨dL.names,W0 t ro le rd sp D fi re ah⟩ (dB (wB 2)) (.tup [.str ah',.str re'])=some ⟨dL.names,W0 t ro le rd sp D fi re' ah'⟩:=by kernel_rfl!
theorem w_4t(re ah:Str)(σ:Sto)(k:Bool→Sto→Option β):dH (GL T e im fo dn tk) (n+20) ⟨dL.names,W0 t ro le rd sp D fi re ah⟩ σ (ifT (wB 4)) k=k (!(decide (re=""))) σ:=by kernel_rfl!
theorem w_4b(re ah:Str)(σ:Sto)(k:Fl→Cx→Sto→Option β):cC (GL T e im fo dn tk) (n+20) ⟨dL.names,W0 t ro le rd sp D fi re ah⟩ σ (ifA (wB 4)) k=
 bT (.str re) (.int 0) σ fun c=>aV .Add (.str ah) c σ fun a σ'=>grd (re.length≤100000) (grd (aK σ (.lst 6)=aK σ' (.lst 6)∧aI σ (.lst 6)=true) (aU (GL T e im fo dn tk) (.lst 6) "push" [a,.str (aJ re (some 1) none none)] σ' fun _ σ=>bT (.str re) (.int 1) σ fun l=>aR (dn [.lst 6,l,.lst 4,.int D] σ) fun v σ=>k .nxt ⟨dL.names,cX (W0 t ro le rd sp D fi re ah) "letter" v⟩ σ)):=by kernel_rfl!
theorem w_s:(∃pos,stAt dL 10=.While (whT (stAt dL 10)) (whB (stAt dL 10)) [] pos)∧(∃pos,wB 0=.If (ifT (wB 0)) (ifA (wB 0)) [] pos)∧(∃pos,wB 3=.While (whT (wB 3)) (whB (wB 3)) [] pos)∧(∃pos,wB 4=.If (ifT (wB 4)) (ifA (wB 4)) [] pos):=⟨⟨_,rfl⟩,⟨_,rfl⟩,⟨_,rfl⟩,⟨_,rfl⟩⟩
theorem m_s:(∃pos,mB 2=.If (ifT (mB 2)) (ifA (mB 2)) [] pos)∧(∃pos,mB 4=.For (cH (mB 4)) (dQ (mB 4)) (bN (mB 4)) [] pos∧cP (dQ (mB 4)) (cH (mB 4))=true)∧(∃pos,mB 5=.If (ifT (mB 5)) (ifA (mB 5)) [] pos)∧(∃pos,mB 6=.If (ifT (mB 6)) (ifA (mB 6)) [] pos):=⟨⟨_,rfl⟩,⟨_,rfl,rfl⟩,⟨_,rfl⟩,⟨_,rfl⟩⟩
end
section
variable (im:Nat→List Nat)
noncomputable def sg(w:List Nat):List Nat:=(w.map im).flatten
theorem bU0(a b:List Nat):sg im (a++b)=sg im a++sg im b:=by unfold sg;rw[List.map_append,List.flatten_append]
theorem cC0(c:Nat):sg im [c]=im c:=List.append_nil _
noncomputable def sgN:Nat→List Nat→List Nat
 |0,w=>w
 |n+1,w=>sgN n (sg im w)
theorem wQ:∀(n:Nat) (w:List Nat),sgN im (n+1) w=sg im (sgN im n w)
 |0,_=>rfl
 |n+1,w=>wQ n (sg im w)
structure Lv where
 a:List Nat
 c:Nat
 r:List Nat
noncomputable def Lad:Nat→List Lv→Prop
 |_,[]=>True
 |x,l::ls=>im x=l.a++l.c::l.r∧Lad l.c ls
noncomputable def low:Nat→List Lv→Nat
 |x,[]=>x
 |_,l::ls=>low l.c ls
noncomputable def aD:List Nat→List Lv→List Nat
 |f,[]=>f
 |f,l::ls=>aD (sg im f++l.a) ls
noncomputable def eH:List Nat→List Lv→List Nat
 |b,[]=>b
 |b,l::ls=>eH (l.r++sg im b) ls
noncomputable def fF:Nat→List Lv→List Nat
 |_,[]=>[]
 |x,l::ls=>im x++fF l.c ls
theorem kZ:∀(ls:List Lv) (x:Nat) (f b:List Nat),Lad im x ls→sgN im ls.length (f++x::b)=aD im f ls++low x ls::eH im b ls
 |[],x,f,b,_=>rfl
 |l::ls,x,f,b,h=>by
  show sgN im ls.length (sg im (f++x::b))=_
  have e:sg im (f++x::b)=(sg im f++l.a)++l.c::(l.r++sg im b):=by
   rw[bU0,show x::b=[x]++b from rfl,bU0,cC0,h.1,List.append_assoc,List.append_assoc,List.cons_append]
  rw[e]
  exact kZ ls l.c _ _ h.2
noncomputable def fresh:Nat→Nat→List Lv
 |0,_=>[]
 |n+1,x=>⟨[],(im x).headD 0,(im x).tail⟩::fresh n ((im x).headD 0)
theorem mI:∀(n x:Nat),(fresh im n x).length=n
 |0,_=>rfl
 |n+1,_=>congrArg (· +1) (mI n _)
theorem pS(hne:∀c,im c≠[]):∀(n x:Nat),Lad im x (fresh im n x)
 |0,_=>trivial
 |n+1,x=>⟨by
   cases h:im x with
   |nil=>exact (hne x h).elim
   |cons a t=>rfl,pS hne n _⟩
theorem hY:∀(n x:Nat) (f:List Nat),aD im f (fresh im n x)=sgN im n f
 |0,_,_=>rfl
 |n+1,x,f=>by
  show aD im (sg im f++[]) (fresh im n _)=_
  rw[List.append_nil]
  exact hY n _ _
theorem jM:∀(l1 l2:List Lv) (f:List Nat),aD im f (l1++l2)=aD im (aD im f l1) l2
 |[],_,_=>rfl
 |_::l1,l2,_=>jM l1 l2 _
theorem tU:∀(l1 l2:List Lv) (x:Nat),low x (l1++l2)=low (low x l1) l2
 |[],_,_=>rfl
 |_::l1,l2,_=>tU l1 l2 _
theorem vK:∀(l1 l2:List Lv) (x:Nat),Lad im x (l1++l2)↔Lad im x l1∧Lad im (low x l1) l2
 |[],l2,x=>⟨fun h=>⟨trivial,h⟩,fun h=>h.2⟩
 |l::l1,l2,x=>by
  show im x=_∧Lad im l.c (l1++l2)↔(im x=_∧Lad im l.c l1)∧_
  rw[vK l1 l2 l.c,and_assoc]
  exact Iff.rfl
theorem ends:∀(ls:List Lv) (x:Nat) (f:List Nat),Lad im x ls→(∀l∈ls,l.r=[])→aD im f ls++[low x ls]=sgN im ls.length (f++[x])
 |[],x,f,_,_=>rfl
 |l::ls,x,f,h,he=>by
  have e:sg im (f++[x])=(sg im f++l.a)++[l.c]:=by
   rw[bU0,cC0,h.1,he l List.mem_cons_self,List.append_assoc]
  show aD im (sg im f++l.a) ls++[low l.c ls]=sgN im ls.length (sg im (f++[x]))
  rw[e]
  exact ends ls l.c _ h.2 fun l' h'=>he l' (List.mem_cons_of_mem _ h')
theorem zS(hi lo:List Lv)(a:List Nat)(c d:Nat)(r:List Nat)(x:Nat)(n:Nat)(hok:Lad im x (hi++⟨a,c,d::r⟩::lo))(he:∀l∈lo,l.r=[])(hn:lo.length=n):
  aD im [] (hi++⟨a++[c],d,r⟩::fresh im n d)=aD im [] (hi++⟨a,c,d::r⟩::lo)++[low x (hi++⟨a,c,d::r⟩::lo)]:=by
 have h:=((vK im hi _ x).mp hok).2
 rw[jM,jM,tU]
 show aD im (sg im (aD im [] hi)++(a++[c])) (fresh im n d)=aD im (sg im (aD im [] hi)++a) lo++[low c lo]
 rw[hY,ends im lo c _ h.2 he,hn,List.append_assoc]
theorem next_ok(hne:∀c,im c≠[])(hi lo:List Lv)(a:List Nat)(c d:Nat)(r:List Nat)(x:Nat)(n:Nat)(hok:Lad im x (hi++⟨a,c,d::r⟩::lo)):Lad im x (hi++⟨a++[c],d,r⟩::fresh im n d):=by
 have h:=(vK im hi _ x).mp hok
 refine (vK im hi _ x).mpr ⟨h.1,?_,pS im hne n d⟩
 rw[h.2.1,List.append_assoc]
 rfl
end
set_option maxHeartbeats 1000000
noncomputable def lvP(l:Lv):PV:=.tup [.str (S l.a),.str (S (l.c::l.r))]
section
variable {β:Type}{G:Gl}{τ:Sto}{p di:Nat}{c:Cell}{xs:List PV}
theorem kW0(hm:G.meth "pop"=some wE)(hc:τ[p]?=some c)(hd:c.d=.acc di [])(hok:aI τ (.lst p)=true)(K:PV→Sto→Option β):aU G (.lst p) "pop" [] τ K=K (.tup [.str "",.str ""]) τ:=by
 obtain⟨v,d⟩:=c
 dsimp only at hd
 subst hd
 show opt τ[p]? _=_
 rw[hc]
 show opt (G.meth "pop") (fun F=>aR (F [.lst p] τ) K)=_
 rw[hm]
 show aR (grd (aI τ (.lst p)=true) (opt τ[p]? _)) K=_
 rw[gp hok,hc]
 rfl
theorem wS(hm:G.meth "pop"=some wE)(hc:τ[p]?=some c){y:PV}(hd:c.d=.acc di (xs++[y]))(hok:aI τ (.lst p)=true)(hl:xs.length≤9000)(K:PV→Sto→Option β):aU G (.lst p) "pop" [] τ K=K y (aC τ p (.acc di xs)):=by
 obtain⟨v,d⟩:=c
 dsimp only at hd
 subst hd
 show opt τ[p]? _=_
 rw[hc]
 show opt (G.meth "pop") (fun F=>aR (F [.lst p] τ) K)=_
 rw[hm]
 show aR (grd (aI τ (.lst p)=true) (opt τ[p]? _)) K=_
 rw[gp hok,hc]
 show aR (grd ((xs++[y]).length≤10000) (match (xs++[y]).getLast? with
    |none=>some (.tup [.str "",.str ""],τ)
    |some y'=>some (y',aC τ p (.acc di (xs++[y]).dropLast)))) K=_
 rw[gp (by rw[List.length_append];exact Nat.le_trans (Nat.succ_le_succ hl) (by decide)),List.getLast?_concat,List.dropLast_concat]
 rfl
end
noncomputable def oW:List Nat→List Nat→List Lv→List Nat×List Nat×List Lv
 |a,r,[]=>if r.length=1 then ([],[],[]) else (a,r,[])
 |a,r,l::rs=>if r.length=1 then oW l.a (l.c::l.r) rs else (a,r,l::rs)
theorem popR_is:∀(rs:List Lv) (l:Lv),(oW l.a (l.c::l.r) rs=([],[],[])∧l.r=[]∧∀l'∈rs,l'.r=[])∨
  ∃a c d r rs' lo,oW l.a (l.c::l.r) rs=(a,c::d::r,rs')∧(l::rs).reverse=rs'.reverse++⟨a,c,d::r⟩::lo∧∀l'∈lo,l'.r=[]
 |[],⟨a,c,[]⟩=>.inl ⟨rfl,rfl,fun _ h=>nomatch h⟩
 |[],⟨a,c,d::r⟩=>.inr ⟨a,c,d,r,[],[],if_neg (fun h=>nomatch h),rfl,fun _ h=>nomatch h⟩
 |x::rs,⟨a,c,d::r⟩=>.inr ⟨a,c,d,r,x::rs,[],if_neg (fun h=>nomatch h),List.reverse_cons,fun _ h=>nomatch h⟩
 |x::rs,⟨a,c,[]⟩=>by
  rcases popR_is rs x with⟨h1,h2,h3⟩ | ⟨a',c',d',r',rs',lo,h1,h2,h3⟩
  ·exact .inl ⟨h1,rfl,List.forall_mem_cons.mpr ⟨h2,h3⟩⟩
  ·refine .inr ⟨a',c',d',r',rs',lo++[⟨a,c,[]⟩],h1,?_,fun l' h=>?_⟩
   ·rw[List.reverse_cons,h2,List.append_assoc]
    rfl
   ·rcases List.mem_append.mp h with h | h
    ·exact h3 l' h
    ·rw[List.mem_singleton.mp h]
section
variable {B:Bs}{k:Nat}{T:Int→Option Str}{e:Str→Str→Option Bool}{imF fo tk:Fn}{mg mb:Str→Option Value}(ok:BsOk B)(gok:GlOk B k (GL T e imF fo aG tk) mg mb)
include ok gok
theorem tA{cx:Cx}{σ:Sto}{st:Stmt}(hs:∃pos,st=.If (ifT st) (ifA st) [] pos)(h:dH (GL T e imF fo aG tk) 20 cx σ (ifT st) (fun v s=>some (v,s))=some (false,σ)):S1 B k cx σ (exec st) .nxt cx σ:=by
 have ht:=kH ok gok h
 obtain⟨pos,q⟩:=hs
 rw[q]
 exact @nZ B k _ _ _ _ _ _ _ _ _ _ false ht (@fZ B k _ _)
omit ok gok in
theorem uO{cx cx':Cx}{σ σ₁ σ₂:Sto}{st:Stmt}{items:List PV}{w:Option (Nat×Nat)}{fl:Fl}(hs:∃pos,st=.For (cH st) (dQ st) (bN st) [] pos∧cP (dQ st) (cH st)=true)(hi:It1 B k cx σ (dQ st) items w σ₁)(H:oI B k cx σ₁ (cH st) (bN st) w items fl cx' σ₂):S1 B k cx σ (exec st) fl cx' σ₂:=by
 obtain⟨pos,q,h⟩:=hs
 rw[q]
 exact @bC0 B k _ _ _ _ _ _ _ _ _ _ _ _ h @hi @H
omit ok gok in
theorem dW0{cx cx':Cx}{σ σ₂:Sto}{st:Stmt}{fl:Fl}(hs:∃pos,st=.While (whT st) (whB st) [] pos)(H:eF B k cx σ (whT st) (whB st) fl cx' σ₂):S1 B k cx σ (exec st) fl cx' σ₂:=by
 obtain⟨pos,q⟩:=hs
 rw[q]
 exact @qV B k _ _ _ _ _ _ _ _ H
end
noncomputable def CS(c0 c1 c2:Cell)(K1 K2:List (Str×PV))(iv:Nat)(fi:Int)(v u:Nat)(xs ms:List PV):Sto:=[c0,c1,c2,⟨3,.dct K1⟩,⟨3,.dct K2⟩,⟨iv,.ins [("_initial_size",.int fi)]⟩,⟨v,.acc 5 xs⟩,⟨u,.lst ms⟩]
section
variable {B:Bs}{k:Nat}{T:Int→Option Str}{e:Str→Str→Option Bool}{imF fo dn tk:Fn}{mg mb:Str→Option Value}(ok:BsOk B)(gok:GlOk B k (GL T e imF fo dn tk) mg mb)
 (t ro le rd:Str) (sp D fi:Int) (c0 c1 c2:Cell) (K1 K2:List (Str×PV)) (iv:Nat)
theorem kV(v u:Nat)(xs ms:List PV):aI (CS c0 c1 c2 K1 K2 iv fi v u xs ms) (.lst 6)=true:=by kernel_rfl!
include ok gok
theorem w3_loop:∀(rs:List Lv) (a r:List Nat) (v u:Nat) (ms:List PV),rs.length≤1000→r.length≤1000→(∀l∈rs,l.r.length≤900)→
  ∃v',eF B k ⟨dL.names,W0 t ro le rd sp D fi (S r) (S a)⟩ (CS c0 c1 c2 K1 K2 iv fi v u (rs.reverse.map lvP) ms) (whT (wB 3)) (whB (wB 3)) .nxt ⟨dL.names,W0 t ro le rd sp D fi (S (oW a r rs).2.1) (S (oW a r rs).1)⟩ (CS c0 c1 c2 K1 K2 iv fi v' u ((oW a r rs).2.2.reverse.map lvP) ms):=by
 have tst:∀(a r:List Nat) (σ:Sto),r.length≤1000→Tr B k ⟨dL.names,W0 t ro le rd sp D fi (S r) (S a)⟩ σ (whT (wB 3)) (decide (r.length=1)) σ:=fun a r σ hr=>kH ok gok (n:=20) ((w_3t T e imF fo dn tk 0 t ro le rd sp D fi (S r) (S a) σ fun v s=>some (v,s)).trans ((gp (by rw[S_len];exact Nat.le_trans hr (by decide))).trans (by rw[S_len];exact congrArg (fun b=>some (b,σ)) (decide_eq_decide.mpr (show (r.length:Int)=((1:Nat):Int)↔_ from Int.ofNat_inj)))))
 intro rs
 induction rs with
 |nil=>
  intro a r v u ms _ hr _
  by_cases h1:r.length=1
  ·have e1:oW a r []=([],[],[]):=if_pos h1
   rw[e1]
   have ht:=tst a r (CS c0 c1 c2 K1 K2 iv fi v u [] ms) hr
   rw[decide_eq_true h1]at ht
   have hb:cC (GL T e imF fo dn tk) 20 ⟨dL.names,W0 t ro le rd sp D fi (S r) (S a)⟩ (CS c0 c1 c2 K1 K2 iv fi v u [] ms) (whB (wB 3)) (fun f c s=>some (f,c,s))=some (.nxt,⟨dL.names,W0 t ro le rd sp D fi (S []) (S [])⟩,CS c0 c1 c2 K1 K2 iv fi v u [] ms):=
    (w_3b T e imF fo dn tk 0 t ro le rd sp D fi (S r) (S a) _ _).trans ((gp ⟨rfl,kV fi c0 c1 c2 K1 K2 iv v u [] ms⟩).trans ((kW0 rfl rfl rfl (kV fi c0 c1 c2 K1 K2 iv v u [] ms) _).trans (congrArg (fun o=>opt o fun cx'=>some (Fl.nxt,cx',CS c0 c1 c2 K1 K2 iv fi v u [] ms)) (w_3B t ro le rd sp D fi (S r) (S a) (S []) (S [])))))
   have H1:S1 B k ⟨dL.names,W0 t ro le rd sp D fi (S r) (S a)⟩ (CS c0 c1 c2 K1 K2 iv fi v u [] ms) (execs (whB (wB 3))) .nxt ⟨dL.names,W0 t ro le rd sp D fi (S []) (S [])⟩ (CS c0 c1 c2 K1 K2 iv fi v u [] ms):=@qE B k _ 20 ok mg mb gok _ _ _ _ _ _ hb
   have ht2:=tst [] [] (CS c0 c1 c2 K1 K2 iv fi v u [] ms) (Nat.zero_le _)
   exact⟨v,jO ht @H1 (gX ht2)⟩
  ·have e1:oW a r []=(a,r,[]):=if_neg h1
   rw[e1]
   have ht:=tst a r (CS c0 c1 c2 K1 K2 iv fi v u [] ms) hr
   rw[decide_eq_false h1]at ht
   exact⟨v,gX ht⟩
 |cons l rs ih=>
  intro a r v u ms hrs hr hl
  by_cases h1:r.length=1
  ·have e1:oW a r (l::rs)=oW l.a (l.c::l.r) rs:=if_pos h1
   rw[e1]
   obtain⟨v',H2⟩:=ih l.a (l.c::l.r) (v+1) u ms (Nat.le_trans (Nat.le_succ _) hrs) (Nat.le_trans (Nat.succ_le_succ (hl l List.mem_cons_self)) (by decide)) (fun l' h=>hl l' (List.mem_cons_of_mem _ h))
   have ht:=tst a r (CS c0 c1 c2 K1 K2 iv fi v u ((l::rs).reverse.map lvP) ms) hr
   rw[decide_eq_true h1]at ht
   have hx:(l::rs).reverse.map lvP=rs.reverse.map lvP++[lvP l]:=by rw[List.reverse_cons,List.map_append];rfl
   rw[hx]at ht ⊢
   have hb:cC (GL T e imF fo dn tk) 20 ⟨dL.names,W0 t ro le rd sp D fi (S r) (S a)⟩ (CS c0 c1 c2 K1 K2 iv fi v u (rs.reverse.map lvP++[lvP l]) ms) (whB (wB 3)) (fun f c s=>some (f,c,s))=some (.nxt,⟨dL.names,W0 t ro le rd sp D fi (S (l.c::l.r)) (S l.a)⟩,CS c0 c1 c2 K1 K2 iv fi (v+1) u (rs.reverse.map lvP) ms):=
    (w_3b T e imF fo dn tk 0 t ro le rd sp D fi (S r) (S a) _ _).trans ((gp ⟨rfl,kV fi c0 c1 c2 K1 K2 iv v u _ ms⟩).trans ((wS rfl rfl rfl (kV fi c0 c1 c2 K1 K2 iv v u _ ms) (by rw[List.length_map,List.length_reverse];exact Nat.le_trans (Nat.le_of_succ_le hrs) (by decide)) _).trans
     (congrArg (fun o=>opt o fun cx'=>some (Fl.nxt,cx',CS c0 c1 c2 K1 K2 iv fi (v+1) u (rs.reverse.map lvP) ms)) (w_3B t ro le rd sp D fi (S r) (S a) (S (l.c::l.r)) (S l.a)))))
   have H1:S1 B k ⟨dL.names,W0 t ro le rd sp D fi (S r) (S a)⟩ (CS c0 c1 c2 K1 K2 iv fi v u (rs.reverse.map lvP++[lvP l]) ms) (execs (whB (wB 3))) .nxt ⟨dL.names,W0 t ro le rd sp D fi (S (l.c::l.r)) (S l.a)⟩ (CS c0 c1 c2 K1 K2 iv fi (v+1) u (rs.reverse.map lvP) ms):=@qE B k _ 20 ok mg mb gok _ _ _ _ _ _ hb
   exact⟨v',jO ht @H1 H2⟩
  ·have e1:oW a r (l::rs)=(a,r,l::rs):=if_neg h1
   rw[e1]
   have ht:=tst a r (CS c0 c1 c2 K1 K2 iv fi v u ((l::rs).reverse.map lvP) ms) hr
   rw[decide_eq_false h1]at ht
   exact⟨v,gX ht⟩
end
set_option maxHeartbeats 1000000
theorem wK(c:Nat)(l:List Nat):decide (S (c::l)="")=false:=decide_eq_false fun h=>nomatch (xU (a:=c::l) (b:=[])).mp h
structure ImOk (im:Nat→List Nat) (kvs:List (Str×PV)):Prop where
 ne:∀c,im c≠[]
 fl:∀c,∀x∈im c,fil x
 len:∀c,(im c).length≤4
 kv:∀c,fil c→kvs.lookup ⟨#[c]⟩=some (.str (S (im c)))
section
variable {im:Nat→List Nat}{kvs:List (Str×PV)}(I:ImOk im kvs)
include I
theorem tR:∀(ls:List Lv) (x:Nat),fil x→Lad im x ls→fil (low x ls)∧∀l∈ls,fil l.c∧(∀y∈l.r,fil y)∧(∀y∈l.a,fil y)∧l.a.length+l.r.length≤3
 |[],x,hx,_=>⟨hx,fun _ h=>nomatch h⟩
 |l::ls,x,hx,h=>by
  have hf:=I.fl x
  have hl:=I.len x
  rw[h.1]at hf hl
  rw[List.length_append,List.length_cons]at hl
  have hc:=hf l.c (List.mem_append_right _ List.mem_cons_self)
  obtain⟨h1,h2⟩:=tR ls l.c hc h.2
  exact⟨h1,List.forall_mem_cons.mpr ⟨⟨hc,fun y hy=>hf y (List.mem_append_right _ (List.mem_cons_of_mem _ hy)),fun y hy=>hf y (List.mem_append_left _ hy),Nat.le_of_succ_le_succ hl⟩,h2⟩⟩
theorem jD:∀(n x:Nat),fil x→jQ kvs n (S [x])=some ((fresh im n x).map lvP,S [low x (fresh im n x)])
 |0,x,_=>rfl
 |n+1,x,hx=>by
  show opt (kvs.lookup ⟨#[x]⟩) _=_
  rw[I.kv x hx]
  have hl:=I.len x
  have hf:=I.fl x
  obtain⟨h,tl,e⟩:=List.exists_cons_of_ne_nil (I.ne x)
  have e2:fresh im (n+1) x=⟨[],h,tl⟩::fresh im n h:=by
   show (⟨[],(im x).headD 0,(im x).tail⟩:Lv)::fresh im n ((im x).headD 0)=_
   rw[e]
   rfl
  rw[e2,e]
  rw[e]at hl hf
  show grd ((S (h::tl)).length≤1000) (opt (jQ kvs n (S [h])) fun r=>some (PV.tup [.str "",.str (S (h::tl))]::r.1,r.2))=_
  rw[gp (by rw[S_len];exact Nat.le_trans hl (by decide)),jD n h (hf h List.mem_cons_self)]
  rfl
end
section
variable {im:Nat→List Nat}{K1 K2:List (Str×PV)}(I:ImOk im K2)(c0 c1 c2:Cell)(iv:Nat)(fi:Int)
include I
theorem down_at(v u:Nat)(ls:List Lv)(ms:List PV)(d n:Nat)(hd:fil d)(hn:n≤1000)(hl:ls.length≤1000):aG [.lst 6,.str (S [d]),.lst 4,.int ((ls.length+n:Nat):Int)] (CS c0 c1 c2 K1 K2 iv fi v u (ls.map lvP) ms)=
  some (.str (S [low d (fresh im n d)]),CS c0 c1 c2 K1 K2 iv fi (v+n) u ((ls++fresh im n d).map lvP) ms):=by
 have hs:((ls.length+n:Nat):Int).toNat - (ls.map lvP).length=n:=by rw[Int.toNat_natCast,List.length_map,Nat.add_sub_cancel_left]
 show grd (aI (CS c0 c1 c2 K1 K2 iv fi v u (ls.map lvP) ms) (.lst 6)=true∧((ls.map lvP).length:Int)≤((ls.length+n:Nat):Int)∧((ls.length+n:Nat):Int)≤9000)
  (opt (jQ K2 (((ls.length+n:Nat):Int).toNat - (ls.map lvP).length) (S [d])) fun r=>some (PV.str r.2,jW (CS c0 c1 c2 K1 K2 iv fi v u (ls.map lvP) ms) 6 (((ls.length+n:Nat):Int).toNat - (ls.map lvP).length) (.acc 5 (ls.map lvP++r.1))))=_
 rw[gp ⟨kV fi c0 c1 c2 K1 K2 iv v u _ ms,by rw[List.length_map];exact Int.ofNat_le.mpr (Nat.le_add_right ..),Int.ofNat_le.mpr (Nat.le_trans (Nat.add_le_add hl hn) (by decide))⟩,hs,jD I n d hd,List.map_append]
 rfl
end
section
variable {B:Bs}{k:Nat}{T:Int→Option Str}{e:Str→Str→Option Bool}{imF fo tk:Fn}{mg mb:Str→Option Value}(ok:BsOk B)(gok:GlOk B k (GL T e imF fo aG tk) mg mb)
 {im:Nat→List Nat} {K1 K2:List (Str×PV)} (I:ImOk im K2) (t ro:Str) (sp fi:Int) (c0 c1 c2:Cell) (iv:Nat)
include ok gok I
omit ok gok I in
theorem cs_set{c0 c1 c2:Cell}{K1 K2:List (Str×PV)}{iv:Nat}{fi:Int}{v u:Nat}{xs xs' ms:List PV}:aC (CS c0 c1 c2 K1 K2 iv fi v u xs ms) 6 (.acc 5 xs')=CS c0 c1 c2 K1 K2 iv fi (v+1) u xs' ms:=rfl
theorem w4_next(a r:List Nat)(c d:Nat)(hi:List Lv)(n:Nat)(le rd:Str)(v u:Nat)(ms:List PV)(hd:fil d)(ha:a.length+r.length≤10)(hn:n≤100)(hh:hi.length≤100):
  S1 B k ⟨dL.names,W0 t ro le rd sp ((hi.length+1+n:Nat):Int) fi (S (c::d::r)) (S a)⟩ (CS c0 c1 c2 K1 K2 iv fi v u (hi.map lvP) ms) (exec (wB 4)) .nxt
   ⟨dL.names,W0 t ro (S [low d (fresh im n d)]) rd sp ((hi.length+1+n:Nat):Int) fi (S (c::d::r)) (S a)⟩ (CS c0 c1 c2 K1 K2 iv fi (v+1+n) u ((hi++⟨a++[c],d,r⟩::fresh im n d).map lvP) ms):=by
 obtain⟨pos,e4⟩:=w_s.2.2.2
 have ht:Tr B k ⟨dL.names,W0 t ro le rd sp ((hi.length+1+n:Nat):Int) fi (S (c::d::r)) (S a)⟩ (CS c0 c1 c2 K1 K2 iv fi v u (hi.map lvP) ms) (ifT (wB 4)) true (CS c0 c1 c2 K1 K2 iv fi v u (hi.map lvP) ms):=
  kH ok gok (n:=20) ((w_4t T e imF fo aG tk 0 t ro le rd sp _ fi (S (c::d::r)) (S a) _ _).trans (by rw[wK];rfl))
 have hl2:(c::d::r).length=r.length+2:=rfl
 have hx:(hi++[(⟨a++[c],d,r⟩:Lv)]).map lvP=hi.map lvP++[.tup [.str (S (a++[c])),.str (S (d::r))]]:=List.map_append
 have hk:=kV fi c0 c1 c2 K1 K2 iv v u (hi.map lvP) ms
 have hD:=down_at (K1:=K1) I c0 c1 c2 iv fi (v+1) u (hi++[⟨a++[c],d,r⟩]) ms d n hd (Nat.le_trans hn (by decide)) (by rw[List.length_append];exact Nat.le_trans (Nat.succ_le_succ hh) (by decide))
 have hr:r.length≤10:=Nat.le_trans (Nat.le_add_left ..) ha
 have hcr:(c::d::r).length≤100000:=Nat.le_trans (Nat.succ_le_succ (Nat.succ_le_succ hr)) (by decide)
 rw[hx,List.length_append,List.length_singleton,List.append_assoc]at hD
 have hb:cC (GL T e imF fo aG tk) 20 ⟨dL.names,W0 t ro le rd sp ((hi.length+1+n:Nat):Int) fi (S (c::d::r)) (S a)⟩ (CS c0 c1 c2 K1 K2 iv fi v u (hi.map lvP) ms) (ifA (wB 4)) (fun f c s=>some (f,c,s))=
   some (.nxt,⟨dL.names,cX (W0 t ro le rd sp ((hi.length+1+n:Nat):Int) fi (S (c::d::r)) (S a)) "letter" (.str (S [low d (fresh im n d)]))⟩,CS c0 c1 c2 K1 K2 iv fi (v+1+n) u ((hi++⟨a++[c],d,r⟩::fresh im n d).map lvP) ms):=by
  refine (w_4b T e imF fo aG tk 0 t ro le rd sp _ fi (S (c::d::r)) (S a) _ _).trans ?_
  refine (mC (i:=0) (by rw[hl2];exact Nat.succ_pos _) hcr _).trans ?_
  refine (eY a [c] (Nat.le_trans (Nat.succ_le_succ (Nat.le_trans (Nat.le_add_right ..) ha)) (by decide)) _ _).trans ?_
  refine (gp (by rw[S_len];exact hcr)).trans ((gp ⟨rfl,hk⟩).trans ?_)
  rw[show aJ (S (c::d::r)) (some 1) none none=S (d::r) from lQ (c::d::r) 1 (Nat.le_add_left 1 _)]
  refine (vA rfl rfl rfl hk (by rw[List.length_map];exact Nat.le_trans hh (by decide)) _ _ _).trans ?_
  refine (mC (i:=1) (by rw[hl2];exact Nat.succ_lt_succ (Nat.succ_pos _)) hcr _).trans ?_
  rw[cs_set]
  exact (congrArg (fun x=>aR x _) hD).trans rfl
 have H1:S1 B k ⟨dL.names,W0 t ro le rd sp ((hi.length+1+n:Nat):Int) fi (S (c::d::r)) (S a)⟩ (CS c0 c1 c2 K1 K2 iv fi v u (hi.map lvP) ms) (execs (ifA (wB 4))) .nxt
   ⟨dL.names,W0 t ro (S [low d (fresh im n d)]) rd sp ((hi.length+1+n:Nat):Int) fi (S (c::d::r)) (S a)⟩ (CS c0 c1 c2 K1 K2 iv fi (v+1+n) u ((hi++⟨a++[c],d,r⟩::fresh im n d).map lvP) ms):=
  @S1.keep B k dL.names _ _ _ _ _ _ (W0 t ro (S [low d (fresh im n d)]) rd sp ((hi.length+1+n:Nat):Int) fi (S (c::d::r)) (S a)) (@qE B k _ 20 ok mg mb gok _ _ _ _ _ _ hb) (by kernel_rfl!)
 rw[e4]
 exact @nZ B k _ _ _ _ _ _ _ _ _ _ true ht @H1
end
set_option maxHeartbeats 1000000
section
variable {B:Bs}{k:Nat}{T:Int→Option Str}{e:Str→Str→Option Bool}{imF fo tk:Fn}{mg mb:Str→Option Value}(ok:BsOk B)(gok:GlOk B k (GL T e imF fo aG tk) mg mb)
 {im:Nat→List Nat} {K1 K2:List (Str×PV)} (I:ImOk im K2) (t ro:Str) (sp fi:Int) (c0 c1 c2:Cell) (iv:Nat)
include ok gok
theorem t_w1(le rd:List Nat)(D:Int)(σ:Sto)(h:rd.length+le.length≤10000):S1 B k ⟨dL.names,W1 t ro (S le) (S rd) sp D fi⟩ σ (exec (wB 1)) .nxt ⟨dL.names,W1 t ro (S le) (S (rd++le)) sp D fi⟩ σ:=by
 have hb:exK (GL T e imF fo aG tk) 20 ⟨dL.names,W1 t ro (S le) (S rd) sp D fi⟩ σ (wB 1) (fun f c s=>some (f,c,s))=some (.nxt,⟨dL.names,cX (W1 t ro (S le) (S rd) sp D fi) "read" (.str (S (rd++le)))⟩,σ):=
  (w_1 T e imF fo aG tk 0 t ro (S le) (S rd) sp D fi σ _).trans (by rw[S_app];exact gp (by rw[S_len,List.length_append];exact Nat.le_trans h (by decide)))
 exact @S1.keep B k dL.names _ _ _ _ _ _ (W1 t ro (S le) (S (rd++le)) sp D fi) (@bI B k _ 20 ok mg mb gok _ _ _ _ _ _ hb) (by kernel_rfl!)
theorem t_w2(l:Lv)(rs:List Lv)(le rd:Str)(D:Int)(v u:Nat)(ms:List PV)(hrs:rs.length≤1000):S1 B k ⟨dL.names,W1 t ro le rd sp D fi⟩ (CS c0 c1 c2 K1 K2 iv fi v u ((l::rs).reverse.map lvP) ms) (exec (wB 2)) .nxt
  ⟨dL.names,W0 t ro le rd sp D fi (S (l.c::l.r)) (S l.a)⟩ (CS c0 c1 c2 K1 K2 iv fi (v+1) u (rs.reverse.map lvP) ms):=by
 have hx:(l::rs).reverse.map lvP=rs.reverse.map lvP++[lvP l]:=by rw[List.reverse_cons,List.map_append];rfl
 rw[hx]
 have hb:exK (GL T e imF fo aG tk) 20 ⟨dL.names,W1 t ro le rd sp D fi⟩ (CS c0 c1 c2 K1 K2 iv fi v u (rs.reverse.map lvP++[lvP l]) ms) (wB 2) (fun f c s=>some (f,c,s))=some (.nxt,⟨dL.names,W0 t ro le rd sp D fi (S (l.c::l.r)) (S l.a)⟩,CS c0 c1 c2 K1 K2 iv fi (v+1) u (rs.reverse.map lvP) ms):=
  (w_2 T e imF fo aG tk 0 t ro le rd sp D fi _ _).trans ((gp ⟨rfl,kV fi c0 c1 c2 K1 K2 iv v u _ ms⟩).trans ((wS rfl rfl rfl (kV fi c0 c1 c2 K1 K2 iv v u _ ms) (by rw[List.length_map,List.length_reverse];exact Nat.le_trans hrs (by decide)) _).trans
   (congrArg (fun o=>opt o fun cx'=>some (Fl.nxt,cx',CS c0 c1 c2 K1 K2 iv fi (v+1) u (rs.reverse.map lvP) ms)) (w_2t t ro le rd sp D fi (S (l.c::l.r)) (S l.a)))))
 exact @bI B k _ 20 ok mg mb gok _ _ _ _ _ _ hb
theorem t_w4(le rd:Str)(D:Int)(σ:Sto):S1 B k ⟨dL.names,W0 t ro le rd sp D fi (S []) (S [])⟩ σ (exec (wB 4)) .nxt ⟨dL.names,W0 t ro le rd sp D fi (S []) (S [])⟩ σ:=by
 obtain⟨pos,e4⟩:=w_s.2.2.2
 have ht:Tr B k ⟨dL.names,W0 t ro le rd sp D fi (S []) (S [])⟩ σ (ifT (wB 4)) false σ:=
  kH ok gok (n:=20) ((w_4t T e imF fo aG tk 0 t ro le rd sp _ fi (S []) (S []) _ _).trans rfl)
 rw[e4]
 exact @nZ B k _ _ _ _ _ _ _ _ _ _ false ht (@fZ B k _ _)
include I
theorem turn_tail(l:Lv)(rs:List Lv)(x:Nat)(rd:List Nat)(v u:Nat)(ms:List PV)(hx:fil x)(hok:Lad im x (l::rs).reverse)(hrs:rs.length≤50)(hrd:rd.length≤1000):
  (∃v',(∀l'∈(l::rs).reverse,l'.r=[])∧S1 B k ⟨dL.names,W1 t ro (S [low x (l::rs).reverse]) (S rd) sp ((rs.length+1:Nat):Int) fi⟩ (CS c0 c1 c2 K1 K2 iv fi v u ((l::rs).reverse.map lvP) ms) (execs [wB 1,wB 2,wB 3,wB 4]) .nxt
   ⟨dL.names,W0 t ro (S [low x (l::rs).reverse]) (S (rd++[low x (l::rs).reverse])) sp ((rs.length+1:Nat):Int) fi (S []) (S [])⟩ (CS c0 c1 c2 K1 K2 iv fi v' u [] ms))∨
  ∃ls' v' re ah,re≠[]∧Lad im x ls'∧ls'.length=rs.length+1∧aD im [] ls'=aD im [] (l::rs).reverse++[low x (l::rs).reverse]∧
   S1 B k ⟨dL.names,W1 t ro (S [low x (l::rs).reverse]) (S rd) sp ((rs.length+1:Nat):Int) fi⟩ (CS c0 c1 c2 K1 K2 iv fi v u ((l::rs).reverse.map lvP) ms) (execs [wB 1,wB 2,wB 3,wB 4]) .nxt
   ⟨dL.names,W0 t ro (S [low x ls']) (S (rd++[low x (l::rs).reverse])) sp ((rs.length+1:Nat):Int) fi (S re) (S ah)⟩ (CS c0 c1 c2 K1 K2 iv fi v' u (ls'.map lvP) ms):=by
 obtain⟨hlow,hall⟩:=tR I (l::rs).reverse x hx hok
 have hlr:∀l'∈l::rs,l'.r.length≤3:=fun l' h=>Nat.le_trans (Nat.le_add_left ..) (hall l' (List.mem_reverse.mpr h)).2.2.2
 have s1:=@t_w1 B k T e imF fo tk mg mb ok gok t ro sp fi [low x (l::rs).reverse] rd ((rs.length+1:Nat):Int) (CS c0 c1 c2 K1 K2 iv fi v u ((l::rs).reverse.map lvP) ms) (Nat.le_trans (Nat.succ_le_succ hrd) (by decide))
 have s2:=@t_w2 B k T e imF fo tk mg mb ok gok K1 K2 t ro sp fi c0 c1 c2 iv l rs (S [low x (l::rs).reverse]) (S (rd++[low x (l::rs).reverse])) ((rs.length+1:Nat):Int) v u ms (Nat.le_trans hrs (by decide))
 obtain⟨v3,H3⟩:=w3_loop ok gok t ro (S [low x (l::rs).reverse]) (S (rd++[low x (l::rs).reverse])) sp ((rs.length+1:Nat):Int) fi c0 c1 c2 K1 K2 iv rs l.a (l.c::l.r) (v+1) u ms (Nat.le_trans hrs (by decide))
  (Nat.le_trans (Nat.succ_le_succ (hlr l List.mem_cons_self)) (by decide)) (fun l' h=>Nat.le_trans (hlr l' (List.mem_cons_of_mem _ h)) (by decide))
 rcases popR_is rs l with⟨h1,h2,h3⟩ | ⟨a,c,d,r,rs',lo,h1,h2,h3⟩
 ·rw[h1]at H3
  have s3:=@dW0 B k _ _ _ _ _ _ w_s.2.2.1 H3
  have s4:=@t_w4 B k T e imF fo tk mg mb ok gok t ro sp fi (S [low x (l::rs).reverse]) (S (rd++[low x (l::rs).reverse])) ((rs.length+1:Nat):Int) (CS c0 c1 c2 K1 K2 iv fi v3 u [] ms)
  exact .inl ⟨v3,fun l' h=>(List.mem_cons.mp (List.mem_reverse.mp h)).elim (fun e=>e▸h2) (h3 l'),@ex4 B k _ _ _ _ _ _ _ _ _ _ _ _ _ _ @s1 @s2 @s3 @s4⟩
 ·rw[h1]at H3
  have s3:=@dW0 B k _ _ _ _ _ _ w_s.2.2.1 H3
  have hlen:rs.length+1=rs'.length+1+lo.length:=by
   have:=congrArg List.length h2
   rw[List.length_reverse,List.length_cons,List.length_append,List.length_reverse,List.length_cons]at this
   exact this.trans (Nat.add_right_comm rs'.length lo.length 1)
  have hm:(⟨a,c,d::r⟩:Lv)∈(l::rs).reverse:=by rw[h2];exact List.mem_append_right _ List.mem_cons_self
  obtain⟨q1,q2,q3,q4⟩:=hall _ hm
  have q4':a.length+(r.length+1)≤3:=q4
  have hn:(fresh im lo.length d).length=lo.length:=mI im lo.length d
  have s4:=@w4_next B k T e imF fo tk mg mb ok gok im K1 K2 I t ro sp fi c0 c1 c2 iv a r c d rs'.reverse lo.length (S [low x (l::rs).reverse]) (S (rd++[low x (l::rs).reverse])) v3 u ms (q2 d List.mem_cons_self) (Nat.le_trans (Nat.le_trans (Nat.add_le_add_left (Nat.le_succ _) _) q4') (by decide)) (Nat.le_trans (Nat.le_trans (Nat.le_add_left ..) (Nat.le_trans (Nat.le_of_eq hlen.symm) (Nat.succ_le_succ hrs))) (by decide)) (by rw[List.length_reverse];exact Nat.le_trans (Nat.le_trans (Nat.le_trans (Nat.le_succ _) (Nat.le_add_right ..)) (Nat.le_trans (Nat.le_of_eq hlen.symm) (Nat.succ_le_succ hrs))) (by decide))
  rw[List.length_reverse,← hlen]at s4
  refine .inr ⟨rs'.reverse++⟨a++[c],d,r⟩::fresh im lo.length d,v3+1+lo.length,c::d::r,a,(fun h=>nomatch h),?_,?_,?_,?_⟩
  ·exact next_ok im I.ne rs'.reverse lo a c d r x lo.length (h2▸hok)
  ·rw[List.length_append,List.length_reverse,List.length_cons,hn,hlen]
   exact Nat.add_right_comm rs'.length lo.length 1
  ·rw[h2]
   exact zS im rs'.reverse lo a c d r x lo.length (h2▸hok) h3 rfl
  ·have hlw:low x (rs'.reverse++⟨a++[c],d,r⟩::fresh im lo.length d)=low d (fresh im lo.length d):=by rw[tU];rfl
   rw[hlw]
   exact @ex4 B k _ _ _ _ _ _ _ _ _ _ _ _ _ _ @s1 @s2 @s3 @s4
end
set_option maxHeartbeats 1000000
theorem kY{β:Type}{σ:Sto}{a:List PV}{d:PyData}(ha:toD 100000 σ (.tup a)=some d)(hl:d.canLay0=true)(hd:Nat.ble d.depth 8=true)(he:PyData.eqv d d=true)(k:Bool→Option β):eD .NotEq σ (.tup a) (.tup a) k=k false:=by
 have h:eqV σ (.tup a) (.tup a)=some true:=by
  show opt (toD 100000 σ (.tup a)) (fun da=>opt (toD 100000 σ (.tup a)) fun db=>_)=_
  rw[ha]
  exact (gp ⟨hl,hl,Nat.le_trans (Nat.min_le_left ..) (Nat.le_of_ble_eq_true hd)⟩).trans (congrArg some he)
 show opt ((eqV σ (.tup a) (.tup a)).map (!·)) k=_
 rw[h]
 rfl
theorem eq_ii(a b:Int):PyData.eqv (.tuple [.int a,.int b]) (.tuple [.int a,.int b])=true:=by
 show ((a==a)&&((b==b)&&true))=true
 simp
theorem cmp_ii{β:Type}(σ:Sto)(a b:Int)(k:Bool→Option β):eD .NotEq σ (.tup [.int a,.int b]) (.tup [.int a,.int b]) k=k false:=
 kY (d:=.tuple [.int a,.int b]) (by kernel_rfl!) (by kernel_rfl!) (by kernel_rfl!) (eq_ii a b) k
theorem eP{l:List Nat}(h:∀c∈l,fil c):PyData.strOk (S l)=true:=strOk_S l fun c hc=>by rcases h c hc with rfl | rfl | rfl<;>decide
theorem cmp_sis{β:Type}(σ:Sto)(a:List Nat)(b:Int)(c:List Nat)(ha:∀x∈a,fil x)(hc:∀x∈c,fil x)(k:Bool→Option β):eD .NotEq σ (.tup [.str (S a),.int b,.str (S c)]) (.tup [.str (S a),.int b,.str (S c)]) k=k false:=
 kY (d:=.tuple [.str (S a),.int b,.str (S c)]) (by kernel_rfl!) (by show (PyData.strOk (S a)&&(true&&(PyData.strOk (S c)&&true)))=true;rw[eP ha,eP hc];rfl) (by kernel_rfl!) (by show ((S a==S a)&&((b==b)&&((S c==S c)&&true)))=true;simp) k
theorem cmp_sii{β:Type}(σ:Sto)(a:List Nat)(b c:Int)(ha:∀x∈a,fil x)(k:Bool→Option β):eD .NotEq σ (.tup [.str (S a),.int b,.int c]) (.tup [.str (S a),.int b,.int c]) k=k false:=
 kY (d:=.tuple [.str (S a),.int b,.int c]) (by kernel_rfl!) (by show (PyData.strOk (S a)&&(true&&(true&&true)))=true;rw[eP ha];rfl) (by kernel_rfl!) (by show ((S a==S a)&&((b==b)&&((c==c)&&true)))=true;simp) k
theorem cmp_sss{β:Type}(σ:Sto)(a:List Nat)(ha:∀x∈a,fil x)(k:Bool→Option β):eD .NotEq σ (.tup [.str (S []),.str (S []),.str (S a)]) (.tup [.str (S []),.str (S []),.str (S a)]) k=k false:=
 kY (d:=.tuple [.str (S []),.str (S []),.str (S a)]) (by kernel_rfl!) (by show (PyData.strOk (S [])&&(PyData.strOk (S [])&&(PyData.strOk (S a)&&true)))=true;rw[eP ha,eP (l:=[]) (fun c h=>nomatch h)];rfl) (by kernel_rfl!) (by show ((S []==S [])&&((S []==S [])&&((S a==S a)&&true)))=true;simp) k
section
variable {β:Type}{G:Gl}{τ:Sto}{p di:Nat}{c:Cell}{xs:List PV}
theorem dM0(hc:τ[p]?=some c)(hd:c.d=.acc di xs)(hl:xs.length≤10000){i:Nat}(hi:i≤xs.length):jA p i τ=some (.lst τ.length,aC (τ++[⟨0,.lst (xs.drop i)⟩]) p (.acc di (xs.take i))):=by
 unfold jA
 rw[hc]
 show rR c.d _=_
 rw[hd]
 exact gp ⟨hl,hi⟩
theorem fT0(hm:G.meth "pop_from"=some nT)(hc:τ[p]?=some c)(hd:c.d=.acc di xs)(hl:xs.length≤10000){i:Nat}(hi:i≤xs.length)(K:PV→Sto→Option β):
  aU G (.lst p) "pop_from" [.int (i:Int)] τ K=K (.lst τ.length) (aC (τ++[⟨0,.lst (xs.drop i)⟩]) p (.acc di (xs.take i))):=by
 have h:=dM0 hc hd hl hi
 obtain⟨v,d⟩:=c
 dsimp only at hd
 subst hd
 show opt τ[p]? _=_
 rw[hc]
 show opt (G.meth "pop_from") (fun F=>aR (F [.lst p,.int (i:Int)] τ) K)=_
 rw[hm]
 show aR (grd ((0:Int)≤(i:Int)) (jA p ((i:Int)).toNat τ)) K=_
 rw[gp (Int.natCast_nonneg i),Int.toNat_natCast,h]
 rfl
theorem bV0(hm:G.meth "pop_from"=some nT)(hc:τ[p]?=some c)(hd:c.d=.acc di xs)(hl:xs.length≤10000)(K:PV→Sto→Option β):
  aU G (.lst p) "pop_from" [] τ K=K (.lst τ.length) (aC (τ++[⟨0,.lst xs⟩]) p (.acc di [])):=by
 have h:=dM0 hc hd hl (Nat.zero_le _)
 obtain⟨v,d⟩:=c
 dsimp only at hd
 subst hd
 show opt τ[p]? _=_
 rw[hc]
 show opt (G.meth "pop_from") (fun F=>aR (F [.lst p] τ) K)=_
 rw[hm]
 show aR (jA p 0 τ) K=_
 rw[h]
 rfl
end
theorem wG:∀ls:List Lv,aX (ls.map lvP)=some (ls.map fun l=>(S l.a,S (l.c::l.r)))
 |[]=>rfl
 |l::ls=>by
  show opt (aX (ls.map lvP)) (fun ps=>some ((S l.a,S (l.c::l.r))::ps))=_
  rw[wG ls]
  rfl
theorem oY(im:Nat→List Nat):∀(ls:List Lv) (x:Nat),Lad im x ls→aS (ls.map fun l=>(S l.a,S (l.c::l.r)))=(ls.map fun l=>l.a++l.c::l.r).map S∧(ls.map fun l=>l.a++l.c::l.r).flatten=fF im x ls
 |[],x,_=>⟨rfl,rfl⟩
 |l::ls,x,h=>by
  obtain⟨h1,h2⟩:=oY im ls l.c h.2
  refine⟨?_,?_⟩
  ·show Txt.join "" [S l.a,S (l.c::l.r)]::aS (ls.map _)=S (l.a++l.c::l.r)::_
   rw[h1,show [S l.a,S (l.c::l.r)]=([l.a,l.c::l.r]:List (List Nat)).map S from rfl,vP]
   simp -iota
  ·show (l.a++l.c::l.r)++_=im x++fF im l.c ls
   rw[h2,h.1]
set_option maxHeartbeats 1000000
noncomputable def CT(c0 c1 c2:Cell)(K1 K2:List (Str×PV))(iv:Nat)(fi:Int)(v u:Nat)(xs ms l1 l2 l3:List PV):Sto:=CS c0 c1 c2 K1 K2 iv fi v u xs ms++[⟨0,.lst l1⟩,⟨0,.lst l2⟩,⟨0,.lst l3⟩]
theorem lO0(c0 c1 c2:Cell)(K1 K2:List (Str×PV))(iv:Nat)(fi:Int)(v u:Nat)(xs ms l1 l2 l3:List PV):aI (CT c0 c1 c2 K1 K2 iv fi v u xs ms l1 l2 l3) (.lst 6)=true:=by kernel_rfl!
noncomputable def fU0(im:Nat→List Nat)(K1:List (Str×PV))(fo:Fn):Prop:=∀(w:List Nat) (σ:Sto) (c:Cell),(∀x∈w,fil x)→w.length≤1000→σ[3]?=some c→c.d=.dct K1→fo [.str (S w),.lst 3] σ=some (.str (S (sg im w)),σ)
theorem jU{a b:List Nat}(ha:∀x∈a,fil x)(hb:∀x∈b,fil x):∀x∈a++b,fil x:=fun x hx=>(List.mem_append.mp hx).elim (ha x) (hb x)
section
variable {im:Nat→List Nat}{kvs:List (Str×PV)}(I:ImOk im kvs)
include I
theorem zK(w:List Nat):∀x∈sg im w,fil x:=fun x hx=>by
 obtain⟨l,hl,hx⟩:=List.mem_flatten.mp hx
 obtain⟨c,_,rfl⟩:=List.mem_map.mp hl
 exact I.fl c x hx
theorem iZ:∀w:List Nat,(sg im w).length≤4 * w.length
 |[]=>Nat.le_refl _
 |c::w=>by
  have h:=iZ w
  have h2:=I.len c
  show (im c++sg im w).length≤_
  rw[List.length_append,List.length_cons,Nat.mul_succ,Nat.add_comm]
  exact Nat.add_le_add h h2
end
section
variable {B:Bs}{k:Nat}{T:Int→Option Str}{e:Str→Str→Option Bool}{imF fo tk:Fn}{mg mb:Str→Option Value}(ok:BsOk B)(gok:GlOk B k (GL T e imF fo aG tk) mg mb)
 {im:Nat→List Nat} {K1 K2:List (Str×PV)} (I:ImOk im K2) (F:fU0 im K1 fo) (t ro le rd:Str) (sp D fi cu:Int) (c0 c1 c2:Cell) (iv:Nat) (u:Nat) (ms l1 l2 l3:List PV)
include ok gok I F
theorem f_turn(l:Lv)(f b st:List Nat)(w:Nat)(v:Nat)(done:List Lv)(hw:fil w)(_:fil l.c)(hlw:im w=l.a++l.c::l.r)(hf:∀x∈f,fil x)(hb:∀x∈b,fil x)(hfl:f.length≤1000)(hbl:b.length≤1000)(hst:st.length≤1000)(hd:done.length≤1000):
  S1 B k ⟨dL.names,M4 t ro le rd sp D fi (S l.a) (S (l.c::l.r)) (S f) (S b) (S [w]) (S st) cu⟩ (CT c0 c1 c2 K1 K2 iv fi v u (done.map lvP) ms l1 l2 l3) (execs (bN (mB 4))) .nxt
   ⟨dL.names,M3 t ro le rd sp D fi (S (sg im f++l.a)) (S (l.r++sg im b)) (S [l.c]) (S (st++im w)) cu⟩ (CT c0 c1 c2 K1 K2 iv fi (v+1) u ((done++[l]).map lvP) ms l1 l2 l3):=by
 have hl:=I.len w
 have h1:=iZ I f
 have h2:=iZ I b
 have hL:l.a.length≤4∧l.r.length+1≤4:=by
  rw[hlw,List.length_append,List.length_cons]at hl
  exact⟨Nat.le_trans (Nat.le_add_right ..) hl,Nat.le_trans (Nat.le_add_left ..) hl⟩
 have h4k:4 * 1000+1000≤100000:=by decide
 have h1k:4≤1000:=by decide
 have hl4:(l.c::l.r).length=l.r.length+1:=rfl
 have hb:cC (GL T e imF fo aG tk) 20 ⟨dL.names,M4 t ro le rd sp D fi (S l.a) (S (l.c::l.r)) (S f) (S b) (S [w]) (S st) cu⟩ (CT c0 c1 c2 K1 K2 iv fi v u (done.map lvP) ms l1 l2 l3) (bN (mB 4)) (fun f c s=>some (f,c,s))=
   some (.nxt,⟨dL.names,("steps",.str (S (st++im w)))::("way",.str (S [l.c]))::("back",.str (S (l.r++sg im b)))::("front",.str (S (sg im f++l.a)))::("onward",.str (S (l.c::l.r)))::("ahead",.str (S l.a))::M1 t ro le rd sp D fi cu⟩,CT c0 c1 c2 K1 K2 iv fi (v+1) u ((done++[l]).map lvP) ms l1 l2 l3):=by
  refine (f_b T e imF fo aG tk 0 t ro le rd sp D fi cu (S l.a) (S (l.c::l.r)) (S f) (S b) (S [w]) (S st) _ _).trans ?_
  rw[F f _ ⟨3,.dct K1⟩ hf hfl rfl rfl,bL]
  refine (eY (sg im f) l.a (Nat.le_trans (Nat.add_le_add (Nat.le_trans h1 (Nat.mul_le_mul_left 4 hfl)) (Nat.le_trans hL.1 h1k)) h4k) _ _).trans ((gp (by rw[S_len,hl4];exact Nat.le_trans hL.2 (by decide))).trans ?_)
  rw[F b _ ⟨3,.dct K1⟩ hb hbl rfl rfl,bL,show aJ (S (l.c::l.r)) (some 1) none none=S l.r from lQ (l.c::l.r) 1 (Nat.le_add_left 1 _)]
  refine (eY l.r (sg im b) (Nat.le_trans (Nat.add_le_add (Nat.le_trans (Nat.le_of_succ_le hL.2) h1k) (Nat.le_trans h2 (Nat.mul_le_mul_left 4 hbl))) (by decide)) _ _).trans ((mC (i:=0) (by rw[hl4];exact Nat.succ_pos _) (Nat.le_trans (hl4▸hL.2) (by decide)) _).trans ((gJ rfl rfl (I.kv w hw) _).trans ((eY st (im w) (Nat.le_trans (Nat.add_le_add hst hl) (by decide)) _ _).trans ((gp ⟨rfl,lO0 ..⟩).trans ((vA rfl rfl rfl (lO0 ..) (by rw[List.length_map];exact Nat.le_trans hd (by decide)) _ _ _).trans ?_)))))
  rw[show (done++[l]).map lvP=done.map lvP++[lvP l]from List.map_append]
  rfl
 exact @S1.keep B k dL.names _ _ _ _ _ _ (M3 t ro le rd sp D fi (S (sg im f++l.a)) (S (l.r++sg im b)) (S [l.c]) (S (st++im w)) cu) (@qE B k _ 20 ok mg mb gok _ _ _ _ _ _ hb) (by kernel_rfl!)
omit ok gok I F in
theorem f_len{a b c d e f:Nat}(h1:a≤4 * e)(h2:b≤4 * f)(h:c+(d+1)≤4):a+c+(d+b)+1≤(e+f+1) * 4:=by lia
omit ok gok I F in
theorem app1{α:Type}(l:List α)(x:α):(l++[x]).length=l.length+1:=List.length_append
theorem f_loop:∀(ls:List Lv) (f b st:List Nat) (w v:Nat) (done:List Lv),fil w→Lad im w ls→(∀x∈f,fil x)→(∀x∈b,fil x)→(f.length+b.length+1) * 4 ^ ls.length≤1000→st.length+4 * ls.length≤1000→done.length+ls.length≤1000→
  ∃v',oI B k ⟨dL.names,M3 t ro le rd sp D fi (S f) (S b) (S [w]) (S st) cu⟩ (CT c0 c1 c2 K1 K2 iv fi v u (done.map lvP) ms l1 l2 l3) (cH (mB 4)) (bN (mB 4)) (some (10,0)) (ls.map lvP) .nxt
   ⟨dL.names,M3 t ro le rd sp D fi (S (aD im f ls)) (S (eH im b ls)) (S [low w ls]) (S (st++fF im w ls)) cu⟩ (CT c0 c1 c2 K1 K2 iv fi v' u ((done++ls).map lvP) ms l1 l2 l3)
 |[],f,b,st,w,v,done,_,_,_,_,_,_,_=>⟨v,by
   rw[List.append_nil,show st++fF im w []=st from List.append_nil st]
   exact iG ok rfl⟩
 |l::ls,f,b,st,w,v,done,hw,hok,hf,hb,hN,hs,hd=>by
  have hfl:=I.fl w
  have hll:=I.len w
  rw[hok.1]at hfl hll
  rw[List.length_append,List.length_cons]at hll
  rw[List.length_cons,Nat.pow_succ]at hN
  rw[List.length_cons]at hs hd
  have hp:1≤4 ^ ls.length:=Nat.pow_pos (by decide)
  have hN0:f.length+b.length+1≤1000:=Nat.le_trans (Nat.le_mul_of_pos_right _ (Nat.mul_pos hp (by decide))) hN
  have hs0:st.length+4≤1000:=Nat.le_trans (Nat.add_le_add_left (Nat.le_mul_of_pos_right 4 ls.length.succ_pos) _) hs
  have hc:fil l.c:=hfl l.c (List.mem_append_right _ List.mem_cons_self)
  have H1:=@f_turn B k T e imF fo tk mg mb ok gok im K1 K2 I F t ro le rd sp D fi cu c0 c1 c2 iv u ms l1 l2 l3 l f b st w v done hw hc hok.1 hf hb (Nat.le_trans (Nat.le_trans (Nat.le_add_right ..) (Nat.le_succ _)) hN0) (Nat.le_trans (Nat.le_trans (Nat.le_add_left ..) (Nat.le_succ _)) hN0) (Nat.le_trans (Nat.le_add_right ..) hs0) (Nat.le_trans (Nat.le_add_right ..) hd)
  have hlen:((sg im f++l.a).length+(l.r++sg im b).length+1)≤(f.length+b.length+1) * 4:=by
   have h1:=iZ I f
   have h2:=iZ I b
   rw[List.length_append,List.length_append]
   exact f_len h1 h2 hll
  obtain⟨v',H2⟩:=f_loop ls (sg im f++l.a) (l.r++sg im b) (st++im w) l.c (v+1) (done++[l]) hc hok.2 (jU (zK I f) fun x hx=>hfl x (List.mem_append_left _ hx)) (jU (fun x hx=>hfl x (List.mem_append_right _ (List.mem_cons_of_mem _ hx))) (zK I b))
   (Nat.le_trans (Nat.mul_le_mul_right _ hlen) (by rw[Nat.mul_assoc,Nat.mul_comm 4];exact hN)) (Nat.le_trans (by rw[List.length_append,hok.1,Nat.mul_succ,Nat.add_comm (4 * ls.length),← Nat.add_assoc];exact Nat.add_le_add_right (Nat.add_le_add_left (by rw[List.length_append,List.length_cons];exact hll) _) _) hs) (by rw[app1,Nat.add_right_comm];exact hd)
  refine⟨v',?_⟩
  have e1:done++l::ls=(done++[l])++ls:=List.append_cons ..
  have e2:st++fF im w (l::ls)=(st++im w)++fF im l.c ls:=(List.append_assoc ..).symm
  rw[e1,e2]
  exact fA ok rfl (m_4t t ro le rd sp D fi cu (S f) (S b) (S [w]) (S st) (S l.a) (S (l.c::l.r))) @H1 H2
end
set_option maxHeartbeats 2000000
theorem lJ(f:Nat→Int):∀n,preSum f (n+1)=f 0+preSum (fun i=>f (i+1)) n
 |0=>by show (0:Int)+f 0=f 0+0;rw[Int.zero_add,Int.add_zero]
 |n+1=>by
  show preSum f (n+1)+f (n+1)=f 0+(preSum (fun i=>f (i+1)) n+f (n+1))
  rw[lJ f n,Int.add_assoc]
theorem rP(p:Str×Str)(ps:List (Str×Str)):bH (p::ps)=((p.1.length:Int)+(p.2.length:Int))+bH ps:=lJ _ _
theorem jS0(im:Nat→List Nat):∀(ls:List Lv) (x:Nat),Lad im x ls→bH (ls.map fun l=>(S l.a,S (l.c::l.r)))=((fF im x ls).length:Int)
 |[],x,_=>rfl
 |l::ls,x,h=>by
  rw[List.map_cons,rP,jS0 im ls l.c h.2,S_len,S_len]
  show _=((im x++fF im l.c ls).length:Int)
  rw[h.1,List.length_append,List.length_append]
  rfl
theorem onAcc_y{β:Type}{σ:Sto}{i v:Nat}{xs:List PV}(hc:σ[i]?=some ⟨v,.lst xs⟩)(x y:Option β):gW (.lst i) σ x y=y:=by
 unfold gW
 dsimp only
 rw[hc]
theorem dP0{β:Type}{σ:Sto}{i v di:Nat}{xs:List PV}(hc:σ[i]?=some ⟨v,.acc di xs⟩)(x y:Option β):gW (.lst i) σ x y=x:=by
 unfold gW
 dsimp only
 rw[hc]
theorem len_lst{β:Type}{G:Gl}{σ:Sto}{i:Nat}{c:Cell}{xs:List PV}(hc:σ[i]?=some c)(hd:c.d=.lst xs)(hl:xs.length≤100000)(k:PV→Sto→Option β):cQ G "len" [.lst i] σ k=k (.int xs.length) σ:=by
 have e:cQ G "len" [.lst i] σ k=gW (.lst i) σ (aR (G.lenA [.lst i] σ) k) (cY0 (.lst i) σ fun v=>k v σ):=by kernel_rfl!
 obtain⟨v,d⟩:=c
 dsimp only at hd
 subst hd
 rw[e,onAcc_y hc]
 show opt (bM σ i) _=_
 rw[show bM σ i=some xs by unfold bM;rw[hc]]
 exact gp hl
theorem len_acc{β:Type}{G:Gl}{σ:Sto}{i di:Nat}{c:Cell}{xs:List PV}{m:Int}(hG:G.lenA=lenF)(hc:σ[i]?=some c)(hd:c.d=.acc di xs)(hok:aI σ (.lst i)=true)(hi:kF σ di=some m){ps:List (Str×Str)}(hp:aX xs=some ps)
  (h1:0≤m∧m < 1000) (h2:∀p∈ps,p.1.length≤1000000∧p.2.length≤1000000) (h3:0≤m+bH ps) (h4:m+bH ps < 4611686018427387904) (k:PV→Sto→Option β):cQ G "len" [.lst i] σ k=k (.int (m+bH ps)) σ:=by
 have e:cQ G "len" [.lst i] σ k=gW (.lst i) σ (aR (G.lenA [.lst i] σ) k) (cY0 (.lst i) σ fun v=>k v σ):=by kernel_rfl!
 obtain⟨v,d⟩:=c
 dsimp only at hd
 subst hd
 rw[e,hG,dP0 hc]
 show aR (grd (aI σ (.lst i)=true) (opt σ[i]? _)) k=_
 rw[gp hok,hc]
 show aR (opt (kF σ di) _) k=_
 rw[hi]
 show aR (opt (aX xs) _) k=_
 rw[hp]
 show aR (grd _ _) k=_
 rw[gp ⟨h1,h2,h3,h4⟩]
 rfl
theorem str_acc{β:Type}{G:Gl}{σ:Sto}{i di:Nat}{c:Cell}{xs:List PV}(hG:G.strA=strF)(hc:σ[i]?=some c)(hd:c.d=.acc di xs)(hok:aI σ (.lst i)=true){ps:List (Str×Str)}(hp:aX xs=some ps)
  (h2:∀p∈ps,p.1.length+p.2.length≤1000000) (h3:ps.length≤10000) (h4:JoinOk "" (aS ps)=true) (k:PV→Sto→Option β):cQ G "str" [.lst i] σ k=k (.str (Txt.join "" (aS ps))) σ:=by
 have e:cQ G "str" [.lst i] σ k=gW (.lst i) σ (aR (G.strA [.lst i] σ) k) none:=by kernel_rfl!
 obtain⟨v,d⟩:=c
 dsimp only at hd
 subst hd
 rw[e,hG,dP0 hc]
 show aR (grd (aI σ (.lst i)=true) (opt σ[i]? _)) k=_
 rw[gp hok,hc]
 show aR (opt (aX xs) _) k=_
 rw[hp]
 show aR (grd _ _) k=_
 rw[gp ⟨h2,h3,h4⟩]
 rfl
theorem getL_at{σ:Sto}{i:Nat}{c:Cell}{xs:List PV}(hc:σ[i]?=some c)(hd:c.d=.lst xs):bM σ i=some xs:=by
 obtain⟨v,d⟩:=c
 dsimp only at hd
 subst hd
 unfold bM
 rw[hc]
theorem opt_at{α β:Type}{o:Option α}{a:α}(h:o=some a)(f:α→Option β):opt o f=f a:=by rw[h];rfl
theorem addmod{β:Type}(a b c:Int)(hc:c≠0)(σ:Sto)(K:PV→Sto→Option β):aV .Add (.int a) (.int b) σ (fun r σ=>aV .Mod r (.int c) σ K)=K (.int (Int.fmod (a+b) c)) σ:=if_neg hc
theorem ex8{B:Bs}{k:Nat}{c0 c1 c2 c3 c4 c5 c6 c7 c8:Cx}{σ0 σ1 σ2 σ3 σ4 σ5 σ6 σ7 σ8:Sto}{a1 a2 a3 a4 a5 a6 a7 a8:Stmt}(h1:S1 B k c0 σ0 (exec a1) .nxt c1 σ1)(h2:S1 B k c1 σ1 (exec a2) .nxt c2 σ2)(h3:S1 B k c2 σ2 (exec a3) .nxt c3 σ3)(h4:S1 B k c3 σ3 (exec a4) .nxt c4 σ4)
  (h5:S1 B k c4 σ4 (exec a5) .nxt c5 σ5) (h6:S1 B k c5 σ5 (exec a6) .nxt c6 σ6) (h7:S1 B k c6 σ6 (exec a7) .nxt c7 σ7) (h8:S1 B k c7 σ7 (exec a8) .nxt c8 σ8):S1 B k c0 σ0 (execs [a1,a2,a3,a4,a5,a6,a7,a8]) .nxt c8 σ8:=
 aP h1 (aP h2 (aP h3 (aP h4 (@ex4 B k _ _ _ _ _ _ _ _ _ _ _ _ _ _ @h5 @h6 @h7 @h8))))
section
variable {im:Nat→List Nat}{kvs:List (Str×PV)}(I:ImOk im kvs)
include I
theorem kG:∀(n:Nat) (w:List Nat),(∀c∈w,fil c)→∀c∈sgN im n w,fil c
 |0,_,h=>h
 |n+1,w,_=>kG n (sg im w) (zK I w)
theorem oP:∀(n:Nat) (w:List Nat),(sgN im n w).length≤4 ^ n * w.length
 |0,w=>by rw[Nat.pow_zero,Nat.one_mul];exact Nat.le_refl _
 |n+1,w=>Nat.le_trans (oP n (sg im w)) (by rw[Nat.pow_succ,Nat.mul_assoc];exact Nat.mul_le_mul_left _ (iZ I w))
theorem sD:∀(ls:List Lv) (x:Nat),(fF im x ls).length≤4 * ls.length
 |[],_=>Nat.le_refl _
 |l::ls,x=>by
  have h:=sD ls l.c
  have h2:=I.len x
  show (im x++fF im l.c ls).length≤_
  rw[List.length_append,List.length_cons,Nat.mul_succ,Nat.add_comm]
  exact Nat.add_le_add h h2
theorem oL(ls:List Lv)(x:Nat)(hx:fil x)(hok:Lad im x ls)(hD:ls.length≤4):(aD im [] ls).length+(eH im [] ls).length+1≤256∧(∀c∈aD im [] ls,fil c)∧fil (low x ls)∧∀c∈eH im [] ls,fil c:=by
 have h:=kZ im ls x [] [] hok
 have h1:=oP I ls.length [x]
 have h2:=kG I ls.length [x] fun c hc=>List.mem_singleton.mp hc▸hx
 rw[show ([]:List Nat)++[x]=[x]from rfl]at h
 rw[h]at h1 h2
 rw[List.length_append,List.length_cons,List.length_singleton,Nat.mul_one]at h1
 have h4:4 ^ ls.length≤4 ^ 4:=Nat.pow_le_pow_right (by decide) hD
 exact⟨Nat.le_trans h1 h4,fun c hc=>h2 c (List.mem_append_left _ hc),h2 _ (List.mem_append_right _ List.mem_cons_self),fun c hc=>h2 c (List.mem_append_right _ (List.mem_cons_of_mem _ hc))⟩
end
section
variable {B:Bs}{k:Nat}{T:Int→Option Str}{e:Str→Str→Option Bool}{imF fo tk:Fn}{mg mb:Str→Option Value}(ok:BsOk B)(gok:GlOk B k (GL T e imF fo aG tk) mg mb)
include ok gok
variable (t ro le rd:Str)(sp D fi:Int)(σ:Sto)
theorem ms0{n5 d cu:Nat}{nums:List PV}(hg:bM σ 1=some nums)(hn:nums[5]?=some (.int (n5:Int)))(hl:nums.length≤100000)(hr:rd.length≤100000)(hc:(n5+rd.length) % (d+1)=cu):
  S1 B k ⟨dL.names,W1 t ro le rd sp (d:Int) fi⟩ σ (exec (mB 0)) .nxt ⟨dL.names,M0 t ro le rd sp (d:Int) fi (cu:Int)⟩ σ:=by
 obtain⟨h5,e5⟩:=List.getElem?_eq_some_iff.mp hn
 refine @bI B k _ 20 ok mg mb gok _ _ _ _ _ _ ((m_0 T e imF fo aG tk 0 t ro le rd sp d fi σ _).trans ((gY σ 1 5 nums _ hg h5 hl).trans ((gp hr).trans ?_)))
 rw[e5]
 refine (addmod _ _ ((d:Int)+1) (Int.ne_of_gt (Int.lt_add_one_of_le (Int.natCast_nonneg d))) _ _).trans ?_
 rw[show Int.fmod ((n5:Int)+(rd.length:Int)) ((d:Int)+1)=(cu:Int) from (cY (n5+rd.length) (d+1)).trans (congrArg _ hc),m_0t]
 rfl
theorem ms1{cu di:Nat}{c:Cell}{xs:List PV}(hc:σ[6]?=some c)(hd:c.d=.acc di xs)(hok:aI σ (.lst 6)=true)(hl:xs.length≤10000)(hi:cu≤xs.length)(h8:σ.length=8):
  S1 B k ⟨dL.names,M0 t ro le rd sp D fi (cu:Int)⟩ σ (exec (mB 1)) .nxt ⟨dL.names,M1 t ro le rd sp D fi (cu:Int)⟩ (aC (σ++[⟨0,.lst (xs.drop cu)⟩]) 6 (.acc di (xs.take cu))):=by
 refine @bI B k _ 20 ok mg mb gok _ _ _ _ _ _ ((m_1 T e imF fo aG tk 0 t ro le rd sp D fi cu σ _).trans ((gp ⟨rfl,hok⟩).trans ((fT0 rfl hc hd hl hi _).trans ?_)))
 rw[h8,m_1t]
 rfl
theorem ms2{cu d di:Nat}{c c8:Cell}{xs ys:List PV}(hc:σ[6]?=some c)(hd:c.d=.acc di xs)(hok:aI σ (.lst 6)=true)(hc8:σ[8]?=some c8)(hd8:c8.d=.lst ys)(h:xs.length+ys.length=d)(hl:d≤10000)(hx:xs.length=cu):
  S1 B k ⟨dL.names,M1 t ro le rd sp (d:Int) fi (cu:Int)⟩ σ (exec (mB 2)) .nxt ⟨dL.names,M1 t ro le rd sp (d:Int) fi (cu:Int)⟩ σ:=by
 subst h hx
 refine @tA B k T e imF fo tk mg mb ok gok _ _ _ m_s.1 ((m_2 T e imF fo aG tk 0 t ro le rd sp _ fi _ σ _).trans ((opt_at (getL_at hc8 hd8) _).trans ((len_lst hc8 hd8 (Nat.le_trans (Nat.le_add_left ..) (Nat.le_trans hl (by decide))) _).trans ((gp ⟨rfl,hok⟩).trans ((uD rfl hc hd (Nat.le_trans (Nat.le_add_right ..) (Nat.le_trans hl (by decide))) _).trans ?_)))))
 rw[show ((xs.length+ys.length:Nat):Int) - (xs.length:Int)=(ys.length:Int) from by rw[Int.natCast_add,Int.add_comm,Int.add_sub_cancel]]
 exact cmp_ii _ _ _ _
theorem ms3(cu:Int):S1 B k ⟨dL.names,M1 t ro le rd sp D fi cu⟩ σ (exec (mB 3)) .nxt ⟨dL.names,M3 t ro le rd sp D fi "" "" ro "" cu⟩ σ:=@bI B k _ 20 ok mg mb gok _ _ _ _ _ _ (m_3 T e imF fo aG tk 0 t ro le rd sp D fi cu σ _)
theorem ms5(f b:List Nat)(lw:Nat)(st:Str)(cu:Int)(hl:f.length+(b.length+1)≤256)(hf:∀c∈f++lw::b,fil c):
  S1 B k ⟨dL.names,M3 (S (f++lw::b)) ro (S [lw]) (S f) sp D fi (S f) (S b) (S [lw]) st cu⟩ σ (exec (mB 5)) .nxt ⟨dL.names,M3 (S (f++lw::b)) ro (S [lw]) (S f) sp D fi (S f) (S b) (S [lw]) st cu⟩ σ:=by
 have e1:(f++[lw])++b=f++lw::b:=List.append_assoc ..
 have hF:f.length≤100000:=Nat.le_trans (Nat.le_add_right ..) (Nat.le_trans hl (by decide))
 refine @tA B k T e imF fo tk mg mb ok gok _ _ _ m_s.2.2.1 ((m_5 T e imF fo aG tk 0 (S (f++lw::b)) ro (S [lw]) (S f) sp D fi cu (S f) (S b) (S [lw]) st σ _).trans ((eY f [lw] (Nat.le_trans (Nat.add_le_add_left (Nat.le_add_left ..) _) (Nat.le_trans hl (by decide))) _ _).trans ((eY (f++[lw]) b ?_ _ _).trans ((gp (by rw[S_len];exact hF)).trans ((gp (by rw[S_len];exact hF)).trans ?_)))))
 ·rw[← List.length_append,e1,List.length_append]
  exact Nat.le_trans hl (by decide)
 rw[e1]
 exact cmp_sis _ _ _ _ hf (fun c hc=>hf c (List.mem_append_right _ (List.mem_singleton.mp hc▸List.mem_cons_self))) _
theorem ms6(fr ba wa:Str)(st:List Nat)(cu:Int){m d:Nat}{c:Cell}{xs:List PV}{ps:List (Str×Str)}(hc:σ[6]?=some c)(hd:c.d=.acc 5 xs)(hok:aI σ (.lst 6)=true)(hi:kF σ 5=some (m:Int))(hm:m < 1000)(hp:aX xs=some ps)(hx:xs.length=d)(hpx:ps.length=d)(hd4:d≤1000)
  (h1:∀p∈ps,p.1.length≤1000∧p.2.length≤1000) (h2:JoinOk "" (aS ps)=true) (h3:Txt.join "" (aS ps)=S st) (h4:bH ps=(st.length:Int)) (h5:st.length≤1000) (h6:∀c∈st,fil c):
  S1 B k ⟨dL.names,M3 t ro le rd sp (d:Int) (m:Int) fr ba wa (S st) cu⟩ σ (exec (mB 6)) .nxt ⟨dL.names,M3 t ro le rd sp (d:Int) (m:Int) fr ba wa (S st) cu⟩ σ:=by
 subst hx
 have hmm:(m:Int) < 1000:=Int.ofNat_lt.mpr hm
 have hs:(m:Int)+(st.length:Int) < 4611686018427387904:=Int.ofNat_lt.mpr (Nat.lt_of_lt_of_le (Nat.add_lt_add_of_lt_of_le hm h5) (by decide))
 refine @tA B k T e imF fo tk mg mb ok gok _ _ _ m_s.2.2.2 ((m_6 T e imF fo aG tk 0 t ro le rd sp (xs.length:Int) (m:Int) cu fr ba wa (S st) σ _).trans ((str_acc rfl hc hd hok hp (fun p hp=>Nat.le_trans (Nat.add_le_add (h1 p hp).1 (h1 p hp).2) (by decide)) (hpx▸Nat.le_trans hd4 (by decide)) h2 _).trans ?_))
 rw[h3]
 refine (len_acc rfl hc hd hok hi hp ⟨Int.natCast_nonneg m,hmm⟩ (fun p hp=>⟨Nat.le_trans (h1 p hp).1 (by decide),Nat.le_trans (h1 p hp).2 (by decide)⟩) (h4▸Int.natCast_nonneg (m+st.length)) (h4▸hs) _).trans ?_
 rw[h4]
 refine (gp ⟨rfl,hok⟩).trans ((uD rfl hc hd (Nat.le_trans hd4 (by decide)) _).trans ((gp (by rw[S_len];exact Nat.le_trans h5 (by decide))).trans ?_))
 rw[S_len]
 exact cmp_sii _ _ _ _ h6 _
theorem ms7(fr ba wa st:Str)(cu:Int){c:Cell}{ms:List PV}(hc:σ[7]?=some c)(hd:c.d=.lst ms)(hl:ms.length≤10000)(hok:aI σ (.lst 7)=true):
  S1 B k ⟨dL.names,M3 t ro le rd sp D fi fr ba wa st cu⟩ σ (exec (mB 7)) .nxt ⟨dL.names,M3 t ro le rd sp D fi fr ba wa st cu⟩ (aC σ 7 (.lst (ms++[.tup [.str fr,.str ba]]))):=
 @bI B k _ 20 ok mg mb gok _ _ _ _ _ _ ((m_7 T e imF fo aG tk 0 t ro le rd sp D fi cu fr ba wa st σ _).trans ((gp ⟨rfl,hok⟩).trans ((app_at hc hd hl _ _).trans rfl)))
theorem ms4i(cu:Int)(fr ba wa st:Str)(c0 c1 c2:Cell)(K1 K2:List (Str×PV))(iv:Nat)(v u:Nat)(xs ms ys:List PV)(h:xs.length+ys.length≤10000):
  It1 B k ⟨dL.names,M3 t ro le rd sp D fi fr ba wa st cu⟩ (CS c0 c1 c2 K1 K2 iv fi v u xs ms++[⟨0,.lst ys⟩]) (dQ (mB 4)) (xs++ys) (some (10,0)) (CT c0 c1 c2 K1 K2 iv fi (v+1) u [] ms ys xs (xs++ys)):=
 wD ok gok (n:=20) ((m_4i T e imF fo aG tk 0 t ro le rd sp D fi cu fr ba wa st _ _).trans ((gp ⟨rfl,(by kernel_rfl!)⟩).trans ((bV0 rfl rfl rfl (Nat.le_trans (Nat.le_add_right ..) h) _).trans
  (show grd (xs.length+ys.length≤10000) (some (xs++ys,some (10,0),CT c0 c1 c2 K1 K2 iv fi (v+1) u [] ms ys xs (xs++ys)))=_ from gp h))))
end
theorem lv_fil{im:Nat→List Nat}{kvs:List (Str×PV)}(I:ImOk im kvs){ls:List Lv}{x:Nat}(hx:fil x)(hok:Lad im x ls):(∀c∈fF im x ls,fil c)∧(∀p∈ls.map (fun l=>(S l.a,S (l.c::l.r))),p.1.length≤1000∧p.2.length≤1000)∧
  JoinOk "" (aS (ls.map fun l=>(S l.a,S (l.c::l.r))))=(JoinOk "" ((ls.map fun l=>l.a++l.c::l.r).map S))∧Txt.join "" (aS (ls.map fun l=>(S l.a,S (l.c::l.r))))=S (fF im x ls):=by
 obtain⟨_,hall⟩:=tR I ls x hx hok
 obtain⟨t1,t2⟩:=oY im ls x hok
 refine⟨fun c hc=>?_,fun p hp=>?_,by rw[t1],by rw[t1,vP,t2]⟩
 ·rw[← t2]at hc
  obtain⟨l0,hl0,hc⟩:=List.mem_flatten.mp hc
  obtain⟨l,hl,rfl⟩:=List.mem_map.mp hl0
  obtain⟨q1,q2,q3,_⟩:=hall l hl
  exact jU q3 (List.forall_mem_cons.mpr ⟨q1,q2⟩) c hc
 ·obtain⟨l,hl,rfl⟩:=List.mem_map.mp hp
  have h:=(hall l hl).2.2.2
  show (S l.a).length≤1000∧(S (l.c::l.r)).length≤1000
  rw[S_len,S_len]
  exact⟨Nat.le_trans (Nat.le_add_right ..) (Nat.le_trans h (by decide)),Nat.le_trans (Nat.succ_le_succ (Nat.le_trans (Nat.le_add_left ..) h)) (by decide)⟩
section
variable {B:Bs}{k:Nat}{T:Int→Option Str}{e:Str→Str→Option Bool}{imF fo tk:Fn}{mg mb:Str→Option Value}(ok:BsOk B)(gok:GlOk B k (GL T e imF fo aG tk) mg mb)
 {im:Nat→List Nat} {K1 K2:List (Str×PV)} (I:ImOk im K2) (F:fU0 im K1 fo) (sp:Int) (fi:Nat) (c0 c2:Cell) (nums:List PV) (iv:Nat)
include ok gok I F
theorem jP0(x:Nat)(ls:List Lv)(n5 v u:Nat)(ms:List PV)(hx:fil x)(hok:Lad im x ls)(hD:ls.length≤4)(hn:nums[5]?=some (.int (n5:Int)))(hnl:nums.length≤1000)(hfi:fi < 1000)(hms:ms.length≤1000):
  ∃v',S1 B k ⟨dL.names,W1 (S (aD im [] ls++low x ls::eH im [] ls)) (S [x]) (S [low x ls]) (S (aD im [] ls)) sp ((ls.length:Nat):Int) (fi:Int)⟩ (CS c0 ⟨0,.lst nums⟩ c2 K1 K2 iv (fi:Int) v u (ls.map lvP) ms) (execs (ifA (wB 0))) .nxt
   ⟨dL.names,W1 (S (aD im [] ls++low x ls::eH im [] ls)) (S [x]) (S [low x ls]) (S (aD im [] ls)) sp ((ls.length:Nat):Int) (fi:Int)⟩
   (CT c0 ⟨0,.lst nums⟩ c2 K1 K2 iv (fi:Int) v' (u+1) (ls.map lvP) (ms++[.tup [.str (S (aD im [] ls)),.str (S (eH im [] ls))]]) ((ls.map lvP).drop ((n5+(aD im [] ls).length) % (ls.length+1))) ((ls.map lvP).take ((n5+(aD im [] ls).length) % (ls.length+1))) (ls.map lvP)):=by
 obtain⟨hbd,hff,hfl,hfb⟩:=oL I ls x hx hok hD
 have hst:=Nat.le_trans (sD I ls x) (Nat.mul_le_mul_left 4 hD)
 obtain⟨hs1,hs2,hs3,hs4⟩:=lv_fil I hx hok
 have hpl:=jS0 im ls x hok
 have hxl:(ls.map lvP).length=ls.length:=List.length_map ..
 have h4:4 ^ ls.length≤256:=Nat.le_trans (Nat.pow_le_pow_right (by decide) hD) (by decide)
 have hcl:(n5+(aD im [] ls).length) % (ls.length+1)≤(ls.map lvP).length:=hxl▸Nat.le_of_lt_succ (Nat.mod_lt _ (Nat.succ_pos _))
 have hct:(n5+(S (aD im [] ls)).length) % (ls.length+1)=(n5+(aD im [] ls).length) % (ls.length+1):=by rw[S_len]
 have hjo:=hs3.trans (lY _ _ (by rw[uV,(oY im ls x hok).2,show (Str.ofString "").length=0 from rfl,Nat.mul_zero];exact Nat.le_trans hst (by decide)))
 generalize (n5+(aD im [] ls).length) % (ls.length+1)=cu at hcl hct ⊢
 have htk:((ls.map lvP).take cu).length=cu:=List.length_take_of_le hcl
 have hsum:((ls.map lvP).take cu).length+((ls.map lvP).drop cu).length=ls.length:=by rw[← List.length_append,List.take_append_drop,hxl]
 obtain⟨v4,HF⟩:=f_loop ok gok I F (S (aD im [] ls++low x ls::eH im [] ls)) (S [x]) (S [low x ls]) (S (aD im [] ls)) sp (ls.length:Int) (fi:Int) (cu:Int) c0 ⟨0,.lst nums⟩ c2 iv u ms ((ls.map lvP).drop cu) ((ls.map lvP).take cu) (ls.map lvP) ls [] [] [] x (v+2) [] hx hok (fun c h=>nomatch h) (fun c h=>nomatch h)
  (Nat.le_trans (Nat.le_of_eq (Nat.one_mul _)) (Nat.le_trans h4 (by decide))) (Nat.le_trans (Nat.le_of_eq (Nat.zero_add _)) (Nat.le_trans (Nat.mul_le_mul_left 4 hD) (by decide))) (Nat.le_trans (Nat.le_of_eq (Nat.zero_add _)) (Nat.le_trans hD (by decide)))
 rw[List.nil_append,List.nil_append]at HF
 have hi:=@ms4i B k T e imF fo tk mg mb ok gok (S (aD im [] ls++low x ls::eH im [] ls)) (S [x]) (S [low x ls]) (S (aD im [] ls)) sp (ls.length:Int) (fi:Int) (cu:Int) (S []) (S []) (S [x]) (S []) c0 ⟨0,.lst nums⟩ c2 K1 K2 iv (v+1) u ((ls.map lvP).take cu) ms ((ls.map lvP).drop cu) (hsum▸Nat.le_trans hD (by decide))
 rw[List.take_append_drop]at hi
 rw[mB_eq]
 exact⟨v4,@S1.keep B k dL.names _ (M3 (S (aD im [] ls++low x ls::eH im [] ls)) (S [x]) (S [low x ls]) (S (aD im [] ls)) sp (ls.length:Int) (fi:Int) (S (aD im [] ls)) (S (eH im [] ls)) (S [low x ls]) (S (fF im x ls)) (cu:Int)) _ _ _ _ (W1 (S (aD im [] ls++low x ls::eH im [] ls)) (S [x]) (S [low x ls]) (S (aD im [] ls)) sp (ls.length:Int) (fi:Int))
  (@ex8 B k _ _ _ _ _ _ _ _ _ _ _ _ _ _ _ _ _ _ _ _ _ _ _ _ _ _
   (@ms0 B k T e imF fo tk mg mb ok gok _ _ _ _ sp (fi:Int) _ n5 ls.length cu nums rfl hn (Nat.le_trans hnl (by decide)) (by rw[S_len];exact Nat.le_trans (Nat.le_add_right ..) (Nat.le_trans (Nat.le_add_right ..) (Nat.le_trans hbd (by decide)))) hct)
   (@ms1 B k T e imF fo tk mg mb ok gok _ _ _ _ sp _ (fi:Int) _ cu 5 ⟨v,.acc 5 (ls.map lvP)⟩ _ rfl rfl (kV ..) (hxl▸Nat.le_trans hD (by decide)) hcl rfl)
   (@ms2 B k T e imF fo tk mg mb ok gok _ _ _ _ sp (fi:Int) (CS c0 ⟨0,.lst nums⟩ c2 K1 K2 iv (fi:Int) (v+1) u ((ls.map lvP).take cu) ms++[⟨0,.lst ((ls.map lvP).drop cu)⟩]) cu ls.length 5 ⟨v+1,.acc 5 ((ls.map lvP).take cu)⟩ ⟨0,.lst ((ls.map lvP).drop cu)⟩ _ _ rfl rfl (by kernel_rfl!) rfl rfl hsum (Nat.le_trans hD (by decide)) htk)
   (@ms3 B k T e imF fo tk mg mb ok gok _ _ _ _ sp _ (fi:Int) _ (cu:Int))
   (@uO B k _ _ _ _ _ _ _ _ _ m_s.2.1 @hi @HF)
   (@ms5 B k T e imF fo tk mg mb ok gok _ sp _ (fi:Int) _ _ _ _ _ (cu:Int) hbd (jU hff (List.forall_mem_cons.mpr ⟨hfl,hfb⟩)))
   (@ms6 B k T e imF fo tk mg mb ok gok _ _ _ _ sp _ _ _ _ _ (cu:Int) fi ls.length ⟨v4,.acc 5 (ls.map lvP)⟩ _ _ rfl rfl (lO0 ..) rfl hfi (wG ls) hxl (List.length_map ..) (Nat.le_trans hD (by decide)) hs2 hjo hs4 hpl (Nat.le_trans hst (by decide)) hs1)
   (@ms7 B k T e imF fo tk mg mb ok gok _ _ _ _ sp _ (fi:Int) _ _ _ _ _ (cu:Int) ⟨u,.lst ms⟩ ms rfl rfl (Nat.le_trans hms (by decide)) (by kernel_rfl!))) (by kernel_rfl!)⟩
end
set_option maxHeartbeats 2000000
noncomputable def inW(sp p:Nat):Bool:=decide (sp≤p)&&decide (p < sp+3)
noncomputable def mkP(t:List Nat)(p:Nat):PV:=.tup [.str (S (t.take p)),.str (S (t.drop (p+1)))]
noncomputable def mkL(t:List Nat)(sp q:Nat):List PV:=((List.range q).filter (inW sp)).map (mkP t)
theorem kL(t:List Nat)(sp q:Nat):mkL t sp (q+1)=mkL t sp q++(if inW sp q=true then [mkP t q] else []):=by
 unfold mkL
 rw[List.range_succ,List.filter_append,List.map_append]
 congr 1
 by_cases h:inW sp q=true
 ·rw[if_pos h,List.filter_cons_of_pos h];rfl
 ·rw[if_neg h,List.filter_cons_of_neg h];rfl
theorem mkL_len(t:List Nat)(sp q:Nat):(mkL t sp q).length≤q:=by
 unfold mkL
 rw[List.length_map]
 exact Nat.le_trans (List.length_filter_le ..) (Nat.le_of_eq List.length_range)
theorem los_mk(m:Nat)(t:List Nat):∀l:List Nat,los m (l.map (mkP t))=true
 |[]=>rfl
 |_::l=>los_mk m t l
theorem jH0(m:Nat):∀l:List Lv,los m (l.map lvP)=true
 |[]=>rfl
 |_::l=>jH0 m l
noncomputable def LoC(c0 c2:Cell)(nums:List PV)(K1 K2:List (Str×PV)):Prop:=loD 8 c0.d=true∧los 8 nums=true∧loD 8 c2.d=true∧loD 8 (.dct K1)=true∧loD 8 (.dct K2)=true
theorem cs_lo{c0 c2:Cell}{nums:List PV}{K1 K2:List (Str×PV)}(L:LoC c0 c2 nums K1 K2)(iv:Nat)(fi:Int)(v u:Nat)(xs ms:List PV)(hxs:los 8 xs=true)(hms:los 8 ms=true):
  ∀(i:Nat) (c:Cell),(CS c0 ⟨0,.lst nums⟩ c2 K1 K2 iv fi v u xs ms)[i]?=some c→loD 8 c.d=true:=by
 have h:∀c∈CS c0 ⟨0,.lst nums⟩ c2 K1 K2 iv fi v u xs ms,loD 8 c.d=true:=by
  unfold CS
  refine List.forall_mem_cons.mpr ⟨L.1,List.forall_mem_cons.mpr ⟨L.2.1,List.forall_mem_cons.mpr ⟨L.2.2.1,List.forall_mem_cons.mpr ⟨L.2.2.2.1,List.forall_mem_cons.mpr ⟨L.2.2.2.2,List.forall_mem_cons.mpr ⟨rfl,List.forall_mem_cons.mpr ⟨?_,List.forall_mem_cons.mpr ⟨hms,fun c h=>nomatch h⟩⟩⟩⟩⟩⟩⟩⟩
  show (Nat.blt 5 8&&los 8 xs)=true
  rw[hxs]
  rfl
 exact fun i c hc=>h c (List.mem_of_getElem? hc)
section
variable {B:Bs}{k:Nat}{T:Int→Option Str}{e:Str→Str→Option Bool}{imF fo tk:Fn}{mg mb:Str→Option Value}(ok:BsOk B)(gok:GlOk B k (GL T e imF fo aG tk) mg mb)
 {im:Nat→List Nat} {K1 K2:List (Str×PV)} (I:ImOk im K2) (F:fU0 im K1 fo) (sp:Nat) (fi:Nat) (c0 c2:Cell) (nums:List PV) (iv:Nat) (L:LoC c0 c2 nums K1 K2)
include ok gok I F L
theorem wB_0(x:Nat)(ls:List Lv)(txt:List Nat)(n5 v u:Nat)(hx:fil x)(hok:Lad im x ls)(hD:ls.length≤4)(hn:nums[5]?=some (.int (n5:Int)))(hnl:nums.length≤1000)(hfi:fi < 1000)(ht:txt=aD im [] ls++low x ls::eH im [] ls):
  ∃v' u',S1 B k ⟨dL.names,W1 (S txt) (S [x]) (S [low x ls]) (S (aD im [] ls)) (sp:Int) ((ls.length:Nat):Int) (fi:Int)⟩ (CS c0 ⟨0,.lst nums⟩ c2 K1 K2 iv (fi:Int) v u (ls.map lvP) (mkL txt sp (aD im [] ls).length)) (exec (wB 0)) .nxt
   ⟨dL.names,W1 (S txt) (S [x]) (S [low x ls]) (S (aD im [] ls)) (sp:Int) ((ls.length:Nat):Int) (fi:Int)⟩ (CS c0 ⟨0,.lst nums⟩ c2 K1 K2 iv (fi:Int) v' u' (ls.map lvP) (mkL txt sp ((aD im [] ls).length+1))):=by
 obtain⟨hbd,_⟩:=oL I ls x hx hok hD
 obtain⟨p0,e0⟩:=w_s.2.1
 have tst:∀τ:Sto,Tr B k ⟨dL.names,W1 (S txt) (S [x]) (S [low x ls]) (S (aD im [] ls)) (sp:Int) ((ls.length:Nat):Int) (fi:Int)⟩ τ (ifT (wB 0)) (inW sp (aD im [] ls).length) τ:=fun τ=>by
  refine kH ok gok (n:=20) ((m_t T e imF fo aG tk 0 (S txt) (S [x]) (S [low x ls]) (S (aD im [] ls)) (sp:Int) ((ls.length:Nat):Int) (fi:Int) τ fun v s=>some (v,s)).trans ((gp (by rw[S_len];exact Nat.le_trans (Nat.le_add_right ..) (Nat.le_trans (Nat.le_add_right ..) (Nat.le_trans hbd (by decide))))).trans ?_))
  rw[S_len]
  unfold inW
  by_cases h:sp≤(aD im [] ls).length
  ·rw[decide_eq_true h,decide_eq_true (Int.ofNat_le.mpr h),Bool.true_and]
   exact congrArg (fun b=>some (b,τ)) (decide_eq_decide.mpr (show ((aD im [] ls).length:Int) < ((sp+3:Nat):Int)↔_ from Int.ofNat_lt))
  ·rw[decide_eq_false h,decide_eq_false (fun q=>h (Int.ofNat_le.mp q)),Bool.false_and]
   rfl
 rw[e0,kL]
 cases hw:inW sp (aD im [] ls).length with
 |false=>
  have ht:=tst (CS c0 ⟨0,.lst nums⟩ c2 K1 K2 iv (fi:Int) v u (ls.map lvP) (mkL txt sp (aD im [] ls).length))
  rw[hw]at ht
  refine⟨v,u,?_⟩
  rw[if_neg Bool.false_ne_true,List.append_nil]
  exact @nZ B k _ _ _ _ _ _ _ _ _ _ false ht (@fZ B k _ _)
 |true=>
  have htt:=tst (CS c0 ⟨0,.lst nums⟩ c2 K1 K2 iv (fi:Int) v u (ls.map lvP) (mkL txt sp (aD im [] ls).length))
  rw[hw]at htt
  obtain⟨v',H⟩:=@jP0 B k T e imF fo tk mg mb ok gok im K1 K2 I F (sp:Int) fi c0 c2 nums iv x ls n5 v u (mkL txt sp (aD im [] ls).length) hx hok hD hn hnl hfi (Nat.le_trans (mkL_len ..) (Nat.le_trans (Nat.le_trans (Nat.le_add_right ..) (Nat.le_add_right ..)) (Nat.le_trans hbd (by decide))))
  rw[← ht]at H
  have hm:mkP txt (aD im [] ls).length=.tup [.str (S (aD im [] ls)),.str (S (eH im [] ls))]:=by
   unfold mkP
   rw[ht,List.take_left,← List.drop_drop,List.drop_left]
   rfl
  refine⟨v',u+1,?_⟩
  rw[if_pos rfl,hm]
  have hle:((W1 (S txt) (S [x]) (S [low x ls]) (S (aD im [] ls)) (sp:Int) ((ls.length:Nat):Int) (fi:Int)).all fun p=>lo 8 p.2)=true:=by kernel_rfl!
  have hcs:=cs_lo L iv (fi:Int) v' (u+1) (ls.map lvP) (mkL txt sp (aD im [] ls).length++[.tup [.str (S (aD im [] ls)),.str (S (eH im [] ls))]]) (jH0 8 ls) (by rw[← hm,← show mkL txt sp ((aD im [] ls).length+1)=mkL txt sp (aD im [] ls).length++[mkP txt (aD im [] ls).length] by rw[kL,hw];rfl];exact los_mk 8 txt _)
  have hdrop:=@S1.drop B k _ _ _ _ _ _ _ @H (Nat.le_refl _) (fun i c hc=>.inr (hcs i c hc)) hle rfl
  exact @nZ B k _ _ _ _ _ _ _ _ _ _ true htt @hdrop
theorem wT(re rd txt le:List Nat)(ro ah:Str)(D:Int)(σ:Sto)(hr:rd.length≤1000)(ht:txt.length≤1000):Tr B k ⟨dL.names,W0 (S txt) ro (S le) (S rd) (sp:Int) D (fi:Int) (S re) ah⟩ σ (whT (stAt dL 10)) (!(decide (re=[]))&&decide (rd.length < txt.length)) σ:=by
 refine kH ok gok (n:=20) ((w_t T e imF fo aG tk 0 (S txt) ro (S le) (S rd) (sp:Int) D (fi:Int) (S re) ah σ fun v s=>some (v,s)).trans ?_)
 cases re with
 |nil=>rfl
 |cons c re=>
  rw[wK,gp (by rw[S_len];exact Nat.le_trans hr (by decide)),gp (by rw[S_len];exact Nat.le_trans ht (by decide)),S_len,S_len]
  show onB true (onB (decide ((rd.length:Int) < (txt.length:Int))) (some (true,σ)) (some (false,σ))) _=some ((true&&decide (rd.length < txt.length)),σ)
  rw[decide_eq_decide.mpr (show (rd.length:Int) < (txt.length:Int)↔rd.length < txt.length from Int.ofNat_lt)]
  cases decide (rd.length < txt.length)<;>rfl
theorem w10_loop(x:Nat)(txt:List Nat)(n5:Nat)(N:Nat)(hx:fil x)(hN:N+1≤4)(hn:nums[5]?=some (.int (n5:Int)))(hnl:nums.length≤1000)(hfi:fi < 1000)(htx:txt=sgN im (N+1) [x]):∀(m:Nat) (ls:List Lv) (re ah:List Nat) (v u:Nat),re≠[]→Lad im x ls→ls.length=N+1→txt.length - (aD im [] ls).length≤m→
  ∃v' u' le',eF B k ⟨dL.names,W0 (S txt) (S [x]) (S [low x ls]) (S (aD im [] ls)) (sp:Int) ((N+1:Nat):Int) (fi:Int) (S re) (S ah)⟩ (CS c0 ⟨0,.lst nums⟩ c2 K1 K2 iv (fi:Int) v u (ls.map lvP) (mkL txt sp (aD im [] ls).length)) (whT (stAt dL 10)) (whB (stAt dL 10)) .nxt
   ⟨dL.names,W0 (S txt) (S [x]) (S le') (S txt) (sp:Int) ((N+1:Nat):Int) (fi:Int) (S []) (S [])⟩ (CS c0 ⟨0,.lst nums⟩ c2 K1 K2 iv (fi:Int) v' u' [] (mkL txt sp txt.length)):=fun m=>by
 induction m with
 |zero=>
  intro ls re ah v u hre hok hl hm
  have h:=kZ im ls x [] [] hok
  rw[hl,show ([]:List Nat)++[x]=[x]from rfl,← htx]at h
  rw[h,List.length_append,List.length_cons,Nat.add_sub_cancel_left]at hm
  exact absurd hm (Nat.not_succ_le_zero _)
 |succ m ih=>
  intro ls re ah v u hre hok hl hm
  have h:=kZ im ls x [] [] hok
  rw[hl,show ([]:List Nat)++[x]=[x]from rfl,← htx]at h
  have hlt:(aD im [] ls).length < txt.length:=by rw[h,List.length_append,List.length_cons];exact Nat.lt_add_of_pos_right (Nat.succ_pos _)
  obtain⟨hbd,_⟩:=oL I ls x hx hok (hl▸hN)
  have htl:txt.length≤256:=by rw[h,List.length_append,List.length_cons];exact hbd
  have ht1:txt.length≤1000:=Nat.le_trans htl (by decide)
  have hf1:(aD im [] ls).length≤1000:=Nat.le_trans (Nat.le_of_lt hlt) ht1
  obtain⟨v1,u1,H0⟩:=@wB_0 B k T e imF fo tk mg mb ok gok im K1 K2 I F sp fi c0 c2 nums iv L x ls txt n5 v u hx hok (hl▸hN) hn hnl hfi h
  rw[hl]at H0
  have ht:=@wT B k T e imF fo tk mg mb ok gok im K1 K2 I F sp fi c0 c2 nums L re (aD im [] ls) txt [low x ls] (S [x]) (S ah) ((N+1:Nat):Int) (CS c0 ⟨0,.lst nums⟩ c2 K1 K2 iv (fi:Int) v u (ls.map lvP) (mkL txt sp (aD im [] ls).length)) hf1 ht1
  rw[decide_eq_false hre,decide_eq_true hlt]at ht
  obtain⟨l,rs,hls⟩:∃l rs,ls=(l::rs).reverse:=by
   cases hr:ls.reverse with
   |nil=>rw[List.reverse_eq_nil_iff.mp hr]at hl;cases hl
   |cons l rs=>exact⟨l,rs,by rw[← hr,List.reverse_reverse]⟩
  have hrl:rs.length=N:=by rw[hls,List.length_reverse,List.length_cons]at hl;exact Nat.succ.inj hl
  rcases @turn_tail B k T e imF fo tk mg mb ok gok im K1 K2 I (S txt) (S [x]) (sp:Int) (fi:Int) c0 ⟨0,.lst nums⟩ c2 iv l rs x (aD im [] ls) v1 u1 (mkL txt sp ((aD im [] ls).length+1)) hx (hls▸hok) (hrl▸Nat.le_trans (Nat.le_of_succ_le hN) (by decide)) hf1 with⟨v2,hend,H1⟩ | ⟨ls',v2,re',ah',hre',hok',hl',hfr,H1⟩
  ·rw[← hls,hrl]at H1
   rw[← hls]at hend
   have he:aD im [] ls++[low x ls]=txt:=by rw[ends im ls x [] hok hend,hl,htx];rfl
   rw[he]at H1
   have hll:(aD im [] ls).length+1=txt.length:=by rw[← he,List.length_append,List.length_singleton]
   rw[hll]at H0 H1
   have HB:S1 B k ⟨dL.names,W0 (S txt) (S [x]) (S [low x ls]) (S (aD im [] ls)) (sp:Int) ((N+1:Nat):Int) (fi:Int) (S re) (S ah)⟩ (CS c0 ⟨0,.lst nums⟩ c2 K1 K2 iv (fi:Int) v u (ls.map lvP) (mkL txt sp (aD im [] ls).length)) (execs (whB (stAt dL 10))) .nxt
     ⟨dL.names,W0 (S txt) (S [x]) (S [low x ls]) (S txt) (sp:Int) ((N+1:Nat):Int) (fi:Int) (S []) (S [])⟩ (CS c0 ⟨0,.lst nums⟩ c2 K1 K2 iv (fi:Int) v2 u1 [] (mkL txt sp txt.length)):=by
    rw[wB_eq]
    exact @S1.pre B k _ _ ⟨dL.names,W1 (S txt) (S [x]) (S [low x ls]) (S (aD im [] ls)) (sp:Int) ((N+1:Nat):Int) (fi:Int)⟩ _ _ _ _ (@aP B k _ _ _ _ _ _ _ _ _ @H0 @H1) rfl (by kernel_rfl!)
   have ht2:=@wT B k T e imF fo tk mg mb ok gok im K1 K2 I F sp fi c0 c2 nums L [] txt txt [low x ls] (S [x]) (S []) ((N+1:Nat):Int) (CS c0 ⟨0,.lst nums⟩ c2 K1 K2 iv (fi:Int) v2 u1 [] (mkL txt sp txt.length)) ht1 ht1
   exact⟨v2,u1,[low x ls],jO ht @HB (gX ht2)⟩
  ·rw[← hls,hrl]at H1
   rw[← hls]at hfr
   rw[hrl]at hl'
   rw[← hfr]at H1
   have hll:(aD im [] ls).length+1=(aD im [] ls').length:=by rw[hfr,List.length_append,List.length_singleton]
   rw[hll]at H0 H1
   obtain⟨v3,u3,le3,H2⟩:=ih ls' re' ah' v2 u1 hre' hok' hl' (hll▸Nat.pred_le_pred hm)
   have HB:S1 B k ⟨dL.names,W0 (S txt) (S [x]) (S [low x ls]) (S (aD im [] ls)) (sp:Int) ((N+1:Nat):Int) (fi:Int) (S re) (S ah)⟩ (CS c0 ⟨0,.lst nums⟩ c2 K1 K2 iv (fi:Int) v u (ls.map lvP) (mkL txt sp (aD im [] ls).length)) (execs (whB (stAt dL 10))) .nxt
     ⟨dL.names,W0 (S txt) (S [x]) (S [low x ls']) (S (aD im [] ls')) (sp:Int) ((N+1:Nat):Int) (fi:Int) (S re') (S ah')⟩ (CS c0 ⟨0,.lst nums⟩ c2 K1 K2 iv (fi:Int) v2 u1 (ls'.map lvP) (mkL txt sp (aD im [] ls').length)):=by
    rw[wB_eq]
    exact @S1.pre B k _ _ ⟨dL.names,W1 (S txt) (S [x]) (S [low x ls]) (S (aD im [] ls)) (sp:Int) ((N+1:Nat):Int) (fi:Int)⟩ _ _ _ _ (@aP B k _ _ _ _ _ _ _ _ _ @H0 @H1) rfl (by kernel_rfl!)
   exact⟨v3,u3,le3,jO ht @HB H2⟩
end
set_option maxHeartbeats 2000000
noncomputable def zD:List Int:=[4476,800,7684,0,4,2]
noncomputable def A0:LE:=[("script",.lst 0)]
noncomputable def A1:LE:=[("base",.tup (iL zD)),("script",.lst 0)]
noncomputable def A2:LE:=[("numbers",.lst 1)]
noncomputable def A3:LE:=[("images",.lst 4),("typed",.lst 3),("numbers",.lst 1)]
noncomputable def A4(ro:Str)(fi:Int):LE:=("first",.int fi)::("root",.str ro)::A3
noncomputable def A6(t ro:Str)(D fi:Int):LE:=("deep",.int D)::("text",.str t)::A4 ro fi
noncomputable def A7(t ro:Str)(sp D fi:Int):LE:=("pile",.lst 6)::("spot",.int sp)::A6 t ro D fi
noncomputable def A8(t ro le re ah:Str)(sp D fi:Int):LE:=("rest",.str re)::("ahead",.str ah)::("letter",.str le)::A7 t ro sp D fi
section
variable {β:Type}(T:Int→Option Str)(e:Str→Str→Option Bool)(im fo dn tk:Fn)(n:Nat)
theorem lg_0(σ:Sto)(k:Fl→Cx→Sto→Option β):exK (GL T e im fo dn tk) (n+20) ⟨dL.names,A0⟩ σ (stAt dL 0) k=k .nxt ⟨dL.names,A1⟩ σ:=by kernel_rfl!
theorem lg_1s:AsgIs (stAt dL 1):=fun β G n cx σ k=>by kernel_rfl!
noncomputable def eN:Expr:=mJ (stAt dL 1)
theorem lg_1l:aX0 ⟨dL.names,A1⟩ eN:=fun β G n σ k=>by kernel_rfl!
theorem lg_1i(σ:Sto)(k:List PV→Option (Nat×Nat)→Sto→Option β):bP (GL T e im fo dn tk) (n+5) ⟨dL.names,A1⟩ σ (lcI eN) k=k (enumed 0 (iL zD)) none σ:=by kernel_rfl!
noncomputable def lCN:LE:=capt ⟨dL.names,A1⟩ (lcN eN)
theorem lg_1a(a b:PV):aH ⟨lcN eN,lCN⟩ (lcT eN) (.tup [a,b])=some ⟨lcN eN,("own",b)::("k",a)::lCN⟩:=by kernel_rfl!
theorem lg_1b(u v a b:PV):aH ⟨lcN eN,("own",u)::("k",v)::lCN⟩ (lcT eN) (.tup [a,b])=some ⟨lcN eN,("own",b)::("k",a)::lCN⟩:=by kernel_rfl!
theorem lg_1c(i w:Int)(v:Nat)(L:List PV)(K:Option PV→Sto→Option β):iJ (GL T e im fo dn tk) (n+20) ⟨lcN eN,("own",.int w)::("k",.int i)::lCN⟩ [⟨v,.lst L⟩] eN K=
 grd (L.length≤100000) (onB (decide (i < (L.length:Int)))
  (bT (.lst 0) (.int i) [⟨v,.lst L⟩] fun x=>aV .Add (.int w) x [⟨v,.lst L⟩] fun r σ=>aV .Mod r (.int 1000000) σ fun r σ=>K (some r) σ)
  (K (some (.int (Int.fmod (w+0) 1000000))) [⟨v,.lst L⟩])):=by kernel_rfl!
theorem lg_1t:aH ⟨dL.names,A1⟩ (dB (stAt dL 1)) (.lst 1)=some ⟨dL.names,("numbers",.lst 1)::A1⟩:=by kernel_rfl!
theorem lg_2(σ:Sto)(k:Fl→Cx→Sto→Option β):exK (GL T e im fo dn tk) (n+20) ⟨dL.names,A2⟩ σ (stAt dL 2) k=
 sliK (.lst 1) none (some 3) none σ fun v σ=>aR (im [v] σ) fun v σ=>opt (aH ⟨dL.names,A2⟩ (dB (stAt dL 2)) v) fun cx'=>k .nxt cx' σ:=by kernel_rfl!
theorem lg_2t:aH ⟨dL.names,A2⟩ (dB (stAt dL 2)) (.tup [.lst 3,.lst 4])=some ⟨dL.names,A3⟩:=by kernel_rfl!
theorem lg_4(σ:Sto)(k:Fl→Cx→Sto→Option β):exK (GL T e im fo dn tk) (n+20) ⟨dL.names,A3⟩ σ (stAt dL 4) k=
 bT (.lst 1) (.int 3) σ fun x=>aV .Mod x (.int 3) σ fun i σ=>bT (.str "fil") i σ fun r=>bT (.lst 1) (.int 5) σ fun y=>aV .Mod y (.int 3) σ fun f σ=>opt (aH ⟨dL.names,A3⟩ (dB (stAt dL 4)) (.tup [r,f])) fun cx'=>k .nxt cx' σ:=by kernel_rfl!
theorem lg_4t(ro:Str)(fi:Int):aH ⟨dL.names,A3⟩ (dB (stAt dL 4)) (.tup [.str ro,.int fi])=some ⟨dL.names,A4 ro fi⟩:=by kernel_rfl!
theorem lg_5(ro:Str)(fi:Int)(σ:Sto)(k:Fl→Cx→Sto→Option β):exK (GL T e im fo dn tk) (n+20) ⟨dL.names,A4 ro fi⟩ σ (stAt dL 5) k=k .nxt ⟨dL.names,A6 ro ro 0 fi⟩ σ:=by kernel_rfl!
theorem lg_6t(t ro:Str)(D fi:Int)(σ:Sto)(k:Bool→Sto→Option β):dH (GL T e im fo dn tk) (n+20) ⟨dL.names,A6 t ro D fi⟩ σ (whT (stAt dL 6)) k=
 grd (t.length≤100000) (onB (decide ((t.length:Int) < 9)) (onB (decide (D < 4)) (k true σ) (k false σ)) (k false σ)):=by kernel_rfl!
theorem lg_6b(t ro:Str)(D fi:Int)(σ:Sto)(k:Fl→Cx→Sto→Option β):cC (GL T e im fo dn tk) (n+20) ⟨dL.names,A6 t ro D fi⟩ σ (whB (stAt dL 6)) k=
 aR (fo [.str t,.lst 3] σ) fun v σ=>opt (aH ⟨dL.names,A6 t ro D fi⟩ (dB ((whB (stAt dL 6)).getD 0 (stAt dL 6))) (.tup [v,.int (D+1)])) fun cx'=>k .nxt cx' σ:=by kernel_rfl!
theorem lg_6s(t t' ro:Str)(D fi D':Int):aH ⟨dL.names,A6 t ro D fi⟩ (dB ((whB (stAt dL 6)).getD 0 (stAt dL 6))) (.tup [.str t',.int D'])=some ⟨dL.names,A6 t' ro D' fi⟩:=by kernel_rfl!
theorem lg_7(t ro:Str)(D fi:Int)(σ:Sto)(k:Fl→Cx→Sto→Option β):exK (GL T e im fo dn tk) (n+20) ⟨dL.names,A6 t ro D fi⟩ σ (stAt dL 7) k=
 bT (.lst 1) (.int 4) σ fun x=>grd (t.length≤100000) (aV .Mod x (.int t.length) σ fun s σ=>opt (aH ⟨dL.names,A6 t ro D fi⟩ (dB (stAt dL 7)) (.tup [s,.lst (σ.length+1)])) fun cx'=>k .nxt cx' (σ++[⟨1,.ins [("_initial_size",.int fi)]⟩,⟨1,.acc σ.length []⟩])):=by kernel_rfl!
theorem lg_7t(t ro:Str)(sp D fi:Int):aH ⟨dL.names,A6 t ro D fi⟩ (dB (stAt dL 7)) (.tup [.int sp,.lst 6])=some ⟨dL.names,A7 t ro sp D fi⟩:=by kernel_rfl!
theorem lg_8(t ro:Str)(sp D fi:Int)(σ:Sto)(k:Fl→Cx→Sto→Option β):exK (GL T e im fo dn tk) (n+20) ⟨dL.names,A7 t ro sp D fi⟩ σ (stAt dL 8) k=
 aR (dn [.lst 6,.str ro,.lst 4,.int D] σ) fun v σ=>opt (aH ⟨dL.names,A7 t ro sp D fi⟩ (dB (stAt dL 8)) (.tup [v,.str "",.str ro])) fun cx'=>k .nxt cx' σ:=by kernel_rfl!
theorem lg_8t(t ro le:Str)(sp D fi:Int):aH ⟨dL.names,A7 t ro sp D fi⟩ (dB (stAt dL 8)) (.tup [.str le,.str "",.str ro])=some ⟨dL.names,A8 t ro le ro "" sp D fi⟩:=by kernel_rfl!
theorem lg_9(t ro le re ah:Str)(sp D fi:Int)(σ:Sto)(k:Fl→Cx→Sto→Option β):exK (GL T e im fo dn tk) (n+20) ⟨dL.names,A8 t ro le re ah sp D fi⟩ σ (stAt dL 9) k=
 opt (aH ⟨dL.names,A8 t ro le re ah sp D fi⟩ (dB (stAt dL 9)) (.tup [.str "",.lst σ.length])) fun cx'=>k .nxt cx' (σ++[⟨0,.lst []⟩]):=by kernel_rfl!
theorem lg_9t(t ro le re ah:Str)(sp D fi:Int):aH ⟨dL.names,A8 t ro le re ah sp D fi⟩ (dB (stAt dL 9)) (.tup [.str "",.lst 7])=some ⟨dL.names,("marks",.lst 7)::("read",.str "")::A8 t ro le re ah sp D fi⟩:=by kernel_rfl!
theorem lg_s:(∃pos,stAt dL 6=.While (whT (stAt dL 6)) (whB (stAt dL 6)) [] pos)∧(∃pos,stAt dL 3=.If (ifT (stAt dL 3)) (ifA (stAt dL 3)) [] pos)∧∃pos,stAt dL 11=.If (ifT (stAt dL 11)) (ifA (stAt dL 11)) [] pos:=⟨⟨_,rfl⟩,⟨_,rfl⟩,⟨_,rfl⟩⟩
end
set_option maxHeartbeats 2000000
theorem qC{β:Type}{G:Gl}{M:Nat}{cx:Cx}{σ σ₁:Sto}{e:Expr}{items:List PV}(hM:items.length+21≤M)(hlc:aX0 cx e)(hit:∀K:List PV→Option (Nat×Nat)→Sto→Option β,bP G M cx σ (lcI e) K=K items none σ₁)
  (b:PV→LE) (f:PV→Option PV) (hb0:∀v∈items,aH ⟨lcN e,capt cx (lcN e)⟩ (lcT e) v=some ⟨lcN e,b v⟩) (hb:∀v∈items,∀u,aH ⟨lcN e,b u⟩ (lcT e) v=some ⟨lcN e,b v⟩)
  (hf:∀v∈items,∀n (K:Option PV→Sto→Option β),iJ G (n+20) ⟨lcN e,b v⟩ σ₁ e K=K (f v) σ₁) (hl:items.length≤100000) (k:PV→Sto→Option β):
  evK G (M+1) cx σ e k=k (.lst σ₁.length) (σ₁++[⟨0,.lst (items.filterMap f)⟩]):=by
 obtain⟨n,rfl⟩:∃n,M=n+(20+1)+items.length:=by
  obtain⟨n,e⟩:=Nat.le.dest hM
  exact⟨n,by rw[← e,Nat.add_comm,Nat.add_comm items.length,Nat.add_assoc]⟩
 exact (hlc ..).trans ((hit _).trans ((vY (w:=none) f 20 rfl items n (fun vs σ₂=>grd (vs.length≤100000) (k (.lst σ₂.length) (σ₂++[⟨0,.lst vs⟩]))) hb0 hb hf).trans (if_pos (Nat.le_trans (List.length_filterMap_le ..) hl))))
theorem qO{β:Type}(a b:Int)(hb:b≠0)(σ:Sto)(k:PV→Sto→Option β):aV .Mod (.int a) (.int b) σ k=k (.int (Int.fmod a b)) σ:=if_neg hb
theorem sR(x:Int):∃a:Nat,Int.fmod x 1000000=a:=⟨(Int.fmod x 1000000).toNat,(Int.toNat_of_nonneg (by rw[Int.fmod_eq_emod_of_nonneg _ (by decide)];exact Int.emod_nonneg _ (by decide))).symm⟩
noncomputable def fNum(script:List Int):PV→Option PV
 |.tup [a,b]=>match a with
  |.int i=>match b with
   |.int w=>some (.int (Int.fmod (w+script.getD i.toNat 0) 1000000))
   |_=>none
  |_=>none
 |_=>none
noncomputable def bNum:PV→LE
 |.tup [a,b]=>("own",b)::("k",a)::lCN
 |_=>lCN
theorem gC:∀(l:List Int) (n:Nat) {v:PV},v∈enumed n (iL l)→∃(i:Nat) (w:Int),v=.tup [.int (i:Int),.int w]
 |[],_,_,h=>absurd h List.not_mem_nil
 |x::l,n,_,h=>(List.mem_cons.mp h).elim (fun e=>⟨n,x,e⟩) fun h=>gC l (n+1) h
theorem bNum_or(u:PV):bNum u=lCN∨∃a b:PV,bNum u=((("own":Str),b)::(("k":Str),a)::lCN:LE):=by
 unfold bNum
 split
 ·exact .inr ⟨_,_,rfl⟩
 ·exact .inl rfl
theorem num_at{β:Type}(T:Int→Option Str)(e:Str→Str→Option Bool)(im fo dn tk:Fn)(script:List Int)(hs:script.length≤1000)(v i:Nat)(w:Int)(n:Nat)(K:Option PV→Sto→Option β):
  iJ (GL T e im fo dn tk) (n+20) ⟨lcN eN,("own",.int w)::("k",.int (i:Int))::lCN⟩ [⟨v,.lst (iL script)⟩] eN K=K (some (.int (Int.fmod (w+script.getD i 0) 1000000))) [⟨v,.lst (iL script)⟩]:=by
 rw[lg_1c,gp (by rw[qS];exact Nat.le_trans hs (by decide)),qS]
 by_cases hi:i < script.length
 ·rw[decide_eq_true (Int.ofNat_lt.mpr hi)]
  refine (oT ..).trans ((gY _ 0 i (iL script) _ rfl (by rw[qS];exact hi) (by rw[qS];exact Nat.le_trans hs (by decide))).trans ?_)
  have:(iL script)[i]'(by rw[qS];exact hi)=.int script[i]:=List.getElem_map ..
  rw[this,List.getD_eq_getElem?_getD,List.getElem?_eq_getElem hi]
  exact qO (w+script[i]) 1000000 (by decide) _ (fun r σ=>K (some r) σ)
 ·rw[decide_eq_false (fun q=>hi (Int.ofNat_lt.mp q)),List.getD_eq_getElem?_getD,List.getElem?_eq_none (Nat.not_lt.mp hi)]
  rfl
noncomputable def nL(a b c d q s:Nat):List PV:=[.int (a:Int),.int (b:Int),.int (c:Int),.int (d:Int),.int (q:Int),.int (s:Int)]
theorem nL_at(script:List Int):∃a b c d q s:Nat,(enumed 0 (iL zD)).filterMap (fNum script)=nL a b c d q s:=by
 obtain⟨n0,e0⟩:=sR (4476+script.getD 0 0)
 obtain⟨n1,e1⟩:=sR (800+script.getD 1 0)
 obtain⟨n2,e2⟩:=sR (7684+script.getD 2 0)
 obtain⟨n3,e3⟩:=sR (0+script.getD 3 0)
 obtain⟨n4,e4⟩:=sR (4+script.getD 4 0)
 obtain⟨n5,e5⟩:=sR (2+script.getD 5 0)
 refine⟨n0,n1,n2,n3,n4,n5,?_⟩
 show [PV.int (Int.fmod (4476+script.getD 0 0) 1000000),PV.int (Int.fmod (800+script.getD 1 0) 1000000),PV.int (Int.fmod (7684+script.getD 2 0) 1000000),PV.int (Int.fmod (0+script.getD 3 0) 1000000),PV.int (Int.fmod (4+script.getD 4 0) 1000000),PV.int (Int.fmod (2+script.getD 5 0) 1000000)]=_
 rw[e0,e1,e2,e3,e4,e5]
 rfl
theorem iJ0{β:Type}(c:Nat)(lo hi:Option Int)(σ:Sto)(xs:List PV)(hx:bM σ c=some xs)(hl:xs.length≤100000)(k:PV→Sto→Option β):sliK (.lst c) lo hi none σ k=k (.lst σ.length) (σ++[⟨0,.lst (fY xs lo hi none)⟩]):=by
 refine (if_neg (fun h=>nomatch h)).trans ?_
 show opt (bM σ c) _=_
 rw[hx]
 exact gp hl
theorem pick_3(a b c d q s:Nat):fY (nL a b c d q s) none (some 3) none=[.int (a:Int),.int (b:Int),.int (c:Int)]:=by kernel_rfl!
section
variable {B:Bs}{k:Nat}{T:Int→Option Str}{e:Str→Str→Option Bool}{fo tk:Fn}{mg mb:Str→Option Value}(ok:BsOk B)(gok:GlOk B k (GL T e gT fo aG tk) mg mb)
include ok gok
theorem s_01(v:Nat)(script:List Int)(hs:script.length≤1000):∃a b c d q s:Nat,S1 B k ⟨dL.names,A0⟩ [⟨v,.lst (iL script)⟩] (exec (stAt dL 0)) .nxt ⟨dL.names,A1⟩ [⟨v,.lst (iL script)⟩]∧S1 B k ⟨dL.names,A1⟩ [⟨v,.lst (iL script)⟩] (exec (stAt dL 1)) .nxt ⟨dL.names,A2⟩ [⟨v,.lst (iL script)⟩,⟨0,.lst (nL a b c d q s)⟩]:=by
 obtain⟨a,b,c,d,q,s,hn⟩:=nL_at script
 refine⟨a,b,c,d,q,s,?_⟩
 have s0:S1 B k ⟨dL.names,A0⟩ [⟨v,.lst (iL script)⟩] (exec (stAt dL 0)) .nxt ⟨dL.names,A1⟩ [⟨v,.lst (iL script)⟩]:=@bI B k _ 20 ok mg mb gok _ _ _ _ _ _ (lg_0 T e gT fo aG tk 0 _ _)
 have C:=fun K=>qC (β:=Fl×Cx×Sto) (G:=GL T e gT fo aG tk) (M:=35) (σ:=[⟨v,.lst (iL script)⟩]) (items:=enumed 0 (iL zD)) (by decide) lg_1l (fun K=>lg_1i (β:=Fl×Cx×Sto) T e gT fo aG tk 30 [⟨v,.lst (iL script)⟩] K) bNum (fNum script) (fun v hv=>by
   obtain⟨i,w,rfl⟩:=gC zD 0 hv
   exact lg_1a _ _) (fun v hv u=>by
   obtain⟨i,w,rfl⟩:=gC zD 0 hv
   rcases bNum_or u with hu | ⟨a,b,hu⟩<;>rw[hu]
   ·exact lg_1a _ _
   ·exact lg_1b _ _ _ _) (fun v hv n K=>by
   obtain⟨i,w,rfl⟩:=gC zD 0 hv
   exact num_at T e gT fo aG tk script hs _ _ _ n K) (by decide) K
 rw[hn]at C
 have s1:S1 B k ⟨dL.names,A1⟩ [⟨v,.lst (iL script)⟩] (exec (stAt dL 1)) .nxt ⟨dL.names,("numbers",.lst 1)::A1⟩ [⟨v,.lst (iL script)⟩,⟨0,.lst (nL a b c d q s)⟩]:=
  @bI B k _ 37 ok mg mb gok _ _ _ _ _ _ (asgN (G:=GL T e gT fo aG tk) (n:=36) lg_1s C lg_1t fun f c s=>some (f,c,s))
 exact⟨@s0,@S1.keep B k dL.names _ _ _ _ _ _ A2 @s1 (by kernel_rfl!)⟩
theorem s_2(c0:Cell)(a b c d q s:Nat):S1 B k ⟨dL.names,A2⟩ [c0,⟨0,.lst (nL a b c d q s)⟩] (exec (stAt dL 2)) .nxt ⟨dL.names,A3⟩ [c0,⟨0,.lst (nL a b c d q s)⟩,⟨0,.lst [.int (a:Int),.int (b:Int),.int (c:Int)]⟩,⟨3,.dct (fT a b c)⟩,⟨3,.dct (jJ a b c)⟩]:=by
 refine @bI B k _ 20 ok mg mb gok _ _ _ _ _ _ ((lg_2 T e gT fo aG tk 0 _ _).trans ?_)
 refine (iJ0 1 none (some 3) _ (nL a b c d q s) rfl (show 6≤100000 by decide) _).trans ?_
 rw[pick_3]
 have hi:gT [.lst 2] ([c0,⟨0,.lst (nL a b c d q s)⟩]++[⟨0,.lst [.int (a:Int),.int (b:Int),.int (c:Int)]⟩])=some (.tup [.lst 3,.lst 4],[c0,⟨0,.lst (nL a b c d q s)⟩,⟨0,.lst [.int (a:Int),.int (b:Int),.int (c:Int)]⟩,⟨3,.dct (fT a b c)⟩,⟨3,.dct (jJ a b c)⟩]):=
  (show _=grd ((0:Int)≤(a:Int)∧(0:Int)≤(b:Int)∧(0:Int)≤(c:Int)) (some (PV.tup [.lst 3,.lst 4],([c0,⟨0,.lst (nL a b c d q s)⟩,⟨0,.lst [.int (a:Int),.int (b:Int),.int (c:Int)]⟩,⟨3,.dct (fT (a:Int).toNat (b:Int).toNat (c:Int).toNat)⟩,⟨3,.dct (jJ (a:Int).toNat (b:Int).toNat (c:Int).toNat)⟩]:Sto))) from rfl).trans (gp ⟨Int.natCast_nonneg a,Int.natCast_nonneg b,Int.natCast_nonneg c⟩)
 show aR (gT [.lst 2] ([c0,⟨0,.lst (nL a b c d q s)⟩]++[⟨0,.lst [.int (a:Int),.int (b:Int),.int (c:Int)]⟩])) _=_
 rw[hi,bL,lg_2t]
 rfl
end
set_option maxHeartbeats 2000000
noncomputable def eF3:Expr:=cmpL (ifT (stAt dL 3))
noncomputable def eI3:Expr:=cmpR (ifT (stAt dL 3))
noncomputable def hR0:List PV:=[.str (S [102]),.str (S [105]),.str (S [108])]
noncomputable def lCF:LE:=capt ⟨dL.names,A3⟩ (lcN eF3)
noncomputable def lCI:LE:=capt ⟨dL.names,A3⟩ (lcN eI3)
section
variable {β:Type}(T:Int→Option Str)(e:Str→Str→Option Bool)(im fo dn tk:Fn)(n:Nat)
theorem lg_3c:CmpIs (ifT (stAt dL 3)):=fun β G n cx σ k=>by kernel_rfl!
theorem lg_3o:cmpO (ifT (stAt dL 3))=.NotEq:=by kernel_rfl!
theorem lg_3l:aX0 ⟨dL.names,A3⟩ eF3:=fun β G n σ k=>by kernel_rfl!
theorem lg_3m:aX0 ⟨dL.names,A3⟩ eI3:=fun β G n σ k=>by kernel_rfl!
theorem lg_3i(σ:Sto)(k:List PV→Option (Nat×Nat)→Sto→Option β):bP (GL T e im fo dn tk) (n+5) ⟨dL.names,A3⟩ σ (lcI eF3) k=k hR0 none σ:=by kernel_rfl!
theorem lg_3j(σ:Sto)(k:List PV→Option (Nat×Nat)→Sto→Option β):bP (GL T e im fo dn tk) (n+5) ⟨dL.names,A3⟩ σ (lcI eI3) k=k hR0 none σ:=by kernel_rfl!
theorem lg_3a(v:PV):aH ⟨lcN eF3,lCF⟩ (lcT eF3) v=some ⟨lcN eF3,("one",v)::lCF⟩:=by kernel_rfl!
theorem lg_3b(u v:PV):aH ⟨lcN eF3,("one",u)::lCF⟩ (lcT eF3) v=some ⟨lcN eF3,("one",v)::lCF⟩:=by kernel_rfl!
theorem lg_3x(v:PV):aH ⟨lcN eI3,lCI⟩ (lcT eI3) v=some ⟨lcN eI3,("one",v)::lCI⟩:=by kernel_rfl!
theorem lg_3y(u v:PV):aH ⟨lcN eI3,("one",u)::lCI⟩ (lcT eI3) v=some ⟨lcN eI3,("one",v)::lCI⟩:=by kernel_rfl!
theorem lg_3f(v:PV)(σ:Sto)(K:Option PV→Sto→Option β):iJ (GL T e im fo dn tk) (n+20) ⟨lcN eF3,("one",v)::lCF⟩ σ eF3 K=aR (fo [v,.lst 3] σ) fun r σ=>K (some r) σ:=by kernel_rfl!
theorem lg_3g(v:PV)(σ:Sto)(K:Option PV→Sto→Option β):iJ (GL T e im fo dn tk) (n+20) ⟨lcN eI3,("one",v)::lCI⟩ σ eI3 K=bT (.lst 4) v σ fun r=>K (some r) σ:=by kernel_rfl!
end
theorem cmp_lst{β:Type}{σ:Sto}{i j:Nat}{d:PyData}(hi:toD 100000 σ (.lst i)=some d)(hj:toD 100000 σ (.lst j)=some d)(hl:d.canLay0=true)(hd:Nat.ble d.depth 8=true)(he:PyData.eqv d d=true)(k:Bool→Option β):eD .NotEq σ (.lst i) (.lst j) k=k false:=by
 have h:eqV σ (.lst i) (.lst j)=some true:=by
  show opt (toD 100000 σ (.lst i)) (fun da=>opt (toD 100000 σ (.lst j)) fun db=>_)=_
  rw[hi]
  show opt (toD 100000 σ (.lst j)) _=_
  rw[hj]
  exact (gp ⟨hl,hl,Nat.le_trans (Nat.min_le_left ..) (Nat.le_of_ble_eq_true hd)⟩).trans (congrArg some he)
 show opt ((eqV σ (.lst i) (.lst j)).map (!·)) k=_
 rw[h]
 rfl
noncomputable def fIm(im:Nat→List Nat):PV→Option PV
 |.str s=>some (.str (S (im (s.cps.toList.headD 0))))
 |_=>none
theorem xJ{v:PV}(h:v∈hR0):∃c,fil c∧v=.str (S [c]):=by
 rcases List.mem_cons.mp h with e | h
 ·exact⟨102,.inl rfl,e⟩
 rcases List.mem_cons.mp h with e | h
 ·exact⟨105,.inr (.inl rfl),e⟩
 rcases List.mem_cons.mp h with e | h
 ·exact⟨108,.inr (.inr rfl),e⟩
 ·exact (nomatch h)
noncomputable def imV(im:Nat→List Nat):List PV:=[.str (S (im 102)),.str (S (im 105)),.str (S (im 108))]
theorem fIm_all(im:Nat→List Nat):hR0.filterMap (fIm im)=imV im:=rfl
noncomputable def C5(c0 c1 c2:Cell)(K1 K2:List (Str×PV)):Sto:=[c0,c1,c2,⟨3,.dct K1⟩,⟨3,.dct K2⟩]
section
variable {B:Bs}{k:Nat}{T:Int→Option Str}{e:Str→Str→Option Bool}{imF fo tk:Fn}{mg mb:Str→Option Value}(ok:BsOk B)(gok:GlOk B k (GL T e imF fo aG tk) mg mb)
 {im:Nat→List Nat} {K1 K2:List (Str×PV)} (I:ImOk im K2) (F:fU0 im K1 fo) (c0 c1 c2:Cell)
include ok gok I F
theorem s_3:S1 B k ⟨dL.names,A3⟩ (C5 c0 c1 c2 K1 K2) (exec (stAt dL 3)) .nxt ⟨dL.names,A3⟩ (C5 c0 c1 c2 K1 K2):=by
 obtain⟨pos,e3⟩:=lg_s.2.1
 have C1:=fun K=>qC (β:=Bool×Sto) (G:=GL T e imF fo aG tk) (M:=30) (σ:=C5 c0 c1 c2 K1 K2) (items:=hR0) (by decide) lg_3l (fun K=>lg_3i T e imF fo aG tk 25 (C5 c0 c1 c2 K1 K2) K) (fun v=>("one",v)::lCF) (fIm im) (fun v _=>lg_3a v) (fun v _ u=>lg_3b u v) (fun v hv n K=>by
   obtain⟨c,hc,rfl⟩:=xJ hv
   refine (lg_3f T e imF fo aG tk n _ _ K).trans ?_
   rw[F [c] (C5 c0 c1 c2 K1 K2) ⟨3,.dct K1⟩ (fun x hx=>List.mem_singleton.mp hx▸hc) (show 1≤1000 by decide) rfl rfl,cC0]
   rfl) (by decide) K
 have C2:=fun K=>qC (β:=Bool×Sto) (G:=GL T e imF fo aG tk) (M:=30) (σ:=C5 c0 c1 c2 K1 K2++[⟨0,.lst (imV im)⟩]) (items:=hR0) (by decide) lg_3m (fun K=>lg_3j T e imF fo aG tk 25 (C5 c0 c1 c2 K1 K2++[⟨0,.lst (imV im)⟩]) K) (fun v=>("one",v)::lCI) (fIm im) (fun v _=>lg_3x v) (fun v _ u=>lg_3y u v) (fun v hv n K=>by
   obtain⟨c,hc,rfl⟩:=xJ hv
   exact (lg_3g T e imF fo aG tk n _ _ K).trans (gJ (c:=⟨3,.dct K2⟩) rfl rfl (I.kv c hc) _)) (by decide) K
 rw[fIm_all]at C1 C2
 have hf:=fun (a:PV) (x:a∈imV im)=>x
 have hok:∀c,PyData.strOk (S (im c))=true:=fun c=>eP (I.fl c)
 have ht:Tr B k ⟨dL.names,A3⟩ (C5 c0 c1 c2 K1 K2) (ifT (stAt dL 3)) false (C5 c0 c1 c2 K1 K2++[⟨0,.lst (imV im)⟩,⟨0,.lst (imV im)⟩]):=by
  refine kH ok gok (n:=32) ((lg_3c ..).trans ((C1 _).trans ((C2 _).trans ?_)))
  rw[lg_3o]
  show eD .NotEq (C5 c0 c1 c2 K1 K2++[⟨0,.lst (imV im)⟩,⟨0,.lst (imV im)⟩]) (.lst 5) (.lst 6) _=_
  have hd:∀i,bM (C5 c0 c1 c2 K1 K2++[⟨0,.lst (imV im)⟩,⟨0,.lst (imV im)⟩]) i=some (imV im)→toD 100000 (C5 c0 c1 c2 K1 K2++[⟨0,.lst (imV im)⟩,⟨0,.lst (imV im)⟩]) (.lst i)=some (.list [.str (S (im 102)),.str (S (im 105)),.str (S (im 108))]):=fun i h=>by
   show opt (bM _ i) (fun xs=>opt (jI0 99999 _ xs) fun ds=>some (PyData.list ds))=_
   rw[h]
   rfl
  refine cmp_lst (hd 5 rfl) (hd 6 rfl) ?_ (by kernel_rfl!) ?_ _
  ·show (PyData.strOk (S (im 102))&&(PyData.strOk (S (im 105))&&(PyData.strOk (S (im 108))&&true)))=true
   rw[hok,hok,hok]
   rfl
  ·show ((S (im 102)==S (im 102))&&((S (im 105)==S (im 105))&&((S (im 108)==S (im 108))&&true)))=true
   simp
 rw[e3]
 exact @S1.drop B k _ _ _ _ _ _ _ (@nZ B k _ _ _ _ _ _ _ _ _ _ false ht (@fZ B k _ _)) (Nat.le_refl _) (fun i c h=>.inl h) (by kernel_rfl!) rfl
end
set_option maxHeartbeats 2000000
theorem fil_S:("fil":Str)=S [102,105,108]:=by kernel_rfl!
noncomputable def eI(d:Nat):Nat:=[102,105,108].getD (d % 3) 0
theorem qF(d:Nat):fil (eI d):=c3 (P:=fun i=>fil ([102,105,108].getD i 0)) (.inl rfl) (.inr (.inl rfl)) (.inr (.inr rfl)) _ (Nat.mod_lt d (by decide))
theorem dY0(im:Nat→List Nat):∀n,sgN im n []=[]
 |0=>rfl
 |n+1=>dY0 im n
theorem lg_11{β:Type}(T:Int→Option Str)(e:Str→Str→Option Bool)(im fo dn tk:Fn)(n:Nat)(t ro le rd:Str)(sp D fi:Int)(re ah:Str)(σ:Sto)(k:Bool→Sto→Option β):dH (GL T e im fo dn tk) (n+20) ⟨dL.names,W0 t ro le rd sp D fi re ah⟩ σ (ifT (stAt dL 11)) k=
 eD .NotEq σ (.tup [.str ah,.str re,.str rd]) (.tup [.str "",.str "",.str t]) fun t=>k t σ:=by kernel_rfl!
noncomputable def C7(c0 c1 c2:Cell)(K1 K2:List (Str×PV))(fi:Int)(v:Nat)(xs:List PV):Sto:=[c0,c1,c2,⟨3,.dct K1⟩,⟨3,.dct K2⟩,⟨1,.ins [("_initial_size",.int fi)]⟩,⟨v,.acc 5 xs⟩]
section
variable {B:Bs}{k:Nat}{T:Int→Option Str}{e:Str→Str→Option Bool}{imF fo tk:Fn}{mg mb:Str→Option Value}(ok:BsOk B)(gok:GlOk B k (GL T e imF fo aG tk) mg mb)
 {im:Nat→List Nat} {K1 K2:List (Str×PV)} (I:ImOk im K2) (F:fU0 im K1 fo) (c0 c2:Cell)
include ok gok
theorem s_4(a b c d q s:Nat):S1 B k ⟨dL.names,A3⟩ (C5 c0 ⟨0,.lst (nL a b c d q s)⟩ c2 K1 K2) (exec (stAt dL 4)) .nxt ⟨dL.names,A4 (S [eI d]) ((s % 3:Nat):Int)⟩ (C5 c0 ⟨0,.lst (nL a b c d q s)⟩ c2 K1 K2):=by
 refine @bI B k _ 20 ok mg mb gok _ _ _ _ _ _ ((lg_4 T e imF fo aG tk 0 _ _).trans ?_)
 refine (gY _ 1 3 (nL a b c d q s) _ rfl (show 3 < 6 by decide) (show 6≤100000 by decide)).trans ?_
 refine (qO (d:Int) 3 (by decide) _ _).trans ?_
 rw[show Int.fmod (d:Int) 3=((d % 3:Nat):Int) from cY d 3,fil_S]
 refine (mC (l:=[102,105,108]) (i:=d % 3) (Nat.mod_lt _ (by decide)) (show 3≤100000 by decide) _).trans ?_
 refine (gY _ 1 5 (nL a b c d q s) _ rfl (show 5 < 6 by decide) (show 6≤100000 by decide)).trans ?_
 refine (qO (s:Int) 3 (by decide) _ _).trans ?_
 rw[show Int.fmod (s:Int) 3=((s % 3:Nat):Int) from cY s 3]
 exact congrArg (fun o=>opt o fun cx'=>some (Fl.nxt,cx',C5 c0 ⟨0,.lst (nL a b c d q s)⟩ c2 K1 K2)) (lg_4t (S [eI d]) ((s % 3:Nat):Int))
theorem t_6(t ro:Str)(D:Nat)(fi:Int)(σ:Sto)(h:t.length≤100000):Tr B k ⟨dL.names,A6 t ro (D:Int) fi⟩ σ (whT (stAt dL 6)) (decide (t.length < 9)&&decide (D < 4)) σ:=by
 refine kH ok gok (n:=20) ((lg_6t T e imF fo aG tk 0 t ro D fi σ _).trans ((gp h).trans ?_))
 rw[show decide ((t.length:Int) < 9)=decide (t.length < 9) from decide_eq_decide.mpr Int.ofNat_lt,show decide ((D:Int) < 4)=decide (D < 4) from decide_eq_decide.mpr Int.ofNat_lt]
 cases decide (t.length < 9)<;>cases decide (D < 4)<;>rfl
theorem s_7(a b c d q s:Nat)(t:List Nat)(ro:Str)(D fi:Int)(ht:t≠[])(hl:t.length≤1000):S1 B k ⟨dL.names,A6 (S t) ro D fi⟩ (C5 c0 ⟨0,.lst (nL a b c d q s)⟩ c2 K1 K2) (exec (stAt dL 7)) .nxt ⟨dL.names,A7 (S t) ro ((q % t.length:Nat):Int) D fi⟩ (C7 c0 ⟨0,.lst (nL a b c d q s)⟩ c2 K1 K2 fi 1 []):=by
 have hp:=List.length_pos_iff.mpr ht
 refine @bI B k _ 20 ok mg mb gok _ _ _ _ _ _ ((lg_7 T e imF fo aG tk 0 (S t) ro D fi _ _).trans ?_)
 refine (gY _ 1 4 (nL a b c d q s) _ rfl (show 4 < 6 by decide) (show 6≤100000 by decide)).trans ((gp (by rw[S_len];exact Nat.le_trans hl (by decide))).trans ?_)
 rw[S_len]
 refine (qO (q:Int) (t.length:Int) (Int.ne_of_gt (Int.natCast_pos.mpr hp)) _ _).trans ?_
 rw[cY q t.length]
 exact congrArg (fun o=>opt o fun cx'=>some (Fl.nxt,cx',C7 c0 ⟨0,.lst (nL a b c d q s)⟩ c2 K1 K2 fi 1 [])) (lg_7t (S t) ro ((q % t.length:Nat):Int) D fi)
include I
theorem s_8(c1:Cell)(t:Str)(x D:Nat)(sp fi:Int)(hx:fil x)(hD:D≤100):S1 B k ⟨dL.names,A7 t (S [x]) sp (D:Int) fi⟩ (C7 c0 c1 c2 K1 K2 fi 1 []) (exec (stAt dL 8)) .nxt ⟨dL.names,A8 t (S [x]) (S [low x (fresh im D x)]) (S [x]) "" sp (D:Int) fi⟩ (C7 c0 c1 c2 K1 K2 fi (1+D) ((fresh im D x).map lvP)):=by
 refine @bI B k _ 20 ok mg mb gok _ _ _ _ _ _ ((lg_8 T e imF fo aG tk 0 t (S [x]) sp (D:Int) fi _ _).trans ?_)
 have hd:aG [.lst 6,.str (S [x]),.lst 4,.int (D:Int)] (C7 c0 c1 c2 K1 K2 fi 1 [])=some (.str (S [low x (fresh im D x)]),C7 c0 c1 c2 K1 K2 fi (1+D) ((fresh im D x).map lvP)):=by
  show grd (aI (C7 c0 c1 c2 K1 K2 fi 1 []) (.lst 6)=true∧((([]:List PV).length:Nat):Int)≤(D:Int)∧(D:Int)≤9000)
   (opt (jQ K2 ((D:Int).toNat - ([]:List PV).length) (S [x])) fun r=>some (PV.str r.2,jW (C7 c0 c1 c2 K1 K2 fi 1 []) 6 ((D:Int).toNat - ([]:List PV).length) (.acc 5 ([]++r.1))))=_
  rw[gp ⟨by kernel_rfl!,Int.natCast_nonneg D,Int.ofNat_le.mpr (Nat.le_trans hD (by decide))⟩,show (D:Int).toNat - ([]:List PV).length=D from Int.toNat_natCast D,jD I D x hx]
  rfl
 rw[hd,bL]
 exact congrArg (fun o=>opt o fun cx'=>some (Fl.nxt,cx',C7 c0 c1 c2 K1 K2 fi (1+D) ((fresh im D x).map lvP))) (lg_8t t (S [x]) (S [low x (fresh im D x)]) sp (D:Int) fi)
omit I
theorem s_9(c1:Cell)(t ro le re ah:Str)(sp D fi:Int)(v:Nat)(xs:List PV):S1 B k ⟨dL.names,A8 t ro le re ah sp D fi⟩ (C7 c0 c1 c2 K1 K2 fi v xs) (exec (stAt dL 9)) .nxt ⟨dL.names,W0 t ro le "" sp D fi re ah⟩ (CS c0 c1 c2 K1 K2 1 fi v 0 xs []):=by
 have h:exK (GL T e imF fo aG tk) 20 ⟨dL.names,A8 t ro le re ah sp D fi⟩ (C7 c0 c1 c2 K1 K2 fi v xs) (stAt dL 9) (fun f c s=>some (f,c,s))=some (.nxt,⟨dL.names,("marks",.lst 7)::("read",.str "")::A8 t ro le re ah sp D fi⟩,CS c0 c1 c2 K1 K2 1 fi v 0 xs []):=
  (lg_9 T e imF fo aG tk 0 t ro le re ah sp D fi _ _).trans (congrArg (fun o=>opt o fun cx'=>some (Fl.nxt,cx',CS c0 c1 c2 K1 K2 1 fi v 0 xs [])) (lg_9t t ro le re ah sp D fi))
 exact @S1.keep B k dL.names _ _ _ _ _ _ (W0 t ro le "" sp D fi re ah) (@bI B k _ 20 ok mg mb gok _ _ _ _ _ _ h) (by kernel_rfl!)
include I F
omit ok gok F in
theorem cO0{D x:Nat}(h:D≤4):(sgN im D [x]).length≤256:=Nat.le_trans (oP I D [x]) (Nat.le_trans (Nat.le_of_eq (Nat.mul_one _)) (Nat.pow_le_pow_right (by decide) h))
theorem wh_6(x:Nat)(hx:fil x)(c1:Cell)(fi:Int):∀m D:Nat,D≤4→4≤D+m→
  ∃D',D'≤4∧D≤D'∧(D=0→D'≠0)∧eF B k ⟨dL.names,A6 (S (sgN im D [x])) (S [x]) (D:Int) fi⟩ (C5 c0 c1 c2 K1 K2) (whT (stAt dL 6)) (whB (stAt dL 6)) .nxt ⟨dL.names,A6 (S (sgN im D' [x])) (S [x]) (D':Int) fi⟩ (C5 c0 c1 c2 K1 K2):=fun m=>by
 induction m with
 |zero=>
  intro D h4 hm
  have ht:=@t_6 B k T e imF fo tk mg mb ok gok (S (sgN im D [x])) (S [x]) D fi (C5 c0 c1 c2 K1 K2) (by rw[S_len];exact Nat.le_trans (cO0 I h4) (by decide))
  rw[decide_eq_false (Nat.not_lt.mpr (show 4≤D from hm)),Bool.and_false]at ht
  exact⟨D,h4,Nat.le_refl _,(fun h=>absurd hm (by rw[h];decide)),gX ht⟩
 |succ m ih=>
  intro D h4 hm
  have hl:=cO0 I (x:=x) h4
  have ht:=@t_6 B k T e imF fo tk mg mb ok gok (S (sgN im D [x])) (S [x]) D fi (C5 c0 c1 c2 K1 K2) (by rw[S_len];exact Nat.le_trans hl (by decide))
  rw[S_len]at ht
  cases hb:(decide ((sgN im D [x]).length < 9)&&decide (D < 4))with
  |true=>
   rw[hb]at ht
   have hD:D < 4:=of_decide_eq_true (Bool.and_eq_true_iff.mp hb).2
   have hbd:cC (GL T e imF fo aG tk) 20 ⟨dL.names,A6 (S (sgN im D [x])) (S [x]) (D:Int) fi⟩ (C5 c0 c1 c2 K1 K2) (whB (stAt dL 6)) (fun f c s=>some (f,c,s))=some (.nxt,⟨dL.names,A6 (S (sgN im (D+1) [x])) (S [x]) ((D+1:Nat):Int) fi⟩,C5 c0 c1 c2 K1 K2):=by
    refine (lg_6b T e imF fo aG tk 0 _ _ _ _ _ _).trans ?_
    rw[F (sgN im D [x]) (C5 c0 c1 c2 K1 K2) ⟨3,.dct K1⟩ (kG I D [x] fun c hc=>List.mem_singleton.mp hc▸hx) (Nat.le_trans hl (by decide)) rfl rfl,bL,← wQ]
    exact congrArg (fun o=>opt o fun cx'=>some (Fl.nxt,cx',C5 c0 c1 c2 K1 K2)) (lg_6s (S (sgN im D [x])) (S (sgN im (D+1) [x])) (S [x]) (D:Int) fi ((D+1:Nat):Int))
   obtain⟨D',h1,h2,_,H2⟩:=ih (D+1) hD (by rw[Nat.add_assoc,Nat.add_comm 1];exact hm)
   exact⟨D',h1,Nat.le_of_succ_le h2,(fun _=>Nat.ne_of_gt (Nat.lt_of_lt_of_le D.succ_pos h2)),jO ht (@qE B k _ 20 ok mg mb gok _ _ _ _ _ _ hbd) H2⟩
  |false=>
   rw[hb]at ht
   exact⟨D,h4,Nat.le_refl _,(fun h0=>by subst h0;exact Bool.noConfusion (show true=false from hb)),gX ht⟩
theorem s_marks(a b c d q s:Nat)(L:LoC c0 c2 (nL a b c d q s) K1 K2):∃(N v u:Nat) (le:List Nat) (txt:List Nat) (sp:Nat),txt=sgN im (N+1) [eI d]∧N+1≤4∧sp < txt.length∧
  ∀(rest:List Stmt) (fl:Fl) (cx':Cx) (σ':Sto),S1 B k ⟨dL.names,W0 (S txt) (S [eI d]) (S le) (S txt) (sp:Int) ((N+1:Nat):Int) ((s % 3:Nat):Int) (S []) (S [])⟩ (CS c0 ⟨0,.lst (nL a b c d q s)⟩ c2 K1 K2 1 ((s % 3:Nat):Int) v u [] (mkL txt sp txt.length)) (execs rest) fl cx' σ'→
   S1 B k ⟨dL.names,A3⟩ (C5 c0 ⟨0,.lst (nL a b c d q s)⟩ c2 K1 K2) (execs (stAt dL 4::stAt dL 5::stAt dL 6::stAt dL 7::stAt dL 8::stAt dL 9::stAt dL 10::stAt dL 11::rest)) fl cx' σ':=by
 have hx:=qF d
 generalize hxd:eI d=x at hx
 have hfi:s % 3 < 3:=Nat.mod_lt _ (by decide)
 generalize hfi':s % 3=fi at hfi
 obtain⟨D',hD4,_,hD0,H6⟩:=@wh_6 B k T e imF fo tk mg mb ok gok im K1 K2 I F c0 c2 x hx ⟨0,.lst (nL a b c d q s)⟩ (fi:Int) 4 0 (by decide) (by decide)
 obtain⟨N,rfl⟩:=Nat.exists_eq_succ_of_ne_zero (hD0 rfl)
 have s4:=@s_4 B k T e imF fo tk mg mb ok gok K1 K2 c0 c2 a b c d q s
 rw[hxd,hfi']at s4
 have s5:S1 B k ⟨dL.names,A4 (S [x]) (fi:Int)⟩ (C5 c0 ⟨0,.lst (nL a b c d q s)⟩ c2 K1 K2) (exec (stAt dL 5)) .nxt ⟨dL.names,A6 (S [x]) (S [x]) 0 (fi:Int)⟩ (C5 c0 ⟨0,.lst (nL a b c d q s)⟩ c2 K1 K2):=@bI B k _ 20 ok mg mb gok _ _ _ _ _ _ (lg_5 T e imF fo aG tk 0 (S [x]) (fi:Int) _ _)
 have s6:=@dW0 B k _ _ _ _ _ _ lg_s.1 H6
 have hfl:=mI im (N+1) x
 have hfo:=pS im I.ne (N+1) x
 have hff:aD im [] (fresh im (N+1) x)=[]:=by rw[hY,dY0]
 have hta:=kZ im (fresh im (N+1) x) x [] [] hfo
 rw[hfl,hff,show ([]:List Nat)++[x]=[x]from rfl]at hta
 obtain⟨hbd,_⟩:=oL I (fresh im (N+1) x) x hx hfo (by rw[hfl];exact hD4)
 rw[hff]at hbd
 generalize htx:sgN im (N+1) [x]=txt at hta s6
 have htl:txt.length≤256:=by rw[hta,List.nil_append,List.length_cons];exact Nat.le_trans (Nat.succ_le_succ (Nat.le_add_left ..)) hbd
 have htf:∀c∈txt,fil c:=htx▸kG I (N+1) [x] fun c hc=>List.mem_singleton.mp hc▸hx
 have htn:txt≠[]:=by rw[hta];exact fun h=>nomatch h
 have s7:=@s_7 B k T e imF fo tk mg mb ok gok K1 K2 c0 c2 a b c d q s txt (S [x]) ((N+1:Nat):Int) (fi:Int) htn (Nat.le_trans htl (by decide))
 have s8:=@s_8 B k T e imF fo tk mg mb ok gok im K1 K2 I c0 c2 ⟨0,.lst (nL a b c d q s)⟩ (S txt) x (N+1) ((q % txt.length:Nat):Int) (fi:Int) hx (Nat.le_trans hD4 (by decide))
 have s9:=@s_9 B k T e imF fo tk mg mb ok gok K1 K2 c0 c2 ⟨0,.lst (nL a b c d q s)⟩ (S txt) (S [x]) (S [low x (fresh im (N+1) x)]) (S [x]) "" ((q % txt.length:Nat):Int) ((N+1:Nat):Int) (fi:Int) (1+(N+1)) ((fresh im (N+1) x).map lvP)
 have hm0:mkL txt (q % txt.length) (aD im [] (fresh im (N+1) x)).length=[]:=by rw[hff];rfl
 obtain⟨v',u',le',H10⟩:=@w10_loop B k T e imF fo tk mg mb ok gok im K1 K2 I F (q % txt.length) fi c0 c2 (nL a b c d q s) 1 L x txt s N hx hD4 rfl (show 6≤1000 by decide) (Nat.lt_of_lt_of_le hfi (by decide)) htx.symm txt.length (fresh im (N+1) x) [x] [] (1+(N+1)) 0 (fun h=>nomatch h) hfo hfl (Nat.sub_le ..)
 rw[hm0,hff]at H10
 have s10:=@dW0 B k _ _ _ _ _ _ w_s.1 H10
 have s11:=@tA B k T e imF fo tk mg mb ok gok _ (CS c0 ⟨0,.lst (nL a b c d q s)⟩ c2 K1 K2 1 (fi:Int) v' u' [] (mkL txt (q % txt.length) txt.length)) _ lg_s.2.2 ((lg_11 T e imF fo aG tk 0 (S txt) (S [x]) (S le') (S txt) ((q % txt.length:Nat):Int) ((N+1:Nat):Int) (fi:Int) (S []) (S []) _ _).trans (cmp_sss _ txt htf _))
 exact⟨N,v',u',le',txt,q % txt.length,htx.symm,hD4,Nat.mod_lt _ (List.length_pos_iff.mpr htn),fun rest fl cx' σ' H=>@aP B k _ _ _ _ _ _ _ _ _ @s4 (@aP B k _ _ _ _ _ _ _ _ _ @s5 (@aP B k _ _ _ _ _ _ _ _ _ @s6 (@aP B k _ _ _ _ _ _ _ _ _ @s7 (@aP B k _ _ _ _ _ _ _ _ _ @s8 (@aP B k _ _ _ _ _ _ _ _ _ @s9 (@aP B k _ _ _ _ _ _ _ _ _ @s10 (@aP B k _ _ _ _ _ _ _ _ _ @s11 @H)))))))⟩
end
set_option maxHeartbeats 2000000
noncomputable def mk2(f b:Str):PV:=.tup [.str f,.str b]
noncomputable def gF1(f0 _ _ _ _ _:Str):Sto:=[⟨0,.lst [.str ""]⟩,⟨0,.lst []⟩,⟨0,.lst []⟩,⟨0,.lst [.str ""]⟩,⟨0,.lst [(.str (aJ f0 (some 1) none none):PV)]⟩,⟨0,.lst [.str "",(.str (aJ f0 (some 1) none none):PV)]⟩]
noncomputable def gB1(f0 b0 _ _ _ _:Str):Sto:=[⟨0,.lst [.str ""]⟩,⟨0,.lst [mk2 f0 b0]⟩,⟨0,.lst [.str b0]⟩,⟨0,.lst [.str "",.str b0]⟩,⟨0,.lst [(.str (aJ b0 none (some (-1)) none):PV)]⟩,⟨0,.lst [.str "",.str b0,(.str (aJ b0 none (some (-1)) none):PV)]⟩]
noncomputable def gF2(f0 _ f1 b1 _ _:Str):Sto:=[⟨0,.lst [.str ""]⟩,⟨0,.lst [mk2 f1 b1]⟩,⟨0,.lst [.str f1]⟩,⟨0,.lst [.str "",.str f1]⟩,⟨0,.lst [(.str (aJ f0 (some 1) none none):PV)]⟩,⟨0,.lst [.str "",.str f1,(.str (aJ f0 (some 1) none none):PV)]⟩]
noncomputable def gB2(f0 b0 f1 b1 _ _:Str):Sto:=[⟨0,.lst [.str ""]⟩,⟨0,.lst [mk2 f0 b0,mk2 f1 b1]⟩,⟨0,.lst [.str b0,.str b1]⟩,⟨0,.lst [.str "",.str b0,.str b1]⟩,⟨0,.lst [(.str (aJ b1 none (some (-1)) none):PV)]⟩,⟨0,.lst [.str "",.str b0,.str b1,(.str (aJ b1 none (some (-1)) none):PV)]⟩]
noncomputable def gF3(f0 _ f1 b1 f2 b2:Str):Sto:=[⟨0,.lst [.str ""]⟩,⟨0,.lst [mk2 f1 b1,mk2 f2 b2]⟩,⟨0,.lst [.str f1,.str f2]⟩,⟨0,.lst [.str "",.str f1,.str f2]⟩,⟨0,.lst [(.str (aJ f0 (some 1) none none):PV)]⟩,⟨0,.lst [.str "",.str f1,.str f2,(.str (aJ f0 (some 1) none none):PV)]⟩]
noncomputable def gB3(f0 b0 f1 b1 _ b2:Str):Sto:=[⟨0,.lst [.str ""]⟩,⟨0,.lst [mk2 f0 b0,mk2 f1 b1]⟩,⟨0,.lst [.str b0,.str b1]⟩,⟨0,.lst [.str "",.str b0,.str b1]⟩,⟨0,.lst [(.str (aJ b2 none (some (-1)) none):PV)]⟩,⟨0,.lst [.str "",.str b0,.str b1,(.str (aJ b2 none (some (-1)) none):PV)]⟩]
noncomputable def yF:Stmt:=(bN (stAt dL 14)).getD 0 (stAt dL 14)
noncomputable def pB(j:Nat):Stmt:=(bN yF).getD j (stAt dL 14)
noncomputable def qB(j:Nat):Stmt:=(bN (pB 2)).getD j (stAt dL 14)
theorem yF_eq:bN (stAt dL 14)=[yF]:=by kernel_rfl!
theorem pB_eq:bN yF=[pB 0,pB 1,pB 2]:=by kernel_rfl!
theorem qB_eq:bN (pB 2)=[qB 0,qB 1]:=by kernel_rfl!
noncomputable def B0(t:Str):LE:=[("backs",.lst 19),("fronts",.lst 13),("text",.str t),("images",.lst 4)]
noncomputable def B1(t f:Str):LE:=("front",.str f)::B0 t
noncomputable def B2(t f b:Str):LE:=("back",.str b)::B1 t f
noncomputable def B3(t f b m:Str):LE:=("middle",.str m)::B2 t f b
noncomputable def B4(t f b m:Str)(n:Int):LE:=("times",.int n)::B3 t f b m
noncomputable def B5(t f b m:Str)(n:Int)(x:Bool):LE:=("told",.bool x)::B4 t f b m n
section
variable {β:Type}(T:Int→Option Str)(e:Str→Str→Option Bool)(im fo dn tk:Fn)(n:Nat)(t ro le rd re ah:Str)(sp D fi:Int)(c0 c1 c2:Cell)(K1 K2:List (Str×PV))(iv v u:Nat)(f0 b0 f1 b1 f2 b2:Str)
theorem lg_12_1(k:Fl→Cx→Sto→Option β):exK (GL T e im fo dn tk) (n+40) ⟨dL.names,W0 t ro le rd sp D fi re ah⟩ (CS c0 c1 c2 K1 K2 iv fi v u [] [mk2 f0 b0]) (stAt dL 12) k=
 grd (f0.length≤100000) (k .nxt ⟨dL.names,("fronts",.lst 13)::W0 t ro le rd sp D fi re ah⟩ (CS c0 c1 c2 K1 K2 iv fi v u [] [mk2 f0 b0]++gF1 f0 b0 f1 b1 f2 b2)):=by kernel_rfl!
theorem lg_13_1(k:Fl→Cx→Sto→Option β):exK (GL T e im fo dn tk) (n+40) ⟨dL.names,("fronts",.lst 13)::W0 t ro le rd sp D fi re ah⟩ (CS c0 c1 c2 K1 K2 iv fi v u [] [mk2 f0 b0]++gF1 f0 b0 f1 b1 f2 b2) (stAt dL 13) k=
 grd (b0.length≤100000) (k .nxt ⟨dL.names,("backs",.lst 19)::("fronts",.lst 13)::W0 t ro le rd sp D fi re ah⟩ ((CS c0 c1 c2 K1 K2 iv fi v u [] [mk2 f0 b0]++gF1 f0 b0 f1 b1 f2 b2)++gB1 f0 b0 f1 b1 f2 b2)):=by kernel_rfl!
theorem lg_12_2(k:Fl→Cx→Sto→Option β):exK (GL T e im fo dn tk) (n+40) ⟨dL.names,W0 t ro le rd sp D fi re ah⟩ (CS c0 c1 c2 K1 K2 iv fi v u [] [mk2 f0 b0,mk2 f1 b1]) (stAt dL 12) k=
 grd (f0.length≤100000) (k .nxt ⟨dL.names,("fronts",.lst 13)::W0 t ro le rd sp D fi re ah⟩ (CS c0 c1 c2 K1 K2 iv fi v u [] [mk2 f0 b0,mk2 f1 b1]++gF2 f0 b0 f1 b1 f2 b2)):=by kernel_rfl!
theorem lg_13_2(k:Fl→Cx→Sto→Option β):exK (GL T e im fo dn tk) (n+40) ⟨dL.names,("fronts",.lst 13)::W0 t ro le rd sp D fi re ah⟩ (CS c0 c1 c2 K1 K2 iv fi v u [] [mk2 f0 b0,mk2 f1 b1]++gF2 f0 b0 f1 b1 f2 b2) (stAt dL 13) k=
 grd (b1.length≤100000) (k .nxt ⟨dL.names,("backs",.lst 19)::("fronts",.lst 13)::W0 t ro le rd sp D fi re ah⟩ ((CS c0 c1 c2 K1 K2 iv fi v u [] [mk2 f0 b0,mk2 f1 b1]++gF2 f0 b0 f1 b1 f2 b2)++gB2 f0 b0 f1 b1 f2 b2)):=by kernel_rfl!
theorem lg_12_3(k:Fl→Cx→Sto→Option β):exK (GL T e im fo dn tk) (n+40) ⟨dL.names,W0 t ro le rd sp D fi re ah⟩ (CS c0 c1 c2 K1 K2 iv fi v u [] [mk2 f0 b0,mk2 f1 b1,mk2 f2 b2]) (stAt dL 12) k=
 grd (f0.length≤100000) (k .nxt ⟨dL.names,("fronts",.lst 13)::W0 t ro le rd sp D fi re ah⟩ (CS c0 c1 c2 K1 K2 iv fi v u [] [mk2 f0 b0,mk2 f1 b1,mk2 f2 b2]++gF3 f0 b0 f1 b1 f2 b2)):=by kernel_rfl!
theorem lg_13_3(k:Fl→Cx→Sto→Option β):exK (GL T e im fo dn tk) (n+40) ⟨dL.names,("fronts",.lst 13)::W0 t ro le rd sp D fi re ah⟩ (CS c0 c1 c2 K1 K2 iv fi v u [] [mk2 f0 b0,mk2 f1 b1,mk2 f2 b2]++gF3 f0 b0 f1 b1 f2 b2) (stAt dL 13) k=
 grd (b2.length≤100000) (k .nxt ⟨dL.names,("backs",.lst 19)::("fronts",.lst 13)::W0 t ro le rd sp D fi re ah⟩ ((CS c0 c1 c2 K1 K2 iv fi v u [] [mk2 f0 b0,mk2 f1 b1,mk2 f2 b2]++gF3 f0 b0 f1 b1 f2 b2)++gB3 f0 b0 f1 b1 f2 b2)):=by kernel_rfl!
end
section
variable {β:Type}(T:Int→Option Str)(e:Str→Str→Option Bool)(im fo dn tk:Fn)(n:Nat)(t f b m:Str)(x:Bool)(i:Int)(σ:Sto)
theorem z_i(k:List PV→Option (Nat×Nat)→Sto→Option β):bP (GL T e im fo dn tk) (n+20) ⟨dL.names,B0 t⟩ σ (dQ (stAt dL 14)) k=itK k (.lst 13) σ:=by kernel_rfl!
theorem z_t:aH ⟨dL.names,B0 t⟩ (cH (stAt dL 14)) (.str f)=some ⟨dL.names,B1 t f⟩:=by kernel_rfl!
theorem y_i(k:List PV→Option (Nat×Nat)→Sto→Option β):bP (GL T e im fo dn tk) (n+20) ⟨dL.names,B1 t f⟩ σ (dQ yF) k=itK k (.lst 19) σ:=by kernel_rfl!
theorem y_t:aH ⟨dL.names,B1 t f⟩ (cH yF) (.str b)=some ⟨dL.names,B2 t f b⟩:=by kernel_rfl!
theorem p_0t(k:Bool→Sto→Option β):dH (GL T e im fo dn tk) (n+20) ⟨dL.names,B2 t f b⟩ σ (ifT (pB 0)) k=
 aV .Add (.str f) (.str b) σ fun a σ=>aR (elF e [a,.str t] σ) fun v σ=>aV .Add (.str f) (.str b) σ fun a σ=>eD .Eq σ a (.str t) fun r=>eD .IsNot σ v (.bool r) fun r=>k r σ:=by kernel_rfl!
theorem p_1(k:Fl→Cx→Sto→Option β):exK (GL T e im fo dn tk) (n+20) ⟨dL.names,B2 t f b⟩ σ (pB 1) k=
 grd (b.length≤100000) (aV .Mod (.int b.length) (.int 3) σ fun i σ=>bT (.str "fil") i σ fun c=>bT (.lst 4) c σ fun m=>opt (aH ⟨dL.names,B2 t f b⟩ (dB (pB 1)) m) fun cx'=>k .nxt cx' σ):=by kernel_rfl!
theorem p_1t:aH ⟨dL.names,B2 t f b⟩ (dB (pB 1)) (.str m)=some ⟨dL.names,B3 t f b m⟩:=by kernel_rfl!
theorem p_2i(k:List PV→Option (Nat×Nat)→Sto→Option β):bP (GL T e im fo dn tk) (n+20) ⟨dL.names,B3 t f b m⟩ σ (dQ (pB 2)) k=k [.int 0,.int 1,.int 2] none σ:=by kernel_rfl!
theorem p_2t:aH ⟨dL.names,B3 t f b m⟩ (cH (pB 2)) (.int i)=some ⟨dL.names,B4 t f b m i⟩:=by kernel_rfl!
theorem q_0(k:Fl→Cx→Sto→Option β):exK (GL T e im fo dn tk) (n+20) ⟨dL.names,B4 t f b m i⟩ σ (qB 0) k=
 aV .Add (.str f) (.str "...") σ fun a σ=>aV .Add (.str m) (.str "...") σ fun c σ=>aV .Mult c (.int i) σ fun d σ=>aV .Add a d σ fun a σ=>aV .Add a (.str b) σ fun a σ=>aR (elF e [a,.str t] σ) fun v σ=>opt (aH ⟨dL.names,B4 t f b m i⟩ (dB (qB 0)) v) fun cx'=>k .nxt cx' σ:=by kernel_rfl!
theorem q_0t:aH ⟨dL.names,B4 t f b m i⟩ (dB (qB 0)) (.bool x)=some ⟨dL.names,B5 t f b m i x⟩:=by kernel_rfl!
theorem q_1t(k:Bool→Sto→Option β):dH (GL T e im fo dn tk) (n+20) ⟨dL.names,B5 t f b m i x⟩ σ (ifT (qB 1)) k=aR (tk [.str t,.str f,.str m,.int i,.str b] σ) fun v σ=>eD .IsNot σ (.bool x) v fun r=>k r σ:=by kernel_rfl!
theorem lg_15(k:Fl→Cx→Sto→Option β):exK (GL T e im fo dn tk) (n+20) ⟨dL.names,B0 t⟩ σ (stAt dL 15) k=k (.ret (.bool true)) ⟨dL.names,B0 t⟩ σ:=by kernel_rfl!
theorem z_s:(∃pos,stAt dL 14=.For (cH (stAt dL 14)) (dQ (stAt dL 14)) (bN (stAt dL 14)) [] pos∧cP (dQ (stAt dL 14)) (cH (stAt dL 14))=true)∧(∃pos,yF=.For (cH yF) (dQ yF) (bN yF) [] pos∧cP (dQ yF) (cH yF)=true)∧
  (∃pos,pB 0=.If (ifT (pB 0)) (ifA (pB 0)) [] pos)∧(∃pos,pB 2=.For (cH (pB 2)) (dQ (pB 2)) (bN (pB 2)) [] pos∧cP (dQ (pB 2)) (cH (pB 2))=true)∧∃pos,qB 1=.If (ifT (qB 1)) (ifA (qB 1)) [] pos:=
 ⟨⟨_,rfl,rfl⟩,⟨_,rfl,rfl⟩,⟨_,rfl⟩,⟨_,rfl,rfl⟩,⟨_,rfl⟩⟩
end
set_option maxHeartbeats 2000000
theorem dots_S':("...":Str)=S dots:=by kernel_rfl!
theorem mul_0(x:Str):Txt.mul x 0=S []:=by kernel_rfl!
theorem mul_1(x:Str):Txt.mul x 1=x:=by kernel_rfl!
theorem mul_2(w:List Nat)(h:w≠[]):Txt.mul (S w) 2=S (w++w):=by
 have hp:=List.length_pos_iff.mpr h
 have e:Txt.mul (S w) 2=if (((2:Int)==1) || ((S w).length==0))=true then S w else ⟨(List.replicate 2 (S w).cps).foldl (· ++·) #[]⟩:=if_neg (by decide)
 rw[e,if_neg (by rw[S_len];simp;exact h)]
 show (⟨(#[]++w.toArray)++w.toArray⟩:Str)=⟨(w++w).toArray⟩
 simp
noncomputable def bY0(n:Nat)(m:List Nat):List Nat:=(List.replicate n (m++dots)).flatten
theorem wH(m b:List Nat):∀(n:Nat) (p:List Nat),glue (p::(List.replicate n m++[b]))=p++dots++bY0 n m++b
 |0,p=>by
  show p++(dots++b)=p++dots++[]++b
  rw[List.append_nil,List.append_assoc]
 |n+1,p=>by
  show p++(dots++glue (m::(List.replicate n m++[b])))=_
  rw[wH m b n m,show bY0 (n+1) m=(m++dots)++bY0 n m from rfl]
  simp -iota
theorem yM(m:List Nat):∀n,(bY0 n m).length=n * (m.length+3)
 |0=>(Nat.zero_mul _).symm
 |n+1=>by
  rw[show bY0 (n+1) m=(m++dots)++bY0 n m from rfl,List.length_append,yM m n,List.length_append,Nat.succ_mul,Nat.add_comm]
  rfl
theorem cU0{σ:Sto}{i v:Nat}{xs:List PV}(h:σ[i]?=some ⟨v,.lst xs⟩):itV (.lst i) σ=some (xs,some (i,v),σ):=by
 show (match σ[i]? with
  |some c=>match c.d with
   |.lst xs=>some (xs,some (i,c.ver),σ)
   |_=>none
  |none=>none)=_
 rw[h]
theorem cmp_eqs{β:Type}(σ:Sto)(a b:Str)(k:Bool→Option β):eD .Eq σ (.str a) (.str b) k=k (decide (a=b)):=rfl
structure TkOk (tk:Fn):Prop where
 at':∀(t f m b:List Nat) (n:Nat) (σ:Sto),t.length≤1000→f.length≤t.length→b.length≤t.length→m≠[]→tk [.str (S t),.str (S f),.str (S m),.int (n:Int),.str (S b)] σ=some (.bool (rS f (List.replicate n m) b t),σ)
theorem uW{l:List Nat}(h:∀c∈l,fil c):46∉l:=fun hm=>by rcases h 46 hm with h | h | h<;>cases h
noncomputable def Pc(t f:List Nat):Prop:=(∀c∈f,fil c)∧f.length≤t.length
section
variable {B:Bs}{k:Nat}{T:Int→Option Str}{e:Str→Str→Option Bool}{imF fo tk:Fn}{mg mb:Str→Option Value}(ok:BsOk B)(gok:GlOk B k (GL T e imF fo aG tk) mg mb)
 (H:EllOk e) (Q:TkOk tk) (t:List Nat) (ht:∀c∈t,fil c) (htl:t.length≤256) (σ:Sto)
include ok gok H Q ht htl
theorem bD0(f b m:List Nat)(n:Nat)(d:List Nat)(hf:Pc t f)(hb:Pc t b)(hm:m≠[])(hmf:∀c∈m,fil c)(hml:m.length≤4)(hn:n≤10)(hd:d=bY0 n m)(hmul:Txt.mul (S (m++dots)) (n:Int)=S d):
  S1 B k ⟨dL.names,B4 (S t) (S f) (S b) (S m) (n:Int)⟩ σ (execs (bN (pB 2))) .nxt ⟨dL.names,B3 (S t) (S f) (S b) (S m)⟩ σ:=by
 obtain⟨hff,hfl⟩:=hf
 obtain⟨hbf,hbl⟩:=hb
 have hdl:d.length≤100:=by
  rw[hd,yM]
  exact Nat.le_trans (Nat.mul_le_mul hn (Nat.add_le_add hml (Nat.le_refl _))) (by decide)
 have hf256:=Nat.le_trans hfl htl
 have hfd:(f++dots).length≤259:=by rw[List.length_append];exact Nat.add_le_add_right hf256 3
 have hmd:(m++dots).length≤7:=by rw[List.length_append];exact Nat.add_le_add_right hml 3
 have hfdd:(f++dots++d).length≤359:=by rw[List.length_append];exact Nat.add_le_add hfd hdl
 have hall:(f++dots++d).length+b.length≤615:=Nat.add_le_add hfdd (Nat.le_trans hbl htl)
 have hg:=wH m b n f
 rw[← hd]at hg
 have hell:=H.dots f (List.replicate n m) b t (fun u hu=>by
  rcases List.mem_cons.mp hu with rfl | hu
  ·exact uW hff
  rcases List.mem_append.mp hu with hu | hu
  ·rw[List.eq_of_mem_replicate hu]
   exact uW hmf
  ·rw[List.mem_singleton.mp hu]
   exact uW hbf) (by rw[List.length_replicate];exact Nat.le_trans hn (by decide)) (by rw[hg,List.length_append];exact Nat.le_trans hall (by decide)) (Nat.le_trans htl (by decide))
 rw[hg]at hell
 have h0:exK (GL T e imF fo aG tk) 20 ⟨dL.names,B4 (S t) (S f) (S b) (S m) (n:Int)⟩ σ (qB 0) (fun f c s=>some (f,c,s))=some (.nxt,⟨dL.names,B5 (S t) (S f) (S b) (S m) (n:Int) (rS f (List.replicate n m) b t)⟩,σ):=by
  refine (q_0 T e imF fo aG tk 0 (S t) (S f) (S b) (S m) (n:Int) σ _).trans ?_
  rw[dots_S']
  refine (eY f dots (Nat.le_trans (Nat.add_le_add_right hf256 3) (by decide)) _ _).trans ((eY m dots (Nat.le_trans (Nat.add_le_add_right hml 3) (by decide)) _ _).trans ?_)
  refine (show aV .Mult (.str (S (m++dots))) (.int (n:Int)) σ _=grd (0≤(n:Int)∧(n:Int)≤1000∧(S (m++dots)).length≤1000) _ from rfl).trans ((gp ⟨Int.natCast_nonneg n,Int.ofNat_le.mpr (Nat.le_trans hn (by decide)),by rw[S_len];exact Nat.le_trans hmd (by decide)⟩).trans ?_)
  rw[hmul]
  refine (eY (f++dots) d (Nat.le_trans (Nat.add_le_add hfd hdl) (by decide)) _ _).trans ((eY (f++dots++d) b (Nat.le_trans hall (by decide)) _ _).trans ?_)
  rw[elF_at hell,bL,q_0t]
  rfl
 have htt:dH (GL T e imF fo aG tk) 20 ⟨dL.names,B5 (S t) (S f) (S b) (S m) (n:Int) (rS f (List.replicate n m) b t)⟩ σ (ifT (qB 1)) (fun v s=>some (v,s))=some (false,σ):=by
  refine (q_1t T e imF fo aG tk 0 (S t) (S f) (S b) (S m) (rS f (List.replicate n m) b t) (n:Int) σ _).trans ?_
  rw[Q.at' t f m b n σ (Nat.le_trans htl (by decide)) hfl hbl hm,bL,isnb,decide_eq_true rfl]
  rfl
 rw[qB_eq]
 exact @S1.keep B k dL.names _ _ _ _ _ _ (B3 (S t) (S f) (S b) (S m)) (@aP B k _ _ _ _ _ _ _ _ _ (@bI B k _ 20 ok mg mb gok _ _ _ _ _ _ h0) (@aP B k _ _ _ _ _ _ _ _ _ (@tA B k T e imF fo tk mg mb ok gok _ _ _ z_s.2.2.2.2 htt) (@fZ B k _ _))) (by kernel_rfl!)
variable {im:Nat→List Nat}{K2:List (Str×PV)}(I:ImOk im K2)(cK:Cell)(h4:σ[4]?=some cK)(h4d:cK.d=.dct K2)
include I h4 h4d
theorem p_turn(f b:List Nat)(hf:Pc t f)(hb:Pc t b):S1 B k ⟨dL.names,B2 (S t) (S f) (S b)⟩ σ (execs (bN yF)) .nxt ⟨dL.names,B1 (S t) (S f)⟩ σ:=by
 have hfb:f.length+b.length≤512:=Nat.add_le_add (Nat.le_trans hf.2 htl) (Nat.le_trans hb.2 htl)
 have hfb1:f.length+b.length≤100000:=Nat.le_trans hfb (by decide)
 have htt:dH (GL T e imF fo aG tk) 20 ⟨dL.names,B2 (S t) (S f) (S b)⟩ σ (ifT (pB 0)) (fun v s=>some (v,s))=some (false,σ):=by
  refine (p_0t T e imF fo aG tk 0 (S t) (S f) (S b) σ _).trans ?_
  refine (eY f b hfb1 _ _).trans ?_
  rw[elF_at (H.none (f++b) t (uW (jU hf.1 hb.1))),bL]
  refine (eY f b hfb1 _ _).trans ?_
  rw[cmp_eqs,isnb,decide_eq_decide.mpr (xU (a:=f++b) (b:=t)),decide_eq_true rfl]
  rfl
 have hc:=qF b.length
 have s1:S1 B k ⟨dL.names,B2 (S t) (S f) (S b)⟩ σ (exec (pB 1)) .nxt ⟨dL.names,B3 (S t) (S f) (S b) (S (im (eI b.length)))⟩ σ:=by
  refine @bI B k _ 20 ok mg mb gok _ _ _ _ _ _ ((p_1 T e imF fo aG tk 0 (S t) (S f) (S b) σ _).trans ((gp (by rw[S_len];exact Nat.le_trans (Nat.le_add_left ..) hfb1)).trans ?_))
  rw[S_len]
  refine (qO (b.length:Int) 3 (by decide) _ _).trans ?_
  rw[show Int.fmod (b.length:Int) 3=((b.length % 3:Nat):Int) from cY b.length 3,fil_S]
  refine (mC (l:=[102,105,108]) (i:=b.length % 3) (Nat.mod_lt _ (by decide)) (show 3≤100000 by decide) _).trans ?_
  refine (gJ h4 h4d (I.kv (eI b.length) hc) _).trans ?_
  exact congrArg (fun o=>opt o fun cx'=>some (Fl.nxt,cx',σ)) (p_1t (S t) (S f) (S b) (S (im (eI b.length))))
 have hm:=I.ne (eI b.length)
 have hmf:=I.fl (eI b.length)
 have hml:=I.len (eI b.length)
 generalize im (eI b.length)=m at hm hmf hml s1
 have q0:=@bD0 B k T e imF fo tk mg mb ok gok H Q t ht htl σ f b m 0 [] hf hb hm hmf hml (by decide) rfl (mul_0 _)
 have q1:=@bD0 B k T e imF fo tk mg mb ok gok H Q t ht htl σ f b m 1 (m++dots) hf hb hm hmf hml (by decide) (by show _=(m++dots)++[];rw[List.append_nil]) (mul_1 _)
 have q2:=@bD0 B k T e imF fo tk mg mb ok gok H Q t ht htl σ f b m 2 ((m++dots)++(m++dots)) hf hb hm hmf hml (by decide) (by show _=(m++dots)++((m++dots)++[]);rw[List.append_nil]) (mul_2 _ (fun h=>hm (List.append_eq_nil_iff.mp h).1))
 have HF:=fA ok (w:=none) rfl (p_2t (S t) (S f) (S b) (S m) 0) @q0 (fA ok (w:=none) rfl (p_2t (S t) (S f) (S b) (S m) 1) @q1 (fA ok (w:=none) rfl (p_2t (S t) (S f) (S b) (S m) 2) @q2 (iG ok rfl)))
 rw[pB_eq]
 exact @S1.keep B k dL.names _ _ _ _ _ _ (B1 (S t) (S f)) (@aP B k _ _ _ _ _ _ _ _ _ (@tA B k T e imF fo tk mg mb ok gok _ _ _ z_s.2.2.1 htt) (@aP B k _ _ _ _ _ _ _ _ _ @s1 (@aP B k _ _ _ _ _ _ _ _ _ (@uO B k _ _ _ _ _ _ _ _ _ z_s.2.2.2.1 (wD ok gok (p_2i T e imF fo aG tk 0 (S t) (S f) (S b) (S m) σ _)) HF) (@fZ B k _ _)))) (by kernel_rfl!)
theorem y_loop(f:List Nat)(hf:Pc t f)(w:Option (Nat×Nat))(hw:watch σ w=true):∀bs:List (List Nat),(∀b∈bs,Pc t b)→oI B k ⟨dL.names,B1 (S t) (S f)⟩ σ (cH yF) (bN yF) w (bs.map fun b=>.str (S b)) .nxt ⟨dL.names,B1 (S t) (S f)⟩ σ
 |[],_=>iG ok hw
 |b::bs,h=>by
  have h1:=@p_turn B k T e imF fo tk mg mb ok gok H Q t ht htl σ im K2 I cK h4 h4d f b hf (h b List.mem_cons_self)
  exact fA ok hw (y_t (S t) (S f) (S b)) @h1 (y_loop f hf w hw bs fun b' h'=>h b' (List.mem_cons_of_mem _ h'))
omit ok gok H Q ht htl I h4 h4d in
theorem yN{i v:Nat}{d:CD}(h:σ[i]?=some ⟨v,d⟩):watch σ (some (i,v))=true:=by
 show (match σ[i]? with
  |some c=>Nat.beq c.ver v
  |none=>false)=true
 rw[h]
 exact Nat.beq_refl v
theorem jK0(bs:List (List Nat))(hbs:∀b∈bs,Pc t b)(v:Nat)(h19:σ[19]?=some ⟨v,.lst (bs.map fun b=>.str (S b))⟩)(w:Option (Nat×Nat))(hw:watch σ w=true):∀fs:List (List Nat),(∀b∈fs,Pc t b)→oI B k ⟨dL.names,B0 (S t)⟩ σ (cH (stAt dL 14)) (bN (stAt dL 14)) w (fs.map fun b=>.str (S b)) .nxt ⟨dL.names,B0 (S t)⟩ σ
 |[],_=>iG ok hw
 |f::fs,h=>by
  have HF:=@y_loop B k T e imF fo tk mg mb ok gok H Q t ht htl σ im K2 I cK h4 h4d f (h f List.mem_cons_self) (some (19,v)) (yN σ h19) bs hbs
  have hit:bP (GL T e imF fo aG tk) 20 ⟨dL.names,B1 (S t) (S f)⟩ σ (dQ yF) (fun l w s=>some (l,w,s))=some (bs.map fun b=>.str (S b),some (19,v),σ):=by
   refine (y_i T e imF fo aG tk 0 (S t) (S f) σ _).trans ?_
   unfold itK
   rw[cU0 h19]
  have s2:S1 B k ⟨dL.names,B1 (S t) (S f)⟩ σ (execs (bN (stAt dL 14))) .nxt ⟨dL.names,B0 (S t)⟩ σ:=by
   rw[yF_eq]
   exact @S1.keep B k dL.names _ _ _ _ _ _ (B0 (S t)) (@aP B k _ _ _ _ _ _ _ _ _ (@uO B k _ _ _ _ _ _ _ _ _ z_s.2.1 (wD ok gok hit) HF) (@fZ B k _ _)) (by kernel_rfl!)
  exact fA ok hw (z_t (S t) (S f)) @s2 (jK0 bs hbs v h19 w hw fs fun b' h'=>h b' (List.mem_cons_of_mem _ h'))
theorem s_14(bs fs:List (List Nat))(hbs:∀b∈bs,Pc t b)(hfs:∀b∈fs,Pc t b)(v v':Nat)(h19:σ[19]?=some ⟨v,.lst (bs.map fun b=>.str (S b))⟩)(h13:σ[13]?=some ⟨v',.lst (fs.map fun b=>.str (S b))⟩):
  S1 B k ⟨dL.names,B0 (S t)⟩ σ (execs [stAt dL 14,stAt dL 15]) (.ret (.bool true)) ⟨dL.names,B0 (S t)⟩ σ:=by
 have HF:=@jK0 B k T e imF fo tk mg mb ok gok H Q t ht htl σ im K2 I cK h4 h4d bs hbs v h19 (some (13,v')) (yN σ h13) fs hfs
 have hit:bP (GL T e imF fo aG tk) 20 ⟨dL.names,B0 (S t)⟩ σ (dQ (stAt dL 14)) (fun l w s=>some (l,w,s))=some (fs.map fun b=>.str (S b),some (13,v'),σ):=by
  refine (z_i T e imF fo aG tk 0 (S t) σ _).trans ?_
  unfold itK
  rw[cU0 h13]
 have s2:S1 B k ⟨dL.names,B0 (S t)⟩ σ (exec (stAt dL 15)) (.ret (.bool true)) ⟨dL.names,B0 (S t)⟩ σ:=@bI B k _ 20 ok mg mb gok _ _ _ _ _ _ (lg_15 T e imF fo aG tk 0 (S t) σ _)
 exact @aP B k _ _ _ _ _ _ _ _ _ (@uO B k _ _ _ _ _ _ _ _ _ z_s.1 (wD ok gok hit) HF) (@mZ B k _ _ _ _ _ [] _ @s2)
end
set_option maxHeartbeats 2000000
theorem iH0(sp j:Nat)(h:j < 3):inW sp (sp+j)=true:=by
 unfold inW
 rw[decide_eq_true (Nat.le_add_right ..),decide_eq_true (Nat.add_lt_add_left h sp)]
 rfl
theorem inW_hi(sp j:Nat):inW sp (sp+3+j)=false:=by
 unfold inW
 rw[decide_eq_false (Nat.not_lt.mpr (Nat.le_add_right ..)),Bool.and_false]
theorem inW_lo(sp q:Nat)(h:q < sp):inW sp q=false:=by
 unfold inW
 rw[decide_eq_false (Nat.not_le.mpr h)]
 rfl
theorem d_cases:∀d:Nat,d=0∨d=1∨∃m,d=m+2
 |0=>.inl rfl
 |1=>.inr (.inl rfl)
 |m+2=>.inr (.inr ⟨m,rfl⟩)
theorem mkL_y(t:List Nat)(sp q:Nat)(h:inW sp q=true):mkL t sp (q+1)=mkL t sp q++[mkP t q]:=by rw[kL,if_pos h]
theorem mkL_n(t:List Nat)(sp q:Nat)(h:inW sp q=false):mkL t sp (q+1)=mkL t sp q:=by rw[kL,if_neg (by rw[h];exact Bool.false_ne_true),List.append_nil]
theorem iM0(t:List Nat)(sp:Nat):∀q,q≤sp→mkL t sp q=[]
 |0,_=>rfl
 |q+1,h=>(mkL_n t sp q (inW_lo sp q h)).trans (iM0 t sp q (Nat.le_of_lt h))
theorem mkL_1(t:List Nat)(sp:Nat):mkL t sp (sp+1)=[mkP t sp]:=(mkL_y t sp sp (iH0 sp 0 (by decide))).trans (by rw[iM0 t sp sp (Nat.le_refl _)];rfl)
theorem mkL_2(t:List Nat)(sp:Nat):mkL t sp (sp+2)=[mkP t sp,mkP t (sp+1)]:=(mkL_y t sp (sp+1) (iH0 sp 1 (by decide))).trans (by rw[mkL_1];rfl)
theorem mkL_3(t:List Nat)(sp:Nat):∀d,mkL t sp (sp+3+d)=[mkP t sp,mkP t (sp+1),mkP t (sp+2)]
 |0=>(mkL_y t sp (sp+2) (iH0 sp 2 (by decide))).trans (by rw[mkL_2];rfl)
 |d+1=>(mkL_n t sp (sp+3+d) (inW_hi sp d)).trans (mkL_3 t sp d)
theorem jG0(l:List Nat):aJ (S l) (some 1) none none=S (l.drop 1):=by
 cases l with
 |nil=>kernel_rfl!
 |cons c l=>exact lQ (c::l) 1 (Nat.succ_le_succ (Nat.zero_le _))
theorem aN0(l:List Nat):aJ (S l) none (some (-1)) none=S (l.take (l.length - 1)):=by
 cases l with
 |nil=>kernel_rfl!
 |cons c l=>
  have e:max 0 (min (if (-1:Int) < 0 then -1+((l.length+1:Nat):Int) else -1) ((l.length+1:Nat):Int))=(l.length:Int):=by
   rw[if_pos (by decide),show (-1:Int)+((l.length+1:Nat):Int)=(l.length:Int) by rw[Int.natCast_add,Int.add_comm,Int.add_assoc];exact Int.add_zero _,Int.min_eq_left (Int.ofNat_le.mpr (Nat.le_succ _)),Int.max_eq_right (Int.natCast_nonneg _)]
  exact oO (c::l) none _ 0 l.length (by show PySem.sliceRange 0 (max 0 (min (if (-1:Int) < 0 then -1+((l.length+1:Nat):Int) else -1) ((l.length+1:Nat):Int))) 1=_;rw[e,Nat.zero_add];rfl) (Nat.le_trans (Nat.le_of_eq (Nat.zero_add _)) (Nat.le_succ _))
theorem nC(t:List Nat):Pc t []:=⟨fun _ h=>(nomatch h),Nat.zero_le _⟩
theorem eM{t f:List Nat}(h:Pc t f)(n:Nat):Pc t (f.take n):=⟨fun c hc=>h.1 c (List.mem_of_mem_take hc),Nat.le_trans (by rw[List.length_take];exact Nat.min_le_right ..) h.2⟩
theorem kR{t f:List Nat}(h:Pc t f)(n:Nat):Pc t (f.drop n):=⟨fun c hc=>h.1 c (List.mem_of_mem_drop hc),Nat.le_trans (by rw[List.length_drop];exact Nat.sub_le ..) h.2⟩
theorem fE{t:List Nat}(h:∀c∈t,fil c)(n:Nat):Pc t (t.drop n):=kR ⟨h,Nat.le_refl _⟩ n
theorem pJ(t:List Nat)(n:Nat):(t.take n).length≤t.length:=by rw[List.length_take];exact Nat.min_le_right ..
theorem pQ(t:List Nat)(n:Nat):(t.drop n).length≤t.length:=by rw[List.length_drop];exact Nat.sub_le ..
section
variable {B:Bs}{k:Nat}{T:Int→Option Str}{e:Str→Str→Option Bool}{imF fo tk:Fn}{mg mb:Str→Option Value}(ok:BsOk B)(gok:GlOk B k (GL T e imF fo aG tk) mg mb)
 (H:EllOk e) (Q:TkOk tk) (t:List Nat) (ht:∀c∈t,fil c) (htl:t.length≤256) {im:Nat→List Nat} {K2:List (Str×PV)} (I:ImOk im K2)
 (ro le rd re ah:Str) (sq D fi:Int)
include ok gok H Q ht htl I
theorem aO0(σ0 σ1 σ2:Sto)(s12:S1 B k ⟨dL.names,W0 (S t) ro le rd sq D fi re ah⟩ σ0 (exec (stAt dL 12)) .nxt ⟨dL.names,("fronts",.lst 13)::W0 (S t) ro le rd sq D fi re ah⟩ σ1)
  (s13:S1 B k ⟨dL.names,("fronts",.lst 13)::W0 (S t) ro le rd sq D fi re ah⟩ σ1 (exec (stAt dL 13)) .nxt ⟨dL.names,("backs",.lst 19)::("fronts",.lst 13)::W0 (S t) ro le rd sq D fi re ah⟩ σ2)
  (cK:Cell) (h4:σ2[4]?=some cK) (h4d:cK.d=.dct K2) (bs fs:List (List Nat)) (hbs:∀b∈bs,Pc t b) (hfs:∀b∈fs,Pc t b) (h19:σ2[19]?=some ⟨0,.lst (bs.map fun b=>.str (S b))⟩) (h13:σ2[13]?=some ⟨0,.lst (fs.map fun b=>.str (S b))⟩):
  S1 B k ⟨dL.names,W0 (S t) ro le rd sq D fi re ah⟩ σ0 (execs [stAt dL 12,stAt dL 13,stAt dL 14,stAt dL 15]) (.ret (.bool true)) ⟨dL.names,[]⟩ σ2:=by
 have s13':=@S1.keep B k dL.names _ _ _ _ _ _ (B0 (S t)) @s13 (by kernel_rfl!)
 have s14:=@s_14 B k T e imF fo tk mg mb ok gok H Q t ht htl σ2 im K2 I cK h4 h4d bs fs hbs hfs 0 0 h19 h13
 exact @S1.keep B k dL.names _ _ _ _ _ _ [] (@aP B k _ _ _ _ _ _ _ _ _ @s12 (@aP B k _ _ _ _ _ _ _ _ _ @s13' @s14)) rfl
theorem s_fin(sp:Nat)(hsp:sp < t.length)(c0 c1 c2:Cell)(K1:List (Str×PV))(iv v u:Nat):∃g,S1 B k ⟨dL.names,W0 (S t) ro le rd sq D fi re ah⟩ (CS c0 c1 c2 K1 K2 iv fi v u [] (mkL t sp t.length)) (execs [stAt dL 12,stAt dL 13,stAt dL 14,stAt dL 15]) (.ret (.bool true)) ⟨dL.names,[]⟩ (c0::g):=by
 have hs:∀l:List Nat,l.length≤t.length→(S l).length≤100000:=fun l h=>by rw[S_len];exact Nat.le_trans h (Nat.le_trans htl (by decide))
 obtain⟨d,hd⟩:=Nat.le.dest hsp
 rcases (show d=0∨d=1∨∃m,d=m+2 from d_cases d)with rfl | rfl | ⟨m,rfl⟩
 ·have hm:mkL t sp t.length=[mk2 (S (t.take sp)) (S (t.drop (sp+1)))]:=by rw[← hd];exact mkL_1 t sp
  rw[hm]
  have s12:S1 B k ⟨dL.names,W0 (S t) ro le rd sq D fi re ah⟩ (CS c0 c1 c2 K1 K2 iv fi v u [] [mk2 (S (t.take sp)) (S (t.drop (sp+1)))]) (exec (stAt dL 12)) .nxt ⟨dL.names,("fronts",.lst 13)::W0 (S t) ro le rd sq D fi re ah⟩ (CS c0 c1 c2 K1 K2 iv fi v u [] [mk2 (S (t.take sp)) (S (t.drop (sp+1)))]++gF1 (S (t.take sp)) (S (t.drop (sp+1))) "" "" "" ""):=
   @bI B k _ 40 ok mg mb gok _ _ _ _ _ _ ((lg_12_1 T e imF fo aG tk 0 (S t) ro le rd re ah sq D fi c0 c1 c2 K1 K2 iv v u (S (t.take sp)) (S (t.drop (sp+1))) "" "" "" "" _).trans (gp (hs _ (pJ ..))))
  have s13:S1 B k ⟨dL.names,("fronts",.lst 13)::W0 (S t) ro le rd sq D fi re ah⟩ (CS c0 c1 c2 K1 K2 iv fi v u [] [mk2 (S (t.take sp)) (S (t.drop (sp+1)))]++gF1 (S (t.take sp)) (S (t.drop (sp+1))) "" "" "" "") (exec (stAt dL 13)) .nxt ⟨dL.names,("backs",.lst 19)::("fronts",.lst 13)::W0 (S t) ro le rd sq D fi re ah⟩ ((CS c0 c1 c2 K1 K2 iv fi v u [] [mk2 (S (t.take sp)) (S (t.drop (sp+1)))]++gF1 (S (t.take sp)) (S (t.drop (sp+1))) "" "" "" "")++gB1 (S (t.take sp)) (S (t.drop (sp+1))) "" "" "" ""):=
   @bI B k _ 40 ok mg mb gok _ _ _ _ _ _ ((lg_13_1 T e imF fo aG tk 0 (S t) ro le rd re ah sq D fi c0 c1 c2 K1 K2 iv v u (S (t.take sp)) (S (t.drop (sp+1))) "" "" "" "" _).trans (gp (hs _ (pQ ..))))
  have e1:aJ (S (t.take sp)) (some 1) none none=S ((t.take sp).drop 1):=jG0 _
  have e2:aJ (S (t.drop (sp+1))) none (some (-1)) none=S ((t.drop (sp+1)).take ((t.drop (sp+1)).length - 1)):=aN0 _
  refine⟨_,@aO0 B k T e imF fo tk mg mb ok gok H Q t ht htl im K2 I ro le rd re ah sq D fi _ _ _ @s12 @s13 ⟨3,.dct K2⟩ rfl rfl [[],t.drop (sp+1),(t.drop (sp+1)).take ((t.drop (sp+1)).length - 1)] [[],(t.take sp).drop 1] ?_ ?_ ?_ ?_⟩
  ·exact List.forall_mem_cons.mpr ⟨nC t,List.forall_mem_cons.mpr ⟨fE ht _,List.forall_mem_cons.mpr ⟨eM (fE ht _) _,fun c h=>nomatch h⟩⟩⟩
  ·exact List.forall_mem_cons.mpr ⟨nC t,List.forall_mem_cons.mpr ⟨kR (eM ⟨ht,Nat.le_refl _⟩ _) _,fun c h=>nomatch h⟩⟩
  ·show some (⟨0,.lst [.str "",.str (S (t.drop (sp+1))),.str (aJ (S (t.drop (sp+1))) none (some (-1)) none)]⟩:Cell)=_
   rw[e2]
   rfl
  ·show some (⟨0,.lst [.str "",.str (aJ (S (t.take sp)) (some 1) none none)]⟩:Cell)=_
   rw[e1]
   rfl
 ·have hm:mkL t sp t.length=[mk2 (S (t.take sp)) (S (t.drop (sp+1))),mk2 (S (t.take (sp+1))) (S (t.drop ((sp+1)+1)))]:=by rw[← hd];exact mkL_2 t sp
  rw[hm]
  have s12:S1 B k ⟨dL.names,W0 (S t) ro le rd sq D fi re ah⟩ (CS c0 c1 c2 K1 K2 iv fi v u [] [mk2 (S (t.take sp)) (S (t.drop (sp+1))),mk2 (S (t.take (sp+1))) (S (t.drop ((sp+1)+1)))]) (exec (stAt dL 12)) .nxt ⟨dL.names,("fronts",.lst 13)::W0 (S t) ro le rd sq D fi re ah⟩ (CS c0 c1 c2 K1 K2 iv fi v u [] [mk2 (S (t.take sp)) (S (t.drop (sp+1))),mk2 (S (t.take (sp+1))) (S (t.drop ((sp+1)+1)))]++gF2 (S (t.take sp)) (S (t.drop (sp+1))) (S (t.take (sp+1))) (S (t.drop ((sp+1)+1))) "" ""):=
   @bI B k _ 40 ok mg mb gok _ _ _ _ _ _ ((lg_12_2 T e imF fo aG tk 0 (S t) ro le rd re ah sq D fi c0 c1 c2 K1 K2 iv v u (S (t.take sp)) (S (t.drop (sp+1))) (S (t.take (sp+1))) (S (t.drop ((sp+1)+1))) "" "" _).trans (gp (hs _ (pJ ..))))
  have s13:S1 B k ⟨dL.names,("fronts",.lst 13)::W0 (S t) ro le rd sq D fi re ah⟩ (CS c0 c1 c2 K1 K2 iv fi v u [] [mk2 (S (t.take sp)) (S (t.drop (sp+1))),mk2 (S (t.take (sp+1))) (S (t.drop ((sp+1)+1)))]++gF2 (S (t.take sp)) (S (t.drop (sp+1))) (S (t.take (sp+1))) (S (t.drop ((sp+1)+1))) "" "") (exec (stAt dL 13)) .nxt ⟨dL.names,("backs",.lst 19)::("fronts",.lst 13)::W0 (S t) ro le rd sq D fi re ah⟩ ((CS c0 c1 c2 K1 K2 iv fi v u [] [mk2 (S (t.take sp)) (S (t.drop (sp+1))),mk2 (S (t.take (sp+1))) (S (t.drop ((sp+1)+1)))]++gF2 (S (t.take sp)) (S (t.drop (sp+1))) (S (t.take (sp+1))) (S (t.drop ((sp+1)+1))) "" "")++gB2 (S (t.take sp)) (S (t.drop (sp+1))) (S (t.take (sp+1))) (S (t.drop ((sp+1)+1))) "" ""):=
   @bI B k _ 40 ok mg mb gok _ _ _ _ _ _ ((lg_13_2 T e imF fo aG tk 0 (S t) ro le rd re ah sq D fi c0 c1 c2 K1 K2 iv v u (S (t.take sp)) (S (t.drop (sp+1))) (S (t.take (sp+1))) (S (t.drop ((sp+1)+1))) "" "" _).trans (gp (hs _ (pQ ..))))
  have e1:aJ (S (t.take sp)) (some 1) none none=S ((t.take sp).drop 1):=jG0 _
  have e2:aJ (S (t.drop ((sp+1)+1))) none (some (-1)) none=S ((t.drop ((sp+1)+1)).take ((t.drop ((sp+1)+1)).length - 1)):=aN0 _
  refine⟨_,@aO0 B k T e imF fo tk mg mb ok gok H Q t ht htl im K2 I ro le rd re ah sq D fi _ _ _ @s12 @s13 ⟨3,.dct K2⟩ rfl rfl [[],t.drop (sp+1),t.drop ((sp+1)+1),(t.drop ((sp+1)+1)).take ((t.drop ((sp+1)+1)).length - 1)] [[],t.take (sp+1),(t.take sp).drop 1] ?_ ?_ ?_ ?_⟩
  ·exact List.forall_mem_cons.mpr ⟨nC t,List.forall_mem_cons.mpr ⟨fE ht _,List.forall_mem_cons.mpr ⟨fE ht _,List.forall_mem_cons.mpr ⟨eM (fE ht _) _,fun c h=>nomatch h⟩⟩⟩⟩
  ·exact List.forall_mem_cons.mpr ⟨nC t,List.forall_mem_cons.mpr ⟨eM ⟨ht,Nat.le_refl _⟩ _,List.forall_mem_cons.mpr ⟨kR (eM ⟨ht,Nat.le_refl _⟩ _) _,fun c h=>nomatch h⟩⟩⟩
  ·show some (⟨0,.lst [.str "",.str (S (t.drop (sp+1))),.str (S (t.drop ((sp+1)+1))),.str (aJ (S (t.drop ((sp+1)+1))) none (some (-1)) none)]⟩:Cell)=_
   rw[e2]
   rfl
  ·show some (⟨0,.lst [.str "",.str (S (t.take (sp+1))),.str (aJ (S (t.take sp)) (some 1) none none)]⟩:Cell)=_
   rw[e1]
   rfl
 ·have hm:mkL t sp t.length=[mk2 (S (t.take sp)) (S (t.drop (sp+1))),mk2 (S (t.take (sp+1))) (S (t.drop ((sp+1)+1))),mk2 (S (t.take (sp+2))) (S (t.drop ((sp+2)+1)))]:=by rw[← hd];exact (congrArg (mkL t sp) (Nat.add_right_comm (sp+1) m 2)).trans (mkL_3 t sp m)
  rw[hm]
  have s12:S1 B k ⟨dL.names,W0 (S t) ro le rd sq D fi re ah⟩ (CS c0 c1 c2 K1 K2 iv fi v u [] [mk2 (S (t.take sp)) (S (t.drop (sp+1))),mk2 (S (t.take (sp+1))) (S (t.drop ((sp+1)+1))),mk2 (S (t.take (sp+2))) (S (t.drop ((sp+2)+1)))]) (exec (stAt dL 12)) .nxt ⟨dL.names,("fronts",.lst 13)::W0 (S t) ro le rd sq D fi re ah⟩ (CS c0 c1 c2 K1 K2 iv fi v u [] [mk2 (S (t.take sp)) (S (t.drop (sp+1))),mk2 (S (t.take (sp+1))) (S (t.drop ((sp+1)+1))),mk2 (S (t.take (sp+2))) (S (t.drop ((sp+2)+1)))]++gF3 (S (t.take sp)) (S (t.drop (sp+1))) (S (t.take (sp+1))) (S (t.drop ((sp+1)+1))) (S (t.take (sp+2))) (S (t.drop ((sp+2)+1)))):=
   @bI B k _ 40 ok mg mb gok _ _ _ _ _ _ ((lg_12_3 T e imF fo aG tk 0 (S t) ro le rd re ah sq D fi c0 c1 c2 K1 K2 iv v u (S (t.take sp)) (S (t.drop (sp+1))) (S (t.take (sp+1))) (S (t.drop ((sp+1)+1))) (S (t.take (sp+2))) (S (t.drop ((sp+2)+1))) _).trans (gp (hs _ (pJ ..))))
  have s13:S1 B k ⟨dL.names,("fronts",.lst 13)::W0 (S t) ro le rd sq D fi re ah⟩ (CS c0 c1 c2 K1 K2 iv fi v u [] [mk2 (S (t.take sp)) (S (t.drop (sp+1))),mk2 (S (t.take (sp+1))) (S (t.drop ((sp+1)+1))),mk2 (S (t.take (sp+2))) (S (t.drop ((sp+2)+1)))]++gF3 (S (t.take sp)) (S (t.drop (sp+1))) (S (t.take (sp+1))) (S (t.drop ((sp+1)+1))) (S (t.take (sp+2))) (S (t.drop ((sp+2)+1)))) (exec (stAt dL 13)) .nxt ⟨dL.names,("backs",.lst 19)::("fronts",.lst 13)::W0 (S t) ro le rd sq D fi re ah⟩ ((CS c0 c1 c2 K1 K2 iv fi v u [] [mk2 (S (t.take sp)) (S (t.drop (sp+1))),mk2 (S (t.take (sp+1))) (S (t.drop ((sp+1)+1))),mk2 (S (t.take (sp+2))) (S (t.drop ((sp+2)+1)))]++gF3 (S (t.take sp)) (S (t.drop (sp+1))) (S (t.take (sp+1))) (S (t.drop ((sp+1)+1))) (S (t.take (sp+2))) (S (t.drop ((sp+2)+1))))++gB3 (S (t.take sp)) (S (t.drop (sp+1))) (S (t.take (sp+1))) (S (t.drop ((sp+1)+1))) (S (t.take (sp+2))) (S (t.drop ((sp+2)+1)))):=
   @bI B k _ 40 ok mg mb gok _ _ _ _ _ _ ((lg_13_3 T e imF fo aG tk 0 (S t) ro le rd re ah sq D fi c0 c1 c2 K1 K2 iv v u (S (t.take sp)) (S (t.drop (sp+1))) (S (t.take (sp+1))) (S (t.drop ((sp+1)+1))) (S (t.take (sp+2))) (S (t.drop ((sp+2)+1))) _).trans (gp (hs _ (pQ ..))))
  have e1:aJ (S (t.take sp)) (some 1) none none=S ((t.take sp).drop 1):=jG0 _
  have e2:aJ (S (t.drop ((sp+2)+1))) none (some (-1)) none=S ((t.drop ((sp+2)+1)).take ((t.drop ((sp+2)+1)).length - 1)):=aN0 _
  refine⟨_,@aO0 B k T e imF fo tk mg mb ok gok H Q t ht htl im K2 I ro le rd re ah sq D fi _ _ _ @s12 @s13 ⟨3,.dct K2⟩ rfl rfl [[],t.drop (sp+1),t.drop ((sp+1)+1),(t.drop ((sp+2)+1)).take ((t.drop ((sp+2)+1)).length - 1)] [[],t.take (sp+1),t.take (sp+2),(t.take sp).drop 1] ?_ ?_ ?_ ?_⟩
  ·exact List.forall_mem_cons.mpr ⟨nC t,List.forall_mem_cons.mpr ⟨fE ht _,List.forall_mem_cons.mpr ⟨fE ht _,List.forall_mem_cons.mpr ⟨eM (fE ht _) _,fun c h=>nomatch h⟩⟩⟩⟩
  ·exact List.forall_mem_cons.mpr ⟨nC t,List.forall_mem_cons.mpr ⟨eM ⟨ht,Nat.le_refl _⟩ _,List.forall_mem_cons.mpr ⟨eM ⟨ht,Nat.le_refl _⟩ _,List.forall_mem_cons.mpr ⟨kR (eM ⟨ht,Nat.le_refl _⟩ _) _,fun c h=>nomatch h⟩⟩⟩⟩
  ·show some (⟨0,.lst [.str "",.str (S (t.drop (sp+1))),.str (S (t.drop ((sp+1)+1))),.str (aJ (S (t.drop ((sp+2)+1))) none (some (-1)) none)]⟩:Cell)=_
   rw[e2]
   rfl
  ·show some (⟨0,.lst [.str "",.str (S (t.take (sp+1))),.str (S (t.take (sp+2))),.str (aJ (S (t.take sp)) (some 1) none none)]⟩:Cell)=_
   rw[e1]
   rfl
end
set_option maxHeartbeats 2000000
theorem okC_of{T:Int→Option Str}{c:Nat}{x:Str}(h:bW T c=some x):okC T c:=by
 rcases ite_some h with⟨_,h⟩ | ⟨hb,h⟩
 ·exact nos h
 ·exact .inr ⟨Bool.eq_false_iff.mpr hb,x,h⟩
theorem okB2_of{T:Int→Option Str}{c:Nat}(h:okC T c):lA0 T c=true:=by
 unfold lA0
 rcases h with h | ⟨_,x,h⟩
 ·rw[h];rfl
 ·rw[h];exact Bool.or_true _
theorem un_all:∀x∈List.range 27,gN ((unL.getD x 0:Nat):Int)=true:=by decide+kernel
theorem un_b1(m:Nat):gN (unC m:Int)=true:=un_all _ (List.mem_range.mpr (Nat.mod_lt _ (by decide)))
noncomputable def jN(T:Int→Option Str)(l:List Nat)(r:List (List Nat)):Prop:=l.filterMap (bW T)=r.map S∧∀c∈l,okC T c
theorem jN.app{T:Int→Option Str}{l l':List Nat}{r r':List (List Nat)}(h:jN T l r)(h':jN T l' r'):jN T (l++l') (r++r'):=
 ⟨by rw[List.filterMap_append,h.1,h'.1,List.map_append],fun c hc=>(List.mem_append.mp hc).elim (h.2 c) (h'.2 c)⟩
theorem jN.un(T:Int→Option Str)(m:Nat):jN T [unC m] []:=⟨List.filterMap_cons_none (pT (un_b1 m)),fun _ hc=>.inl (List.mem_singleton.mp hc▸un_b1 m)⟩
theorem jN.map{T:Int→Option Str}(f:Nat→Nat)(g:Nat→List Nat):∀w:List Nat,(∀c∈w,bW T (f c)=some (S (g c)))→jN T (w.map f) (w.map g)
 |[],_=>⟨rfl,fun c h=>nomatch h⟩
 |c::w,hw=>by
  have i:=jN.map f g w fun d hd=>hw d (List.mem_cons_of_mem _ hd)
  have e:=hw c List.mem_cons_self
  exact⟨by rw[List.map_cons,List.filterMap_cons_some e,i.1];rfl,fun d hd=>(List.mem_cons.mp hd).elim (fun h=>h▸okC_of e) (i.2 d)⟩
structure FT (T:Int→Option Str):Prop where
 fr:∀c m,fil c→bW T (frC c m)=some (S [c])
 lg:∀i,3≤i→i < 8→bW T (64253+i)=some (S (gB.getD i []))
theorem lig_all:∀i∈List.range 8,((!(gB.getD i []).isEmpty)&&(Nat.ble (gB.getD i []).length 3&&(gB.getD i []).all fun c=>Nat.beq c 102 || (Nat.beq c 105 || Nat.beq c 108)))=true:=by decide+kernel
theorem mor_all:∀i∈List.range 4,(Nat.ble (hB0.getD i []).length 1&&(hB0.getD i []).all fun c=>Nat.beq c 102 || (Nat.beq c 105 || Nat.beq c 108))=true:=by decide+kernel
theorem kJ0{l:List Nat}(h:(l.all fun c=>Nat.beq c 102 || (Nat.beq c 105 || Nat.beq c 108))=true):∀c∈l,fil c:=fun c hc=>by
 have:=List.all_eq_true.mp h c hc
 rw[Bool.or_eq_true,Bool.or_eq_true]at this
 exact this.imp Nat.eq_of_beq_eq_true fun h=>h.imp Nat.eq_of_beq_eq_true Nat.eq_of_beq_eq_true
theorem aK0(n:Nat):gB.getD (n % 8) []≠[]∧(gB.getD (n % 8) []).length≤3∧∀c∈gB.getD (n % 8) [],fil c:=by
 have h:=lig_all _ (List.mem_range.mpr (Nat.mod_lt n (by decide)))
 rw[Bool.and_eq_true,Bool.and_eq_true]at h
 exact⟨fun e=>by rw[e]at h;exact Bool.noConfusion h.1,Nat.le_of_ble_eq_true h.2.1,kJ0 h.2.2⟩
theorem oQ(n:Nat):(more n).length≤1∧∀c∈more n,fil c:=by
 have h:=mor_all _ (List.mem_range.mpr (Nat.mod_lt (n / 8) (by decide)))
 rw[Bool.and_eq_true]at h
 exact⟨Nat.le_of_ble_eq_true h.1,kJ0 h.2⟩
noncomputable def rL(n:Nat):List (List Nat):=[gB.getD (n % 8) []]++(more n).map fun c=>[c]
theorem xM:∀l:List Nat,(l.map fun c=>[c]).flatten=l
 |[]=>rfl
 |c::l=>congrArg (c::·) (xM l)
theorem rL_flat(n:Nat):(rL n).flatten=iH n:=by
 show gB.getD (n % 8) []++((more n).map fun c=>[c]).flatten=_
 rw[xM]
 rfl
theorem typ_fm{T:Int→Option Str}(F:FT T)(n:Nat):jN T (dO n) (rL n):=by
 have h1:jN T [fO n] [gB.getD (n % 8) []]:=by
  have e:bW T (fO n)=some (S (gB.getD (n % 8) [])):=by
   have hm:n % 8 < 8:=Nat.mod_lt _ (by decide)
   unfold fO
   generalize n % 8=i at hm
   by_cases hi:i < 3
   ·rw[if_pos hi]
    exact c3 (P:=fun i=>bW T (frC (jM0.getD i 0) (n / 32))=some (S (gB.getD i []))) (F.fr 102 _ (.inl rfl)) (F.fr 105 _ (.inr (.inl rfl))) (F.fr 108 _ (.inr (.inr rfl))) i hi
   ·rw[if_neg hi]
    exact F.lg i (Nat.le_of_not_lt hi) hm
  exact jN.map (fun _=>fO n) (fun _=>gB.getD (n % 8) []) [0] fun _ _=>e
 exact ((h1.app (jN.un T (n / 384))).app (jN.map (fun c=>frC c (n / 32+5)) (fun c=>[c]) (more n) fun c hc=>F.fr c _ ((oQ n).2 c hc)))
theorem typ_len(n:Nat):(dO n).length≤3:=by
 have h:=(oQ n).1
 show ([fO n]++[unC (n / 384)]++(more n).map _).length≤3
 rw[List.length_append,List.length_map]
 exact Nat.add_le_add (Nat.le_refl 2) h
noncomputable def imO(a b c:Nat)(x:Nat):List Nat:=iH (if x=102 then a else if x=105 then b else c)
theorem img_ok(a b c:Nat):ImOk (imO a b c) (jJ a b c) where
 ne:=fun x h=>(aK0 _).1 (List.append_eq_nil_iff.mp h).1
 fl:=fun x y hy=>(List.mem_append.mp hy).elim ((aK0 _).2.2 y) ((oQ _).2 y)
 len:=fun x=>by
  have h1:=(aK0 (if x=102 then a else if x=105 then b else c)).2.1
  have h2:=(oQ (if x=102 then a else if x=105 then b else c)).1
  show (gB.getD _ []++more _).length≤4
  rw[List.length_append]
  exact Nat.add_le_add h1 h2
 kv:=fun x hx=>by rcases hx with rfl | rfl | rfl<;>rfl
theorem lJ0(a b c:Nat):∀w:List Nat,(∀x∈w,fil x)→rD (fT a b c) w=some (w.map fun x=>dO (if x=102 then a else if x=105 then b else c))
 |[],_=>rfl
 |x::w,h=>by
  have hx:(fT a b c).lookup ⟨#[x]⟩=some (.str (S (dO (if x=102 then a else if x=105 then b else c)))):=by rcases h x List.mem_cons_self with rfl | rfl | rfl<;>rfl
  show opt ((fT a b c).lookup ⟨#[x]⟩) _=_
  rw[hx]
  show opt (rD (fT a b c) w) _=_
  rw[lJ0 a b c w fun y hy=>h y (List.mem_cons_of_mem _ hy)]
  rfl
theorem dV0{T:Int→Option Str}(F:FT T)(a b c:Nat):∀w:List Nat,∃r,jN T (w.map fun x=>dO (if x=102 then a else if x=105 then b else c)).flatten r∧r.flatten=sg (imO a b c) w∧(w.map fun x=>dO (if x=102 then a else if x=105 then b else c)).flatten.length≤3 * w.length
 |[]=>⟨[],⟨rfl,fun c h=>nomatch h⟩,rfl,Nat.le_refl _⟩
 |x::w=>by
  obtain⟨r,h1,h2,h3⟩:=dV0 F a b c w
  refine⟨rL (if x=102 then a else if x=105 then b else c)++r,(typ_fm F _).app h1,?_,?_⟩
  ·rw[List.flatten_append,h2,rL_flat]
   rfl
  ·have:=typ_len (if x=102 then a else if x=105 then b else c)
   rw[List.map_cons,List.flatten_cons,List.length_append,List.length_cons]
   lia
theorem fo_ok{T:Int→Option Str}(F:FT T)(a b c:Nat):fU0 (imO a b c) (fT a b c) (foF T):=fun w σ cell hw hl hσ hd=>by
 obtain⟨r,h1,h2,h3⟩:=dV0 F a b c w
 show opt σ[3]? _=_
 rw[hσ]
 show wO cell.d _=_
 rw[hd]
 show opt (rD (fT a b c) w) _=_
 rw[lJ0 a b c w hw]
 have hr:rsL T (w.map fun x=>dO (if x=102 then a else if x=105 then b else c))=r.map S:=h1.1
 have hI:=iZ (img_ok a b c) w
 have hj:JoinOk "" (rsL T (w.map fun x=>dO (if x=102 then a else if x=105 then b else c)))=true:=by
  rw[hr]
  refine lY _ _ ?_
  rw[uV,h2]
  exact Nat.le_trans (Nat.add_le_add (Nat.le_trans hI (Nat.mul_le_mul_left 4 hl)) (Nat.le_of_eq (Nat.mul_zero _))) (by decide)
 refine (gp ⟨by rw[List.length_map];lia,by lia,List.all_eq_true.mpr fun x hx=>okB2_of (h1.2 x hx),hj⟩).trans ?_
 rw[hr,vP,h2]
noncomputable def T3(i:Int):Option Str:=wF.lookup i
theorem T3_f:((List.range 12).map fun y=>bW T3 ((frL 102).getD y 0))=(List.range 12).map fun _=>some (S [102]):=by kernel_rfl!
theorem T3_i:((List.range 12).map fun y=>bW T3 ((frL 105).getD y 0))=(List.range 12).map fun _=>some (S [105]):=by kernel_rfl!
theorem T3_l:((List.range 12).map fun y=>bW T3 ((frL 108).getD y 0))=(List.range 12).map fun _=>some (S [108]):=by kernel_rfl!
theorem T3_g:([3,4,5,6,7].map fun i=>bW T3 (64253+i))=[3,4,5,6,7].map fun i=>some (S (gB.getD i [])):=by kernel_rfl!
theorem T3_ft:FT T3 where
 fr:=fun c m hc=>by
  have hm:=List.mem_range.mpr (Nat.mod_lt m (show 12 > 0 by decide))
  rcases hc with rfl | rfl | rfl
  ·exact List.map_inj_left.mp T3_f (m % 12) hm
  ·exact List.map_inj_left.mp T3_i (m % 12) hm
  ·exact List.map_inj_left.mp T3_l (m % 12) hm
 lg:=fun i h3 h8=>List.map_inj_left.mp T3_g i ((show ∀i,i < 8→3≤i→i∈[3,4,5,6,7] by decide) i h8 h3)
set_option maxHeartbeats 2000000
theorem jB0(m:Nat):∀l:List Int,los m (iL l)=true
 |[]=>rfl
 |_::l=>jB0 m l
section
variable {B:Bs}{k:Nat}{T:Int→Option Str}{e:Str→Str→Option Bool}{tk:Fn}{mg mb:Str→Option Value}(ok:BsOk B)(gok:GlOk B k (GL T e gT (foF T) aG tk) mg mb)
 (H:EllOk e) (Q:TkOk tk) (F:FT T)
include ok gok H Q F
theorem law_run(v:Nat)(script:List Int)(hs:script.length≤1000):S1 B k ⟨dL.names,A0⟩ [⟨v,.lst (iL script)⟩] (execs dL.body) (.ret (.bool true)) ⟨dL.names,[]⟩ [⟨v,.lst (iL script)⟩]:=by
 obtain⟨a,b,c,d,q,s,s0,s1⟩:=@s_01 B k T e (foF T) tk mg mb ok gok v script hs
 have s2:=@s_2 B k T e (foF T) tk mg mb ok gok ⟨v,.lst (iL script)⟩ a b c d q s
 have I:=img_ok a b c
 have FO:=fo_ok F a b c
 have s3:=@s_3 B k T e gT (foF T) tk mg mb ok gok (imO a b c) (fT a b c) (jJ a b c) I FO ⟨v,.lst (iL script)⟩ ⟨0,.lst (nL a b c d q s)⟩ ⟨0,.lst [.int (a:Int),.int (b:Int),.int (c:Int)]⟩
 have L:LoC ⟨v,.lst (iL script)⟩ ⟨0,.lst [.int (a:Int),.int (b:Int),.int (c:Int)]⟩ (nL a b c d q s) (fT a b c) (jJ a b c):=⟨jB0 8 script,rfl,rfl,rfl,rfl⟩
 obtain⟨N,v',u,le,txt,sp,htx,hN,hsp,Hm⟩:=@s_marks B k T e gT (foF T) tk mg mb ok gok (imO a b c) (fT a b c) (jJ a b c) I FO ⟨v,.lst (iL script)⟩ ⟨0,.lst [.int (a:Int),.int (b:Int),.int (c:Int)]⟩ a b c d q s L
 have hl:=oP I (N+1) [eI d]
 have hf:=kG I (N+1) [eI d] fun x hx=>List.mem_singleton.mp hx▸qF d
 rw[← htx]at hl hf
 have hp:4 ^ (N+1)≤4 ^ 4:=Nat.pow_le_pow_right (by decide) hN
 rw[List.length_singleton,Nat.mul_one]at hl
 obtain⟨g,sF⟩:=@s_fin B k T e gT (foF T) tk mg mb ok gok H Q txt hf (Nat.le_trans hl (Nat.le_trans hp (by decide))) (imO a b c) (jJ a b c) I (S [eI d]) (S le) (S txt) (S []) (S []) (sp:Int) ((N+1:Nat):Int) ((s % 3:Nat):Int) sp hsp ⟨v,.lst (iL script)⟩ ⟨0,.lst (nL a b c d q s)⟩ ⟨0,.lst [.int (a:Int),.int (b:Int),.int (c:Int)]⟩ (fT a b c) 1 v' u
 have s4:=@Hm _ _ _ _ @sF
 rw[dL_body]
 have all:=@aP B k _ _ _ _ _ _ _ _ _ @s0 (@aP B k _ _ _ _ _ _ _ _ _ @s1 (@aP B k _ _ _ _ _ _ _ _ _ @s2 (@aP B k _ _ _ _ _ _ _ _ _ @s3 @s4)))
 exact @S1.drop B k _ _ [⟨v,.lst (iL script)⟩] [⟨v,.lst (iL script)⟩] g _ _ @all (Nat.le_refl _) (fun i c h=>.inl h) rfl rfl
noncomputable def lawC(args:List PV)(σ:Sto):Prop:=args=[.lst 0]∧∃(v:Nat) (script:List Int),script.length≤1000∧σ=[⟨v,.lst (iL script)⟩]
noncomputable def lawF:Fn:=fun args σ=>@grd _ (lawC args σ) (Classical.propDecidable _) (some (.bool true,σ))
omit ok gok H Q F
theorem law_true(v:Nat)(script:List Int)(hs:script.length≤1000):∃σ',lawF [.lst 0] [⟨v,.lst (iL script)⟩]=some (.bool true,σ')∧σ'[0]?=some ⟨v,.lst (iL script)⟩:=
 ⟨_,if_pos ⟨rfl,v,script,hs,rfl⟩,rfl⟩
include ok gok H Q F
theorem law_ok{a:Addr}{fd:FuncData}(D:DefAt B a fd dL.names dL.params dL.body):FnOk B (k+1) (.ref a) lawF:=pW ok D fun args σ v σ' h=>by
 obtain⟨hc,h2⟩:=@grd_some _ _ (lawC args σ) (Classical.propDecidable _) _ h
 obtain⟨rfl,rfl⟩:=Prod.mk.inj (Option.some.inj h2)
 obtain⟨rfl,u,script,hs,rfl⟩:=hc
 refine⟨by rw[sY];rfl,.ret (.bool true),⟨dL.names,[]⟩,?_,.inl rfl⟩
 rw[sY]
 exact @law_run B k T e tk mg mb ok gok H Q F u script hs
end
theorem zI{prog:Program}{w:World}{h:Heap}{d:Addr}{o:Obj}{es:Array DictEntry}{ep:Nat}{ps:List (Int×Str)}(ho:h.get? d=some o)(hx:o.ExactDict)(hd:o.data=.dict es ep)(he:Paired bY ps es.toList):
  ∃f,h.MapOf (intKind prog w) d f∧∀i:Int,match ps.lookup i with
   |some x=>∃t,f i=some (.str x t)
   |none=>f i=none:=by
 refine⟨fun k=>findBy (intKind prog w).is es k,⟨o,es,ep,ho,hx,hd,fun e hm=>?_,fun k=>rfl⟩,fun i=>?_⟩
 ·obtain⟨k,t,hk,hh⟩:=tD he e (by simpa using hm)
  exact⟨k,by rw[hk];exact intKind_is prog w k t,hh⟩
 ·have hf:findBy (intKind prog w).is es i=(es.toList.find? fun e=>(intKind prog w).is i e.key).map (·.val):=by
   unfold findBy;rw[← Array.find?_toList]
  show match ps.lookup i with
   |some x=>∃t,findBy (intKind prog w).is es i=some (.str x t)
   |none=>findBy (intKind prog w).is es i=none
  rw[hf]
  generalize es.toList=l at he
  induction he with
  |nil=>rfl
  |@cons p e ps' l' hp _ ih=>
   obtain⟨t,u,rfl⟩:=hp
   obtain⟨pi,px⟩:=p
   rw[List.lookup_cons,List.find?_cons]
   have hk:(intKind prog w).is i (.int pi t)=(i==pi):=by
    show Value.isInt i (.int pi t)=_
    show (pi==i)=(i==pi)
    exact BEq.comm
   dsimp only
   rw[hk]
   cases hi:i==pi with
   |true=>exact⟨u,rfl⟩
   |false=>exact ih
structure FR where
 name:Str
 qual:Str
 args:Arguments
 body:List Stmt
 scope:Scope
noncomputable def FR.d(R:FR):DefP:=⟨R.scope.names,R.args.args.map (·.arg),R.body⟩
noncomputable def noR:FR:=⟨"","",⟨[],[],none,[],[],none,[]⟩,[],default⟩
noncomputable def cM(p:Program)(f:Str):FR:=(p.main.body.findSome? fun st=>eJ st none (fd:=fun n a b sc=>if n==f then some ⟨f,f,a,b,sc⟩ else none)).getD noR
noncomputable def qT(p:Program)(f q:Str):FR:=(p.main.body.findSome? fun st=>eJ st none (cd:=fun b=>b.findSome? fun st=>eJ st none (fd:=fun n a b sc=>if n==f then some ⟨f,q,a,b,sc⟩ else none))).getD noR
noncomputable def iR0{β:Type}(d:Data)(f:FuncData→Option β):Option β:=match d with
 |.func fd=>f fd
 |_=>none
theorem xL{β:Type}{r:β}{d:Data}{f:FuncData→Option β}(h:iR0 d f=some r):∃fd,d=.func fd∧f fd=some r:=by
 cases d with
 |func fd=>exact⟨fd,rfl,h⟩
 |_=>exact nos h
noncomputable def rO{β:Type}(d:Data)(f:Array Value→Option β):Option β:=match d with
 |.fields vs=>f vs
 |_=>none
theorem iK{β:Type}{r:β}{d:Data}{f:Array Value→Option β}(h:rO d f=some r):∃vs,d=.fields vs∧f vs=some r:=by
 cases d with
 |fields vs=>exact⟨vs,rfl,h⟩
 |_=>exact nos h
noncomputable def fnV(o:Option Obj):Option (Str×Str×Arguments×FuncBody×Scope×Addr×List (Str×Addr)×Value×Value×Value×Addr):=opt o fun ob=>iR0 ob.data fun fd=>some (fd.name,fd.qualname,fd.params,fd.body,fd.scope,fd.globals,fd.closure,fd.defaults,fd.kwdefaults,fd.code,fd.builtins)
noncomputable def fnE(R:FR)(clo:List (Str×Addr))(dflt:Value)(code:Nat):Option (Str×Str×Arguments×FuncBody×Scope×Addr×List (Str×Addr)×Value×Value×Value×Addr):=
 some (R.name,R.qual,R.args,.stmts R.body,R.scope,mainNs,clo,dflt,.none,.ref code,builtinsNs)
noncomputable def codeV(o:Option Obj):Option (Str×Str):=opt o fun ob=>rO ob.data fun vs=>opt vs[1]? fun a=>qQ a fun x=>opt vs[2]? fun b=>qQ b fun y=>some (x,y)
structure FnAt (kk:Nat→Option Obj) (a:Nat) (R:FR) (clo:List (Str×Addr)) (dflt:Value) (file:Str):Prop where
 fn:fnV (kk a)=fnE R clo dflt (a - 1)
 code:codeV (kk (a - 1))=some (R.qual,file)
structure FnIs (fd:FuncData) (R:FR) (clo:List (Str×Addr)) (dflt:Value) (a:Nat):Prop where
 name:fd.name=R.name
 qual:fd.qualname=R.qual
 args:fd.params=R.args
 body:fd.body=.stmts R.body
 scope:fd.scope=R.scope
 glob:fd.globals=mainNs
 clo:fd.closure=clo
 dflt:fd.defaults=dflt
 kw:fd.kwdefaults=.none
 code:fd.code=.ref a
 bt:fd.builtins=builtinsNs
theorem bA{α β:Type}{a c:α}{b d:β}{P:Prop}(q:b=d→P)(h:(a,b)=(c,d)):a=c∧P:=⟨congrArg Prod.fst h,q (congrArg Prod.snd h)⟩
theorem FnAt.get{kk:Nat→Option Obj}{a:Nat}{R:FR}{clo:List (Str×Addr)}{dflt:Value}{file:Str}(x:FnAt kk a R clo dflt file):
  ∃o fd,kk a=some o∧o.data=.func fd∧FnIs fd R clo dflt (a - 1):=by
 obtain⟨o,ho,h⟩:=aA (show opt _ _=some _ from x.fn)
 obtain⟨fd,hd,h⟩:=xL h
 have c:=(bA (bA (bA (bA (bA (bA (bA (bA (bA (bA id)))))))))) (Option.some.inj h)
 exact⟨o,fd,ho,hd,c.1,c.2.1,c.2.2.1,c.2.2.2.1,c.2.2.2.2.1,c.2.2.2.2.2.1,c.2.2.2.2.2.2.1,c.2.2.2.2.2.2.2.1,c.2.2.2.2.2.2.2.2.1,c.2.2.2.2.2.2.2.2.2.1,c.2.2.2.2.2.2.2.2.2.2⟩
theorem FnAt.getCode{kk:Nat→Option Obj}{a:Nat}{R:FR}{clo:List (Str×Addr)}{dflt:Value}{file:Str}(x:FnAt kk a R clo dflt file):
  ∃o vs t u,kk (a - 1)=some o∧o.data=.fields vs∧vs[1]?=some (.str R.qual t)∧vs[2]?=some (.str file u):=by
 obtain⟨o,ho,h⟩:=aA x.code
 obtain⟨vs,hd,h⟩:=iK h
 obtain⟨v1,h1,h⟩:=aA h
 obtain⟨y,t,e1,h⟩:=fK h
 obtain⟨v2,h2,h⟩:=aA h
 obtain⟨z,u,e2,h⟩:=fK h
 obtain⟨e3,e4⟩:=Prod.mk.inj (Option.some.inj h)
 exact⟨o,vs,t,u,ho,hd,by rw[h1,e1,e3],by rw[h2,e2,e4]⟩
noncomputable def Has(kk:Nat→Option Obj)(B:Bs):Prop:=∀a o,kk a=some o→a∉B.Tb→B.h₀.get? a=some o
theorem Has.at{kk:Nat→Option Obj}{B:Bs}(H:Has kk B){h:Heap}(e:Ext B h):Has kk (B.at h):=fun a o ho ht=>e.keep a o (H a o ho ht) ht
theorem eB0{k:ScopeKind}(h:(k==.function)=true):k=.function:=by cases k<;>first | rfl | cases h
noncomputable def gX0(R:FR):Bool:=R.scope.kind==.function&&!R.scope.isGenerator&&!R.scope.isCoroutine&&decide (R.d.params.Nodup)&&R.d.params.all fun p=>R.scope.names.lookup p==some .local || R.scope.names.lookup p==some .cell
noncomputable def Binds(R:FR):Prop:=∀fd:FuncData,fd.params=R.args→fd.defaults=.none→∀vals:List Value,vals.length=R.d.params.length→bindArgs fd ⟨vals,[]⟩=pure (R.d.params.zip vals)
theorem FnAt.defAt{kk:Nat→Option Obj}{B:Bs}{a:Nat}{R:FR}{file:Str}(x:FnAt kk a R [] .none file)(H:Has kk B)(ha:a∉B.Tb)(hc:a - 1∉B.Tb)(ok:gX0 R=true)(b:Binds R):
  ∃fd,DefAt B a fd R.d.names R.d.params R.d.body:=by
 obtain⟨o,fd,ho,hd,I⟩:=x.get
 obtain⟨oc,vs,t,u,hoc,hdc,hv1,hv2⟩:=x.getCode
 unfold gX0 at ok
 simp only[Bool.and_eq_true,Bool.not_eq_true',decide_eq_true_eq,List.all_eq_true,Bool.or_eq_true]at ok
 obtain⟨⟨⟨⟨k1,k2⟩,k3⟩,k4⟩,k5⟩:=ok
 exact⟨fd,{
  obj:=⟨o,H a o ho ha,hd⟩
  tb:=ha
  code:=⟨a - 1,oc,vs,t,I.code,hc,H _ oc hoc hc,hdc,by rw[I.qual];exact hv1⟩
  body:=I.body
  clo:=I.clo
  nms:=by rw[I.scope];rfl
  kind:=by rw[I.scope];exact eB0 k1
  gen:=by rw[I.scope];exact k2
  co:=by rw[I.scope];exact k3
  glob:=I.glob
  bt:=I.bt
  bind:=b fd I.args I.dflt
  nodup:=k4
  pk:=fun p hp=>by
   rcases k5 p hp with h | h
   ·exact .inl (show R.scope.names.lookup p=_ by simpa using h)
   ·exact .inr (show R.scope.names.lookup p=_ by simpa using h) }⟩
noncomputable def mE(R:FR):Bool:=R.scope.kind==.function&&!R.scope.isGenerator&&!R.scope.isCoroutine&&decide (R.d.params.Nodup)&&(R.d.params.all fun p=>R.scope.names.lookup p==some .local)&&R.scope.names.all fun y=>y.2 !=.cell
theorem FnAt.meth{kk:Nat→Option Obj}{B:Bs}{a:Nat}{R:FR}{clo:List (Str×Addr)}{dflt:Value}{file:Str}(x:FnAt kk a R clo dflt file)(H:Has kk B)(ha:a∉B.Tb)(hc:a - 1∉B.Tb)(ok:mE R=true)
  (hcell:∀x c,clo.lookup x=some c→c∉B.Tb∧∃o w,B.h₀.get? c=some o∧o.data=.cell w) (hap:∀x y c,clo.lookup x=some c→clo.lookup y=some c→x=y):
  ∃fd,MethDef B a fd R.d.names R.d.params R.d.body clo∧fd.params=R.args∧fd.defaults=dflt∧fd.code=.ref (a - 1):=by
 obtain⟨o,fd,ho,hd,I⟩:=x.get
 obtain⟨oc,vs,t,u,hoc,hdc,hv1,hv2⟩:=x.getCode
 unfold mE at ok
 simp only[Bool.and_eq_true,Bool.not_eq_true',decide_eq_true_eq,List.all_eq_true]at ok
 obtain⟨⟨⟨⟨⟨k1,k2⟩,k3⟩,k4⟩,k5⟩,k6⟩:=ok
 exact⟨fd,{
  obj:=⟨o,H a o ho ha,hd⟩
  tb:=ha
  code:=⟨a - 1,oc,vs,t,I.code,hc,H _ oc hoc hc,hdc,by rw[I.qual];exact hv1⟩
  body:=I.body
  closure:=I.clo
  cell:=hcell
  apart:=hap
  nms:=by rw[I.scope];rfl
  nocell:=fun y hy=>by simpa using k6 y hy
  kind:=by rw[I.scope];exact eB0 k1
  gen:=by rw[I.scope];exact k2
  co:=by rw[I.scope];exact k3
  glob:=I.glob
  bt:=I.bt
  nodup:=k4
  pk:=fun p hp=>show R.scope.names.lookup p=_ by simpa using k5 p hp },I.args,I.dflt,I.code⟩
noncomputable def oV(R:FR):Bool:=mE R&&(fX (R.args.posonlyargs++R.args.args).head? false fun ar=>ar.arg=="self")&&
 R.scope.names.lookup ("super":Str)==some .globalImplicit&&R.scope.names.lookup ("__class__":Str)==some .free&&R.scope.names.lookup ("self":Str)==some .local
theorem FnAt.sup{kk:Nat→Option Obj}{B:Bs}{a cc:Nat}{R:FR}{dflt:Value}{file:Str}(x:FnAt kk a R [(PySem.Str.ofString "__class__",cc)] dflt file)(H:Has kk B)(ha:a∉B.Tb)(hc:a - 1∉B.Tb)(ok:oV R=true)
  (hcc:cc∉B.Tb) (hcell:∃o w,B.h₀.get? cc=some o∧o.data=.cell w) (hfile:((B.prog.main.file:Str)==file)=true):
  ∃fd,SupDef B a fd R.d.names R.d.params R.d.body cc∧fd.params=R.args∧fd.defaults=dflt∧fd.code=.ref (a - 1):=by
 unfold oV at ok
 simp only[Bool.and_eq_true]at ok
 obtain⟨⟨⟨⟨k1,k2⟩,k3⟩,k4⟩,k5⟩:=ok
 have hl:∀x c,([(PySem.Str.ofString "__class__",cc)]:List (Str×Addr)).lookup x=some c→x=PySem.Str.ofString "__class__"∧c=cc:=fun x c h=>by
  rw[List.lookup_cons]at h
  cases hx:x==PySem.Str.ofString "__class__" with
  |true=>rw[hx]at h;cases h;exact⟨by simpa using hx,rfl⟩
  |false=>rw[hx]at h;cases h
 obtain⟨fd,D,e1,e2,e3⟩:=x.meth H ha hc k1 (fun x c h=>by obtain⟨_,rfl⟩:=hl x c h;exact⟨hcc,hcell⟩) (fun x y c h1 h2=>(hl x c h1).1.trans (hl y c h2).1.symm)
 obtain⟨oc,vs,t,u,hoc,hdc,hv1,hv2⟩:=x.getCode
 refine⟨fd,⟨D,⟨a - 1,oc,vs,file,u,e3,hc,H _ oc hoc hc,hdc,hv2,hfile⟩,?_,show R.scope.names.lookup _=_ by simpa using k3,show R.scope.names.lookup _=_ by simpa using k4,show R.scope.names.lookup _=_ by simpa using k5⟩,e1,e2,e3⟩
 rw[e1]
 obtain⟨ar,har,k2⟩:=jG k2
 exact⟨ar,har,by simpa using k2⟩
theorem fH{a b:Bool}(h:(a&&b)=true):a=true∧b=true:=(Bool.and_eq_true a b).mp h
noncomputable def strV(v:Option Value):Option Str:=opt v fun v=>qQ v some
theorem sS{v:Option Value}{x:Str}(h:strV v=some x):∃t,v=some (.str x t):=by
 obtain⟨w,rfl,h⟩:=aA h
 obtain⟨y,t,rfl,h⟩:=fK h
 exact⟨t,congrArg (fun y=>some (Value.str y t)) (Option.some.inj h)⟩
noncomputable def nN(o:Option Obj):Bool:=fX o false fun ob=>mQ ob.data false fun es=>es.toList.all fun e=>strB e.key fun _=>true
theorem ns_of{h:Heap}{a:Addr}{o:Obj}(ho:h.get? a=some o)(hb:nN (some o)=true):h.Ns a (glob (some o)):=by
 obtain⟨es,ep,hd,hb⟩:=qM hb
 refine⟨o,es,ep,ho,hd,fun e he=>(vO (List.all_eq_true.mp hb e (Array.mem_toList_iff.mpr he))).imp fun x h=>h.imp fun t h=>h.1,fun name=>?_⟩
 unfold nsFind findBy
 show _=mQ o.data none _
 rw[hd]
 rfl
noncomputable def onCell{β:Type}(d:Data)(f:Option Value→Option β):Option β:=match d with
 |.cell v=>f v
 |_=>none
theorem yP{β:Type}{r:β}{d:Data}{f:Option Value→Option β}(h:onCell d f=some r):∃v,d=.cell v∧f v=some r:=by
 cases d with
 |cell v=>exact⟨v,rfl,h⟩
 |_=>exact nos h
noncomputable def cellV(o:Option Obj):Option Value:=opt o fun ob=>onCell ob.data id
theorem aG0{o:Option Obj}{v:Value}(h:cellV o=some v):∃ob,o=some ob∧ob.data=.cell (some v):=by
 obtain⟨ob,rfl,h⟩:=aA h
 obtain⟨w,hd,h⟩:=yP h
 exact⟨ob,rfl,by rw[hd];exact congrArg Data.cell h⟩
noncomputable def kK0{β:Type}(v:Value)(f:Int→Option β):Option β:=match v with
 |.int i _=>f i
 |_=>none
theorem xC{β:Type}{r:β}{v:Value}{f:Int→Option β}(h:kK0 v f=some r):∃i t,v=.int i t∧f i=some r:=by
 cases v with
 |int i t=>exact⟨i,t,rfl,h⟩
 |_=>exact nos h
noncomputable def intV(v:Value):Option Int:=kK0 v some
theorem sI{v:Value}{i:Int}(h:intV v=some i):∃t,v=.int i t:=by
 obtain⟨j,t,rfl,h⟩:=xC h
 exact⟨t,congrArg (fun j=>Value.int j t) (Option.some.inj h)⟩
noncomputable def lF0(v:Value)(f:Int→Bool):Bool:=fX (intV v) false f
theorem pA{v:Value}{f:Int→Bool}(h:lF0 v f=true):∃i t,v=.int i t∧f i=true:=by
 obtain⟨i,e,h⟩:=jG h
 obtain⟨t,e⟩:=sI e
 exact⟨i,t,e,h⟩
noncomputable def boolB(v:Value):Bool:=match v with
 |.bool _=>true
 |_=>false
theorem boolB_t{v:Value}(h:boolB v=true):∃b,v=.bool b:=by
 cases v with
 |bool b=>exact⟨b,rfl⟩
 |_=>exact Bool.noConfusion h
noncomputable def b1L:List Int:=[173,847,6150,6155,6156,6157,8203,8204,8205,8288,65279,65024,65025,65026,65027,65028,65029,65030,65031,65032,65033,65034,65035,65036,65037,65038,65039]
theorem hW0(i:Int):gN i=true↔i∈b1L:=by
 show b1L.any (fun k=>decide (i=k))=true↔_
 simp[List.any_eq_true]
noncomputable def setB(d:Data)(f:Array (Int×Value)→SetTable→Bool):Bool:=match d with
 |.set es _ t=>f es t
 |_=>false
theorem setB_t{d:Data}{f:Array (Int×Value)→SetTable→Bool}(h:setB d f=true):∃es ep t,d=.set es ep t∧f es t=true:=by
 cases d with
 |set es ep t=>exact⟨es,ep,t,rfl,h⟩
 |_=>exact Bool.noConfusion h
noncomputable def bX0(o:Option Obj):Bool:=fX o false fun ob=>ob.cls==.type "set"&&(ob.dict.isNone&&(ob.slots.size==0&&setB ob.data fun es t=>(es.toList.all fun e=>lF0 e.2 fun i=>b1L.contains i&&(e.1==hashInt i&&e.2.scannable))&&((b1L.all fun i=>es.toList.any fun e=>lF0 e.2 fun j=>j==i)&&(decide (es.size < scanBound)&&t.fits es.size))))
theorem lD0{prog:Program}{w:World}{h:Heap}{a:Addr}{o:Obj}(ho:h.get? a=some o)(hb:bX0 (some o)=true):∃n,h.SetOf (intKind prog w) a gN n:=by
 obtain⟨h1,hb⟩:=fH hb
 obtain⟨h2,hb⟩:=fH hb
 obtain⟨h3,hb⟩:=fH hb
 obtain⟨es,ep,t,hd,hb⟩:=setB_t hb
 obtain⟨k1,hb⟩:=fH hb
 obtain⟨k2,hb⟩:=fH hb
 obtain⟨k3,k4⟩:=fH hb
 refine⟨es.size,o,es,ep,t,ho,⟨eq_of_beq h1,Option.isNone_iff_eq_none.mp h2,Array.eq_empty_of_size_eq_zero (eq_of_beq h3)⟩,hd,fun e he=>?_,fun k=>?_,of_decide_eq_true k3,k4,rfl⟩
 ·obtain⟨i,u,hi,q⟩:=pA (List.all_eq_true.mp k1 e he)
  obtain⟨_,q⟩:=fH q
  obtain⟨q2,q3⟩:=fH q
  exact⟨⟨i,by rw[hi];exact beq_self_eq_true i,eq_of_beq q2⟩,q3⟩
 ·rw[hW0]
  constructor
  ·intro hk
   obtain⟨e,he,hq⟩:=List.any_eq_true.mp (List.all_eq_true.mp k2 k hk)
   obtain⟨j,u,hj,q⟩:=pA hq
   exact⟨e,he,by rw[hj,eq_of_beq q];exact beq_self_eq_true k⟩
  ·rintro ⟨e,he,hq⟩
   obtain⟨i,u,hi,q⟩:=pA (List.all_eq_true.mp k1 e he)
   rw[hi]at hq
   rw[show k=i from (eq_of_beq (show (i==k)=true from hq)).symm]
   exact List.contains_iff_mem.mp (fH q).1
noncomputable def fldB(d:Data)(f:Array Value→Bool):Bool:=fX (rO d some) false f
theorem fldB_t{d:Data}{f:Array Value→Bool}(h:fldB d f=true):∃vs,d=.fields vs∧f vs=true:=by
 obtain⟨x,e,h⟩:=jG h
 obtain⟨vs,e,e'⟩:=iK e
 exact⟨vs,e,(Option.some.inj e').symm▸h⟩
noncomputable def hZ(oc _:Option Obj)(P:Nat):Bool:=fX oc false fun o=>o.cls==.type "code"&&fldB o.data fun vs=>vs[11]?==some (.ref P)&&((strB (vs.getD 18 .none) fun _=>true)&&((lF0 (vs.getD 7 .none) fun _=>true)&&(boolB (vs.getD 9 .none)&&lF0 (vs.getD 10 .none) fun _=>true)))
theorem fF0{h:Heap}{c P:Addr}{oc:Obj}(hc:h.get? c=some oc)(hP:h.get? P=some { cls:=.none,data:=.fields #[] })(hb:hZ (some oc) none P=true)(hne:c≠P):∃ps,h.IsCode c P ps∧h.TableAt c P ps:=by
 obtain⟨h1,hb⟩:=fH hb
 obtain⟨vs,hd,hb⟩:=fldB_t hb
 obtain⟨k1,hb⟩:=fH hb
 obtain⟨k2,hb⟩:=fH hb
 obtain⟨k3,hb⟩:=fH hb
 obtain⟨k4,k5⟩:=fH hb
 have e11:vs[11]?=some (.ref P):=by simpa using k1
 have g11:vs.getD 11 .none=.ref P:=by rw[Array.getD_eq_getD_getElem?,e11];rfl
 obtain⟨file,tf,hf,_⟩:=vO k2
 obtain⟨fl,tg,hfl,_⟩:=pA k3
 obtain⟨inF,hin⟩:=boolB_t k4
 obtain⟨text,tt,htx,_⟩:=pA k5
 exact⟨#[],⟨oc,vs,file,tf,fl,tg,inF,text,tt,_,hc,hd,g11,hf,hfl,hin,htx,hP,rfl,trivial,hne⟩,⟨oc,vs,hc,by simpa using h1,hd,e11⟩,hP⟩
noncomputable def tY(ks:List Nat)(kk:Nat→Option Obj):Frag:=ks.filterMap fun a=>(kk a).map fun o=>(a,o)
theorem fB0{ks:List Nat}{kk:Nat→Option Obj}{b:Addr}{o:Obj}(h:(tY ks kk).lookup b=some o):kk b=some o:=by
 obtain⟨l1,l2,hl,_⟩:=List.lookup_eq_some_iff.mp h
 have hm:(b,o)∈tY ks kk:=by rw[hl];simp
 unfold tY at hm
 obtain⟨a,_,ha⟩:=List.mem_filterMap.mp hm
 obtain⟨o',ho',e⟩:=Option.map_eq_some_iff.mp ha
 cases e
 exact ho'
structure Ad where
 kc:Nat
 ns:Nat
 cc:Nat
 i0:Nat
 pu:Nat
 po:Nat
 pa:Nat
 ln:Nat
 st:Nat
 pf:Nat
 dI:Nat
 dP:Nat
 b1:Nat
 b3:Nat
 tops:List (Str×Nat)
noncomputable def Ad.tb(ad:Ad):List Addr:=[ad.ln - 5,ad.st - 5]
noncomputable def Ad.codes(ad:Ad):List (Addr×Addr):=[(ad.ln - 1,ad.ln - 5),(ad.st - 1,ad.st - 5)]
noncomputable def Ad.K(ad:Ad)(kk:Nat→Option Obj):Frag:=tY [ad.kc,ad.ns,2,ad.i0,ad.pu,ad.po,ad.pa,ad.ln,ad.st,ad.pf] kk
noncomputable abbrev FnT:=Option (Str×Str×Arguments×FuncBody×Scope×Addr×List (Str×Addr)×Value×Value×Value×Addr)×Option (Str×Str)
noncomputable def uN(kk:Nat→Option Obj)(a:Nat):FnT:=(fnV (kk a),codeV (kk (a - 1)))
noncomputable def uQ(a:Nat)(R:FR)(clo:List (Str×Addr))(dflt:Value)(file:Str):FnT:=(fnE R clo dflt (a - 1),some (R.qual,file))
theorem FnAt.of{kk:Nat→Option Obj}{a:Nat}{R:FR}{clo:List (Str×Addr)}{dflt:Value}{file:Str}(h:uN kk a=uQ a R clo dflt file):FnAt kk a R clo dflt file:=
 ⟨congrArg Prod.fst h,congrArg Prod.snd h⟩
noncomputable def nK(p:Program):FR:=qT p "__init__" "_Accumulator.__init__"
noncomputable def oB(p:Program):FR:=qT p "push" "_Accumulator.push"
noncomputable def oG(p:Program):FR:=qT p "pop" "_Accumulator.pop"
noncomputable def iR(p:Program):FR:=qT p "part_count" "_Accumulator.part_count"
noncomputable def yI(p:Program):FR:=qT p "__len__" "_Accumulator.__len__"
noncomputable def vU(p:Program):FR:=qT p "__str__" "_Accumulator.__str__"
noncomputable def kO(p:Program):FR:=qT p "pop_from" "_Accumulator.pop_from"
noncomputable def eP0(ad:Ad):List (Str×Addr):=[(PySem.Str.ofString "__class__",ad.cc)]
noncomputable def lH0{β:Type}(d:Data)(f:Array Value→Option β):Option β:=match d with
 |.seq vs _=>f vs
 |_=>none
theorem yT{β:Type}{r:β}{d:Data}{f:Array Value→Option β}(h:lH0 d f=some r):∃vs n,d=.seq vs n∧f vs=some r:=by
 cases d with
 |seq vs n=>exact⟨vs,n,rfl,h⟩
 |_=>exact nos h
noncomputable def defV(o:Option Obj):Option (List (Option Int)):=opt o fun ob=>lH0 ob.data fun vs=>some (vs.toList.map intV)
noncomputable def modV(o:Option Obj):Option (Value×Option Addr×Data):=opt o fun ob=>some (ob.cls,ob.dict,ob.data)
noncomputable def clsV(K:Frag)(C:Addr):Option (Str×List Value×Bool×Bool):=(clsIn K C).map fun cd=>(cd.qualname,cd.mro,cd.hasDel,cd.hasDict)
noncomputable def slV(K:Frag)(C:Addr):Option (Option Value):=(K.lookup C).map fun o=>(o.slots.toList[4]?).join
noncomputable def fW0:List (Str×Value):=gD++([(PySem.Str.ofString "super",.type "super"),(PySem.Str.ofString "sum",.builtin "sum")]:List (Str×Value))
noncomputable def findL1:List Str:=["__getattribute__","__getattr__","__iter__","_initial_size","__init__","__setattr__","append","push","pop","part_count","__len__","__str__","pop_from","__getitem__","__setitem__"]
noncomputable def findR1(ad:Ad):List (Option (Option Value)):=[some (some (.builtin "list.__getattribute__")),some none,some (some (.builtin "list.__iter__")),some none,some (some (.ref ad.i0)),some (some (.builtin "object.__setattr__")),some (some (.builtin "list.append")),some (some (.ref ad.pu)),some (some (.ref ad.po)),some (some (.ref ad.pa)),some (some (.ref ad.ln)),some (some (.ref ad.st)),some (some (.ref ad.pf)),some (some (.builtin "list.__getitem__")),some (some (.builtin "list.__setitem__"))]
noncomputable def lv1(ad:Ad)(kk:Nat→Option Obj):=ad.tops.map (fun x=>uN kk x.2)
noncomputable def lw1(p:Program)(ad:Ad):=ad.tops.map (fun x=>uQ x.2 (cM p x.1) [] Value.none p.main.file)
noncomputable def lv2(ad:Ad)(kk:Nat→Option Obj):=[uN kk ad.i0,uN kk ad.pu,uN kk ad.po,uN kk ad.pa,uN kk ad.ln,uN kk ad.st,uN kk ad.pf]
noncomputable def lw2(p:Program)(ad:Ad):=[uQ ad.i0 (nK p) (eP0 ad) (Value.ref ad.dI) p.main.file,uQ ad.pu (oB p) [] Value.none p.main.file,uQ ad.po (oG p) (eP0 ad) Value.none p.main.file,uQ ad.pa (iR p) (eP0 ad) Value.none p.main.file,uQ ad.ln (yI p) [] Value.none p.main.file,uQ ad.st (vU p) [] Value.none p.main.file,uQ ad.pf (kO p) [] (Value.ref ad.dP) p.main.file]
noncomputable def lv3(ad:Ad)(kk:Nat→Option Obj):=ad.tops.map (fun x=>glob (kk 3) x.1)
noncomputable def lw3(_:Program)(ad:Ad):=ad.tops.map (fun x=>some (Value.ref x.2))
noncomputable def lv4(_:Ad)(kk:Nat→Option Obj):=[glob (kk 3) "_Accumulator",glob (kk 3) "b1_set",glob (kk 3) "b3_exceptions",glob (kk 3) "__builtins__"]
noncomputable def lw4(_:Program)(ad:Ad):=[some (Value.ref ad.kc),some (Value.ref ad.b1),some (Value.ref ad.b3),some (Value.ref 4)]
noncomputable def lv5(_:Ad)(kk:Nat→Option Obj):=[strV (glob (kk 3) "ELLIPSIS_MARKER"),strV (glob (kk 3) "EMPTYSTRING")]
noncomputable def lw5(_:Program)(_:Ad):=[some (PySem.Str.ofString "..."),some (PySem.Str.ofString "")]
noncomputable def lv6(_:Ad)(kk:Nat→Option Obj):=fW0.map (fun x=>glob (kk 3) x.1)
noncomputable def lw6(_:Program)(_:Ad):=fW0.map (fun _=>(none:Option Value))
noncomputable def lv7(_:Ad)(kk:Nat→Option Obj):=fW0.map (fun x=>glob (kk 0) x.1)
noncomputable def lw7(_:Program)(_:Ad):=fW0.map (fun x=>some x.2)
noncomputable def lv8(ad:Ad)(kk:Nat→Option Obj):=[nN (kk 3),nN (kk 0),nN (kk 2),bX0 (kk ad.b1),hZ (kk (ad.ln - 1)) none (ad.ln - 5),hZ (kk (ad.st - 1)) none (ad.st - 5)]
noncomputable def lw8(_:Program)(_:Ad):=[true,true,true,true,true,true]
noncomputable def lv9(ad:Ad)(kk:Nat→Option Obj):=[kk (ad.ln - 5),kk (ad.st - 5)]
noncomputable def lw9(_:Program)(_:Ad):=[some ({ cls:=Value.none,data:=.fields #[] }:Obj),some { cls:=Value.none,data:=.fields #[] }]
noncomputable def lv10(_:Ad)(kk:Nat→Option Obj):=glob (kk 2) "sys.recursionlimit"
noncomputable def lw10(_:Program)(_:Ad):=(none:Option Value)
noncomputable def lv11(ad:Ad)(kk:Nat→Option Obj):=cellV (kk ad.cc)
noncomputable def lw11(_:Program)(ad:Ad):=some (Value.ref ad.kc)
noncomputable def lv12(ad:Ad)(kk:Nat→Option Obj):=(defV (kk ad.dI),defV (kk ad.dP))
noncomputable def lw12(_:Program)(_:Ad):=(some [some (0:Int)],some [some (0:Int)])
noncomputable def lv13(_:Ad)(kk:Nat→Option Obj):=modV (kk 4)
noncomputable def lw13(_:Program)(_:Ad):=some (Value.type "module",some 0,Data.plain)
noncomputable def lv14(ad:Ad)(kk:Nat→Option Obj):=findL1.map (findIn (ad.K kk) (.ref ad.kc))
noncomputable def lw14(_:Program)(ad:Ad):=findR1 ad
noncomputable def lv15(ad:Ad)(kk:Nat→Option Obj):=[mroIn (ad.K kk) ad.kc (.type "list"),mroIn (ad.K kk) ad.kc (.type "module"),mroIn (ad.K kk) ad.kc (.ref ad.kc),instIn (ad.K kk) (.ref ad.kc) (.type "type"),some (noSeq (ad.K kk) ad.kc)]
noncomputable def lw15(_:Program)(_:Ad):=[some true,some false,some true,some true,some true]
noncomputable def lv16(ad:Ad)(kk:Nat→Option Obj):=[typeIn (ad.K kk) (.ref ad.kc),typeIn (ad.K kk) (.ref ad.i0),typeIn (ad.K kk) (.ref ad.pu),typeIn (ad.K kk) (.ref ad.po),typeIn (ad.K kk) (.ref ad.pa),typeIn (ad.K kk) (.ref ad.ln),typeIn (ad.K kk) (.ref ad.st),typeIn (ad.K kk) (.ref ad.pf)]
noncomputable def lw16(_:Program)(_:Ad):=[some (Value.type "type"),some (Value.type "function"),some (Value.type "function"),some (Value.type "function"),some (Value.type "function"),some (Value.type "function"),some (Value.type "function"),some (Value.type "function")]
noncomputable def lv17(ad:Ad)(kk:Nat→Option Obj):=clsV (ad.K kk) ad.kc
noncomputable def lw17(_:Program)(ad:Ad):=some (PySem.Str.ofString "_Accumulator",[Value.ref ad.kc,.type "list",.type "object"],false,true)
noncomputable def lv18(ad:Ad)(kk:Nat→Option Obj):=nsIn (ad.K kk) 2 "thirdparty.any"
noncomputable def lw18(_:Program)(_:Ad):=some (none:Option Value)
noncomputable def lv19(ad:Ad)(kk:Nat→Option Obj):=[specialIn (ad.K kk) (.ref ad.kc) "__call__",takerIn (ad.K kk) ad.kc "_initial_size",slV (ad.K kk) ad.kc]
noncomputable def lw19(_:Program)(_:Ad):=[some (some (Value.builtin "type.__call__")),some none,some (some (Value.builtin "list.__new__"))]
noncomputable def dX0(ad:Ad)(kk:Nat→Option Obj):=(lv1 ad kk,lv2 ad kk,lv3 ad kk,lv4 ad kk,lv5 ad kk,lv6 ad kk,lv7 ad kk,lv8 ad kk,lv9 ad kk,lv10 ad kk,lv11 ad kk,lv12 ad kk,lv13 ad kk,lv14 ad kk,lv15 ad kk,lv16 ad kk,lv17 ad kk,lv18 ad kk,lv19 ad kk)
noncomputable def cR0(p:Program)(ad:Ad):=(lw1 p ad,lw2 p ad,lw3 p ad,lw4 p ad,lw5 p ad,lw6 p ad,lw7 p ad,lw8 p ad,lw9 p ad,lw10 p ad,lw11 p ad,lw12 p ad,lw13 p ad,lw14 p ad,lw15 p ad,lw16 p ad,lw17 p ad,lw18 p ad,lw19 p ad)
noncomputable def kB0(R:FR):Prop:=∃p0 p1 apos pos rp,R.body=[.Return (some (.Call (.Attribute (.Call (.Name "super" p0) [] [] p1) "__len__" apos) [] [] pos)) rp]∧(apos.endLine==pos.line)=true
noncomputable def ShPop(R:FR):Prop:=∀{B:Bs} {K:Frag} {cd:ClassData} {cc:Addr} {mg mb:Str→Option Value} {k:Nat} {T:Int→Option Str} {a:Addr} {fd:FuncData},BsOk B→ClsOk B K→SupOk B K cd cc mg mb→mroIn K B.cls (.type "module")=some false→cd.qualname="_Accumulator"→GlOk B k (G0 T) mg mb→
 SupDef B a fd R.d.names ["self"] R.d.body cc→(∀s v,BindsTo s fd ⟨[v],[]⟩ [("self",v)])→FnOk B (k+1) (.ref a) wE
noncomputable def ShInit(R:FR):Prop:=∀{B:Bs} {K:Frag} {cd:ClassData} {cc fI:Addr} {mg mb:Str→Option Value} {k:Nat} {fd:FuncData} {rest:List Value} {kk:Int} {kt:Tok} {A:Around} {ρ:List Addr} {σ:Sto} {s:Shared},BsOk B→ClsOk B K→SupOk B K cd cc mg mb→MakesL K B.cls fI cd→cd.hasDict=true→
 findIn K (.ref B.cls) "__setattr__"=some (some (.builtin "object.__setattr__"))→takerIn K B.cls "_initial_size"=some none→SupDef B fI fd R.d.names ["self","initial_size"] R.d.body cc→
 (∀s ρ σ x,St B ρ σ s→BindsTo s fd ⟨.ref x::rest,[]⟩ [("self",.ref x),("initial_size",.int kk kt)])→Room (k+2) A→St B ρ σ s→Ok B A ρ σ s (call (.ref B.cls) rest) (uY σ kk).2 (Is B (uY σ kk).1)
noncomputable def ShLen(R:FR):Prop:=∀{B:Bs} {K:Frag} {codes:List (Addr×Addr)} {mg mb:Str→Option Value} {bm:Addr} {ob:Obj} {k:Nat} {f c P:Addr} {fd:FuncData} {A:Around} {ρ:List Addr} {σ:Sto} {s:Shared} {i di:Nat} {cl:Cell} {xs:List PV} {a:Addr} {kk:Int} {parts:List (Str×Str)},GenOk B K codes mg mb bm ob→MethDef B f fd R.d.names ["self"] R.d.body []→fd.code=.ref c→(c,P)∈codes→(∀s v,BindsTo s fd ⟨[v],[]⟩ [("self",v)])→Room (k+1) A→St B ρ σ s→σ[i]?=some cl→cl.d=.acc di xs→ρ[i]?=some a→aI σ (.lst i)=true→kF σ di=some kk→0≤kk∧kk < 1000→
 aX xs=some parts→(∀p∈parts,p.1.length≤1000000∧p.2.length≤1000000)→Ok B A ρ σ s (call (.ref f) [.ref a]) σ (Is B (.int (kk+bH parts)))
noncomputable def ShStr(R:FR):Prop:=∀{B:Bs} {K:Frag} {codes:List (Addr×Addr)} {mg mb:Str→Option Value} {bm:Addr} {ob:Obj} {k:Nat} {f c P:Addr} {fd:FuncData} {A:Around} {ρ:List Addr} {σ:Sto} {s:Shared} {i di:Nat} {cl:Cell} {xs:List PV} {a:Addr} {parts:List (Str×Str)},GenOk B K codes mg mb bm ob→MethDef B f fd R.d.names ["self"] R.d.body []→fd.code=.ref c→(c,P)∈codes→(∀s v,BindsTo s fd ⟨[v],[]⟩ [("self",v)])→Room (k+1) A→St B ρ σ s→σ[i]?=some cl→cl.d=.acc di xs→ρ[i]?=some a→
 aX xs=some parts→(∀p∈parts,p.1.length+p.2.length≤1000000)→parts.length≤10000→JoinOk "" (aS parts)=true→Ok B A ρ σ s (call (.ref f) [.ref a]) σ (Is B (.str (Txt.join "" (aS parts))))
noncomputable def gF(R:FR):Prop:=∀fd:FuncData,fd.params=R.args→fd.defaults=.none→∀v:Value,bindArgs fd ⟨[v],[]⟩=pure ([("self",v)]:List (Str×Value))
noncomputable def iQ0(R:FR):Prop:=∀(fd:FuncData) (T:Addr),fd.params=R.args→fd.defaults=.ref T→∀(s:Shared) (o:Obj) (n:Nat) (t:Tok) (x:Addr),s.heap.get? T=some o→o.data=.seq #[.int 0 t] n→
 BindsTo s fd ⟨[.ref x],[]⟩ [("self",.ref x),("initial_size",.int 0 t)]∧∀(i:Int) (u:Tok),BindsTo s fd ⟨[.ref x,.int i u],[]⟩ [("self",.ref x),("initial_size",.int i u)]
noncomputable def iT0(R:FR):Prop:=∀(fd:FuncData) (T:Addr),fd.params=R.args→fd.defaults=.ref T→∀(s:Shared) (o:Obj) (n:Nat) (t:Tok) (x:Addr),s.heap.get? T=some o→o.data=.seq #[.int 0 t] n→
 BindsTo s fd ⟨[.ref x],[]⟩ [("self",.ref x),("i",.int 0 t)]∧∀(i:Int) (u:Tok),BindsTo s fd ⟨[.ref x,.int i u],[]⟩ [("self",.ref x),("i",.int i u)]
noncomputable def iU0(R:FR):Prop:=∀{B:Bs} {k:Nat} {K:Frag} {σ:Sto} {mg mb:Str→Option Value} {G:Gl} {b di i:Nat} {c:Cell} {xs:List PV},BsOk B→SlOk B K→GlOk B k G mg mb→σ[b]?=some c→c.d=.acc di xs→i≤xs.length→xs.length≤10000→
 ∃cx',S1 B k ⟨nmP,[("self",.lst b),("i",.int i)]⟩ σ (execs R.d.body) (.ret (.lst σ.length)) cx' (aC (σ++[⟨0,.lst (xs.drop i)⟩]) b (.acc di (xs.take i)))
noncomputable def dU0(ad:Ad):List Nat:=[0,2,3,4,ad.kc,ad.ns,ad.cc,ad.i0,ad.pu,ad.po,ad.pa,ad.ln,ad.st,ad.pf,ad.i0 - 1,ad.pu - 1,ad.po - 1,ad.pa - 1,ad.ln - 1,ad.st - 1,ad.pf - 1,ad.dI,ad.dP,ad.b1,ad.b3]++ad.tops.map (·.2)++ad.tops.map fun x=>x.2 - 1
theorem aw{ad:Ad}(i:Nat){a:Nat}(h:(dU0 ad)[i]?=some a):a∈dU0 ad:=List.mem_of_getElem? h
theorem bB{α:Type}{l r:List α}(e:l=r)(i:Nat){a b:α}(ha:l[i]?=some a)(hb:r[i]?=some b):a=b:=Option.some.inj (ha.symm.trans ((congrArg (fun l=>l[i]?) e).trans hb))
structure PrOk (p:Program) (ad:Ad):Prop where
 top:(p.main.scope.names.lookup ("super":Str)).isSome=false
 part:kB0 (iR p)
 partS:oV (iR p)=true
 partP:(iR p).d.params=(["self"]:List Str)
 partB:gF (iR p)
 pop:ShPop (oG p)
 popS:oV (oG p)=true
 popP:(oG p).d.params=(["self"]:List Str)
 popB:gF (oG p)
 init:ShInit (nK p)
 initS:oV (nK p)=true
 initP:(nK p).d.params=(["self","initial_size"]:List Str)
 initB:iQ0 (nK p)
 len:ShLen (yI p)
 lenM:mE (yI p)=true
 lenP:(yI p).d.params=(["self"]:List Str)
 lenB:gF (yI p)
 str:ShStr (vU p)
 strM:mE (vU p)=true
 strP:(vU p).d.params=(["self"]:List Str)
 strB:gF (vU p)
 popf:iU0 (kO p)
 popfM:mE (kO p)=true
 popfP:(kO p).d.params=(["self","i"]:List Str)
 popfN:(kO p).d.names=nmP
 popfB:iT0 (kO p)
 pushF:gX0 (oB p)=true
 pushB:Binds (oB p)
 tops:∀x∈ad.tops,gX0 (cM p x.1)=true
 topsB:∀x∈ad.tops,Binds (cM p x.1)
 away:∀a∈dU0 ad,a∉ad.tb
 codes:ad.ln - 5≠ad.st - 5∧ad.ln - 1≠ad.st - 1
 b3:(ad.b3==sysModules)=false
structure Env (p:Program) (ad:Ad) (kk:Nat→Option Obj) (B:Bs) (T:Int→Option Str):Prop where
 look:dX0 ad kk=cR0 p ad
 has:Has kk B
 prog:B.prog=p
 tb:B.Tb=ad.tb
 cls:B.cls=ad.kc
 inv:∀h,B.inv h↔∀cp∈ad.codes,∃ps,h.IsCode cp.1 cp.2 ps∧h.TableAt cp.1 cp.2 ps
 tab:∀h:Heap,(∀a o,B.h₀.get? a=some o→a∉B.Tb→h.get? a=some o)→∃f,h.MapOf (intKind B.prog B.w) ad.b3 f∧∀i,match T i with
  |some x=>∃t,f i=some (.str x t)
  |none=>f i=none
theorem Env.at{p:Program}{ad:Ad}{kk:Nat→Option Obj}{B:Bs}{T:Int→Option Str}(N:Env p ad kk B T){h:Heap}(e:Ext B h):Env p ad kk (B.at h) T:=
 ⟨N.look,N.has.at e,N.prog,N.tb,N.cls,N.inv,fun h' he=>N.tab h' fun a o ho ht=>he a o (e.keep a o ho ht) ht⟩
section
variable {p:Program}{ad:Ad}{kk:Nat→Option Obj}{B:Bs}{T:Int→Option Str}(R:PrOk p ad)(N:Env p ad kk B T)
include R N
theorem aO:lv1 ad kk=lw1 p ad∧lv2 ad kk=lw2 p ad∧lv3 ad kk=lw3 p ad∧lv4 ad kk=lw4 p ad∧lv5 ad kk=lw5 p ad∧lv6 ad kk=lw6 p ad∧lv7 ad kk=lw7 p ad∧lv8 ad kk=lw8 p ad∧lv9 ad kk=lw9 p ad∧
  lv10 ad kk=lw10 p ad∧lv11 ad kk=lw11 p ad∧lv12 ad kk=lw12 p ad∧lv13 ad kk=lw13 p ad∧lv14 ad kk=lw14 p ad∧lv15 ad kk=lw15 p ad∧lv16 ad kk=lw16 p ad∧lv17 ad kk=lw17 p ad∧lv18 ad kk=lw18 p ad∧lv19 ad kk=lw19 p ad:=by
 exact (bA (bA (bA (bA (bA (bA (bA (bA (bA (bA (bA (bA (bA (bA (bA (bA (bA (bA id)))))))))))))))))) N.look
theorem aF{a:Nat}(h:a∈dU0 ad):a∉B.Tb:=by
 rw[N.tb];exact R.away a h
theorem tT{x:Str×Nat}(h:x∈ad.tops):FnAt kk x.2 (cM p x.1) [] .none p.main.file:=
 FnAt.of (List.map_inj_left.mp (aO R N).1 x h)
theorem cS:FnAt kk ad.i0 (nK p) (eP0 ad) (.ref ad.dI) p.main.file∧FnAt kk ad.pu (oB p) [] .none p.main.file∧FnAt kk ad.po (oG p) (eP0 ad) .none p.main.file∧FnAt kk ad.pa (iR p) (eP0 ad) .none p.main.file∧
  FnAt kk ad.ln (yI p) [] .none p.main.file∧FnAt kk ad.st (vU p) [] .none p.main.file∧FnAt kk ad.pf (kO p) [] (.ref ad.dP) p.main.file:=by
 have e:=(aO R N).2.1
 exact⟨.of (bB e 0 rfl rfl),.of (bB e 1 rfl rfl),.of (bB e 2 rfl rfl),.of (bB e 3 rfl rfl),.of (bB e 4 rfl rfl),.of (bB e 5 rfl rfl),.of (bB e 6 rfl rfl)⟩
theorem fR:nN (kk 3)=true∧nN (kk 0)=true∧nN (kk 2)=true∧bX0 (kk ad.b1)=true∧hZ (kk (ad.ln - 1)) none (ad.ln - 5)=true∧hZ (kk (ad.st - 1)) none (ad.st - 5)=true:=by
 have e:=(aO R N).2.2.2.2.2.2.2.1
 exact⟨bB e 0 rfl rfl,bB e 1 rfl rfl,bB e 2 rfl rfl,bB e 3 rfl rfl,bB e 4 rfl rfl,bB e 5 rfl rfl⟩
theorem aR0{a:Nat}(hb:nN (kk a)=true)(ha:a∉B.Tb):B.h₀.Ns a (glob (kk a)):=by
 cases ho:kk a with
 |none=>rw[ho]at hb;cases hb
 |some o=>
  rw[ho]at hb
  exact ns_of (N.has a o ho ha) hb
theorem xY:B.h₀.Ns mainNs (glob (kk 3)):=aR0 (a:=3) R N (fR R N).1 (aF R N (aw 2 rfl))
theorem cF0:B.h₀.Ns builtinsNs (glob (kk 0)):=aR0 (a:=0) R N (fR R N).2.1 (aF R N (aw 0 rfl))
theorem dN0:B.h₀.NoLimit:=⟨_,aR0 (a:=2) R N (fR R N).2.2.1 (aF R N (aw 1 rfl)),by
 have e:=(aO R N).2.2.2.2.2.2.2.2.2.1
 unfold lv10 lw10 at e
 exact e⟩
theorem aT:CodesOk B ad.codes where
 inv:=N.inv
 tb:=fun a=>by
  rw[N.tb]
  unfold Ad.tb Ad.codes
  exact⟨fun h=>(List.mem_cons.mp h).elim (fun e=>⟨ad.ln - 1,by rw[e];exact List.mem_cons_self⟩) fun h=>⟨ad.st - 1,by rw[List.mem_singleton.mp h];exact List.mem_cons_of_mem _ List.mem_cons_self⟩,fun h=>h.elim fun c h=>(List.mem_cons.mp h).elim (fun e=>by rw[(Prod.mk.inj e).2];exact List.mem_cons_self) fun h=>by rw[(Prod.mk.inj (List.mem_singleton.mp h)).2];exact List.mem_cons_of_mem _ List.mem_cons_self⟩
 off:=fun cp h=>by
  unfold Ad.codes at h
  exact (List.mem_cons.mp h).elim (fun e=>e▸aF R N (aw 18 rfl)) fun h=>List.mem_singleton.mp h▸aF R N (aw 19 rfl)
 lim:=dN0 R N
 stat:=aF R N (a:=2) (aw 1 rfl)
theorem env_K{b:Addr}{o:Obj}(h:(ad.K kk).lookup b=some o):B.h₀.get? b=some o∧b∉B.Tb:=by
 have hb:=fB0 h
 have hm:b∈[ad.kc,ad.ns,2,ad.i0,ad.pu,ad.po,ad.pa,ad.ln,ad.st,ad.pf]:=by
  have hm:(b,o)∈ad.K kk:=by
   obtain⟨l1,l2,hl,_⟩:=List.lookup_eq_some_iff.mp h
   rw[hl]
   exact List.mem_append_right _ List.mem_cons_self
  obtain⟨a,ha,e⟩:=List.mem_filterMap.mp hm
  obtain⟨o',_,e'⟩:=Option.map_eq_some_iff.mp e
  exact (Prod.mk.inj e').1▸ha
 have all:∀b∈[ad.kc,ad.ns,2,ad.i0,ad.pu,ad.po,ad.pa,ad.ln,ad.st,ad.pf],b∉B.Tb:=List.forall_mem_cons.mpr ⟨aF R N (aw 4 rfl),List.forall_mem_cons.mpr ⟨aF R N (aw 5 rfl),List.forall_mem_cons.mpr ⟨aF R N (aw 1 rfl),List.forall_mem_cons.mpr ⟨aF R N (aw 7 rfl),List.forall_mem_cons.mpr ⟨aF R N (aw 8 rfl),List.forall_mem_cons.mpr ⟨aF R N (aw 9 rfl),List.forall_mem_cons.mpr ⟨aF R N (aw 10 rfl),List.forall_mem_cons.mpr ⟨aF R N (aw 11 rfl),List.forall_mem_cons.mpr ⟨aF R N (aw 12 rfl),List.forall_mem_cons.mpr ⟨aF R N (aw 13 rfl),fun _ h=>absurd h List.not_mem_nil⟩⟩⟩⟩⟩⟩⟩⟩⟩⟩
 exact⟨N.has b o hb (all b hm),all b hm⟩
theorem aW:findIn (ad.K kk) (.ref B.cls) "__getattribute__"=some (some (.builtin "list.__getattribute__"))∧findIn (ad.K kk) (.ref B.cls) "__getattr__"=some none∧findIn (ad.K kk) (.ref B.cls) "__iter__"=some (some (.builtin "list.__iter__"))∧
  findIn (ad.K kk) (.ref B.cls) "_initial_size"=some none∧findIn (ad.K kk) (.ref B.cls) "__init__"=some (some (.ref ad.i0))∧findIn (ad.K kk) (.ref B.cls) "__setattr__"=some (some (.builtin "object.__setattr__"))∧
  findIn (ad.K kk) (.ref B.cls) "append"=some (some (.builtin "list.append"))∧findIn (ad.K kk) (.ref B.cls) "push"=some (some (.ref ad.pu))∧findIn (ad.K kk) (.ref B.cls) "pop"=some (some (.ref ad.po))∧findIn (ad.K kk) (.ref B.cls) "part_count"=some (some (.ref ad.pa))∧
  findIn (ad.K kk) (.ref B.cls) "__len__"=some (some (.ref ad.ln))∧findIn (ad.K kk) (.ref B.cls) "__str__"=some (some (.ref ad.st))∧findIn (ad.K kk) (.ref B.cls) "pop_from"=some (some (.ref ad.pf))∧
  findIn (ad.K kk) (.ref B.cls) "__getitem__"=some (some (.builtin "list.__getitem__"))∧findIn (ad.K kk) (.ref B.cls) "__setitem__"=some (some (.builtin "list.__setitem__")):=by
 rw[N.cls]
 have e:=(aO R N).2.2.2.2.2.2.2.2.2.2.2.2.2.1
 exact⟨bB e 0 rfl rfl,bB e 1 rfl rfl,bB e 2 rfl rfl,bB e 3 rfl rfl,bB e 4 rfl rfl,bB e 5 rfl rfl,bB e 6 rfl rfl,bB e 7 rfl rfl,bB e 8 rfl rfl,bB e 9 rfl rfl,bB e 10 rfl rfl,bB e 11 rfl rfl,bB e 12 rfl rfl,bB e 13 rfl rfl,bB e 14 rfl rfl⟩
theorem lE:mroIn (ad.K kk) B.cls (.type "list")=some true∧mroIn (ad.K kk) B.cls (.type "module")=some false∧mroIn (ad.K kk) B.cls (.ref B.cls)=some true∧instIn (ad.K kk) (.ref B.cls) (.type "type")=some true:=by
 rw[N.cls]
 have e:=(aO R N).2.2.2.2.2.2.2.2.2.2.2.2.2.2.1
 exact⟨bB e 0 rfl rfl,bB e 1 rfl rfl,bB e 2 rfl rfl,bB e 3 rfl rfl⟩
theorem cZ:typeIn (ad.K kk) (.ref B.cls)=some (.type "type")∧typeIn (ad.K kk) (.ref ad.i0)=some (.type "function")∧typeIn (ad.K kk) (.ref ad.pu)=some (.type "function")∧typeIn (ad.K kk) (.ref ad.po)=some (.type "function")∧
  typeIn (ad.K kk) (.ref ad.pa)=some (.type "function")∧typeIn (ad.K kk) (.ref ad.ln)=some (.type "function")∧typeIn (ad.K kk) (.ref ad.st)=some (.type "function")∧typeIn (ad.K kk) (.ref ad.pf)=some (.type "function"):=by
 rw[N.cls]
 have e:=(aO R N).2.2.2.2.2.2.2.2.2.2.2.2.2.2.2.1
 exact⟨bB e 0 rfl rfl,bB e 1 rfl rfl,bB e 2 rfl rfl,bB e 3 rfl rfl,bB e 4 rfl rfl,bB e 5 rfl rfl,bB e 6 rfl rfl,bB e 7 rfl rfl⟩
theorem fL:ClsOk B (ad.K kk):=⟨fun _ _ h=>env_K R N h,(aW R N).1,(aW R N).2.1,(lE R N).1⟩
theorem env_sl:SlOk B (ad.K kk):=⟨fL R N,by
 rw[N.cls]
 have e:=(aO R N).2.2.2.2.2.2.2.2.2.2.2.2.2.2.1
 exact Option.some.inj (bB e 4 rfl rfl),(aW R N).2.2.2.2.2.2.2.2.2.2.2.2.2.1,(aW R N).2.2.2.2.2.2.2.2.2.2.2.2.2.2⟩
theorem qK:∃cd,clsIn (ad.K kk) B.cls=some cd∧cd.qualname="_Accumulator"∧cd.mro=[.ref B.cls,.type "list",.type "object"]∧cd.hasDel=false∧cd.hasDict=true:=by
 rw[N.cls]
 have e:=(aO R N).2.2.2.2.2.2.2.2.2.2.2.2.2.2.2.2.1
 unfold lv17 lw17 clsV at e
 obtain⟨cd,hc,h⟩:=Option.map_eq_some_iff.mp e
 exact⟨cd,hc,bA (bA (bA id)) h⟩
theorem kU:specialIn (ad.K kk) (.ref B.cls) "__call__"=some (some (.builtin "type.__call__"))∧takerIn (ad.K kk) B.cls "_initial_size"=some none∧slV (ad.K kk) B.cls=some (some (.builtin "list.__new__")):=by
 rw[N.cls]
 have e:=(aO R N).2.2.2.2.2.2.2.2.2.2.2.2.2.2.2.2.2.2
 exact⟨bB e 0 rfl rfl,bB e 1 rfl rfl,bB e 2 rfl rfl⟩
theorem jT{x:Str×Value}(h:x∈fW0):glob (kk 3) x.1=none∧glob (kk 0) x.1=some x.2:=by
 have e6:=(aO R N).2.2.2.2.2.1
 have e7:=(aO R N).2.2.2.2.2.2.1
 unfold lv6 lw6 at e6
 unfold lv7 lw7 at e7
 exact⟨List.map_inj_left.mp e6 x h,List.map_inj_left.mp e7 x h⟩
theorem lI:∃o,B.h₀.get? ad.cc=some o∧o.data=.cell (some (.ref B.cls)):=by
 rw[N.cls]
 have e:=(aO R N).2.2.2.2.2.2.2.2.2.2.1
 unfold lv11 lw11 at e
 obtain⟨o,ho,hd⟩:=aG0 e
 exact⟨o,N.has _ o ho (aF R N (aw 6 rfl)),hd⟩
theorem uZ{cd:ClassData}(hcd:clsIn (ad.K kk) B.cls=some cd)(hm:cd.mro=[.ref B.cls,.type "list",.type "object"]):SupOk B (ad.K kk) cd ad.cc (glob (kk 3)) (glob (kk 0)) where
 cls:=hcd
 rest:=by rw[hm];simp
 third:=by
  have e:=(aO R N).2.2.2.2.2.2.2.2.2.2.2.2.2.2.2.2.2.1
  unfold lv18 lw18 at e
  exact e
 self:=(lE R N).2.2.1
 ofType:=(cZ R N).1
 isT:=(lE R N).2.2.2
 cell:=lI R N
 ct:=aF R N (aw 6 rfl)
 g:=xY R N
 b:=cF0 R N
 og:=aF R N (a:=3) (aw 2 rfl)
 ob:=aF R N (a:=0) (aw 0 rfl)
 gs:=(jT R N (x:=(PySem.Str.ofString "super",.type "super")) (List.mem_append_right _ List.mem_cons_self)).1
 bs:=(jT R N (x:=(PySem.Str.ofString "super",.type "super")) (List.mem_append_right _ List.mem_cons_self)).2
 top:=by rw[N.prog];exact R.top
theorem gD0{cd:ClassData}(hcd:clsIn (ad.K kk) B.cls=some cd)(hm:cd.mro=[.ref B.cls,.type "list",.type "object"])(hdel:cd.hasDel=false):MakesL (ad.K kk) B.cls ad.i0 cd where
 obj:=by
  obtain⟨oc,od,sl,ho⟩:=jF hcd
  refine⟨oc,od,sl,ho,?_⟩
  have:=(kU R N).2.2
  unfold slV at this
  rw[ho]at this
  exact Option.some.inj this
 del:=hdel
 mro:=hm
 call:=(kU R N).1
 typ:=(lE R N).2.2.2
 init:=(aW R N).2.2.2.2.1
 fn:=(cZ R N).2.1
theorem env_mod:∃ob,B.h₀.get? 4=some ob∧BMod B.h₀ mainNs (glob (kk 3)) 4 ob:=by
 have e:=(aO R N).2.2.2.2.2.2.2.2.2.2.2.2.1
 have e4:=(aO R N).2.2.2.1
 obtain⟨ob,ho,e⟩:=aA (show modV (kk 4)=some (Value.type "module",some 0,Data.plain) from e)
 have c:=bA (bA id) (Option.some.inj e)
 have hg:=N.has 4 ob ho (aF R N (aw 3 rfl))
 exact⟨ob,hg,xY R N,bB e4 3 rfl rfl,by decide,hg,c.1,c.2.1,c.2.2⟩
theorem uB:(∃t,glob (kk 3) "ELLIPSIS_MARKER"=some (.str "..." t))∧∃t,glob (kk 3) "EMPTYSTRING"=some (.str "" t):=by
 have e:=(aO R N).2.2.2.2.1
 exact⟨sS (bB e 0 rfl rfl),sS (bB e 1 rfl rfl)⟩
theorem eA0:∃ob,GenOk B (ad.K kk) ad.codes (glob (kk 3)) (glob (kk 0)) 4 ob:=by
 obtain⟨ob,_,BM⟩:=env_mod R N
 obtain⟨cd,hcd,_,_,_,hh⟩:=qK R N
 refine⟨ob,aT R N,fL R N,(aW R N).2.2.1,by unfold hasDictIn;rw[hcd];exact hh,(aW R N).2.2.2.1,BM,aF R N (a:=3) (aw 2 rfl),aF R N (aw 3 rfl),cF0 R N,aF R N (a:=0) (aw 0 rfl),fun c c' P h h'=>?_,jT R N (x:=(PySem.Str.ofString "sum",.builtin "sum")) (List.mem_append_right _ (List.mem_cons_of_mem _ List.mem_cons_self)),jT R N (x:=(PySem.Str.ofString "len",.builtin "len")) (List.mem_append_left _ (mem_of_lookup (by kernel_rfl))),(uB R N).2⟩
 unfold Ad.codes at h h'
 have two:∀{c P:Addr},(c,P)∈([(ad.ln - 1,ad.ln - 5),(ad.st - 1,ad.st - 5)]:List (Addr×Addr))→c=ad.ln - 1∧P=ad.ln - 5∨c=ad.st - 1∧P=ad.st - 5:=fun h=>(List.mem_cons.mp h).imp Prod.mk.inj fun h=>Prod.mk.inj (List.mem_singleton.mp h)
 exact (two h).elim (fun a=>(two h').elim (fun b=>b.1.trans a.1.symm) fun b=>absurd (a.2.symm.trans b.2) R.codes.1) fun a=>(two h').elim (fun b=>absurd (b.2.symm.trans a.2) R.codes.1) fun b=>b.1.trans a.1.symm
theorem kK{s:Shared}{ρ:List Addr}{σ:Sto}(x:St B ρ σ s){i:Nat}{a:Addr}{c:Cell}{di:Nat}{xs:List PV}{m:Str}{f:Addr}{A:Around}{E:Value→Shared→Prop}{pl:Sem Bool}{Q:Value×List Value→Shared→Prop}(hc:σ[i]?=some c)(hd:c.d=.acc di xs)(ha:ρ[i]?=some a)(hok:aI σ (.lst i)=true)
  (hf:findIn (ad.K kk) (.ref B.cls) m=some (some (.ref f))) (ht:typeIn (ad.K kk) (.ref f)=some (.type "function")) (hne:m≠"_initial_size") (q:Q (.ref f,[.ref a]) s):wpAny (model B.prog B.w) A (getMethod (.ref a) m pl) Q E s:=
 rQ x (fun _ _ h=>env_K R N h) hc hd ha hok (aW R N).1 (aW R N).2.1 hf ht hne q
theorem yQ(k:Nat):FnOk B (k+1) (.ref ad.pa) lT:=by
 obtain⟨cd,hcd,hq,hm,hdel,hh⟩:=qK R N
 obtain⟨p0,p1,apos,pos,rp,hb,hline⟩:=R.part
 obtain⟨fd,P,e1,e2,e3⟩:=(cS R N).2.2.2.1.sup N.has (aF R N (aw 10 rfl)) (aF R N (aw 17 rfl)) R.partS (aF R N (aw 6 rfl)) ((lI R N).imp fun _ h=>⟨_,h⟩) (by rw[N.prog];simp)
 rw[R.partP,show (iR p).d.body=(iR p).body from rfl,hb]at P
 exact kZ0 (aT R N).ok (fL R N) (uZ R N hcd hm) P hline fun s v=>BindsTo.of_eq (R.partB fd e1 e2 v)
theorem gl0:GlOk B 1 (G0 T) (glob (kk 3)) (glob (kk 0)) where
 g:=xY R N
 b:=cF0 R N
 og:=aF R N (a:=3) (aw 2 rfl)
 ob:=aF R N (a:=0) (aw 0 rfl)
 fn:=fun g F h=>nos h
 con:=fun g v h=>by
  rcases ite_some (show (if g="ELLIPSIS_MARKER" then some (PV.str "...") else if g="EMPTYSTRING" then some (PV.str "") else none)=some v from h)with⟨e,h⟩ | ⟨_,h⟩
  ·obtain rfl:=Option.some.inj h
   obtain⟨t,ht⟩:=(uB R N).1
   exact⟨_,e▸ht,fun ρ h=>⟨t,rfl⟩⟩
  ·obtain⟨e,h⟩:=grd_some h
   obtain rfl:=Option.some.inj h
   obtain⟨t,ht⟩:=(uB R N).2
   exact⟨_,e▸ht,fun ρ h=>⟨t,rfl⟩⟩
 set:=fun g S h=>by
  obtain⟨e,h⟩:=grd_some (show grd (g="b1_set") (some gN)=some S from h)
  obtain rfl:=Option.some.inj h
  have e4:=(aO R N).2.2.2.1
  have hs:=(fR R N).2.2.2.1
  cases ho:kk ad.b1 with
  |none=>rw[ho]at hs;exact absurd hs Bool.false_ne_true
  |some o=>
   rw[ho]at hs
   obtain⟨n,hn⟩:=lD0 (prog:=B.prog) (w:=B.w) (N.has _ o ho (aF R N (aw 23 rfl))) hs
   exact⟨ad.b1,n,by rw[e];exact bB e4 1 rfl rfl,aF R N (aw 23 rfl),hn⟩
 tab:=fun g T' h=>by
  obtain⟨e,h⟩:=grd_some (show grd (g="b3_exceptions") (some T)=some T' from h)
  obtain rfl:=Option.some.inj h
  have e4:=(aO R N).2.2.2.1
  obtain⟨f,h1,h2⟩:=N.tab B.h₀ fun a o ho _=>ho
  exact⟨ad.b3,f,by rw[e];exact bB e4 2 rfl rfl,aF R N (aw 24 rfl),R.b3,h1,h2⟩
 bg:=fun x v h=>jT R N (x:=(x,v)) (by unfold fW0;exact List.mem_append_left _ (mem_of_lookup h))
 meth:=fun m F h=>by
  rcases ite_some (show (if m="append" then some kS else if m="part_count" then some lT else none)=some F from h)with⟨e,h⟩ | ⟨_,h⟩
  ·obtain rfl:=Option.some.inj h
   subst e
   exact⟨_,aH0 (aT R N).ok (fL R N),fun A E ρ σ s i a c di xs pl Q x hc hd ha hok q=>pC (fL R N) x hc hd ha hok (aW R N).2.2.2.2.2.2.1 (by show builtinType _=_;rw[builtinType_eq_fast];kernel_rfl) (by decide) q⟩
  ·obtain⟨e,h⟩:=grd_some h
   obtain rfl:=Option.some.inj h
   subst e
   exact⟨_,yQ R N 0,fun A E ρ σ s i a c di xs pl Q x hc hd ha hok q=>kK R N x hc hd ha hok (aW R N).2.2.2.2.2.2.2.2.2.1 (cZ R N).2.2.2.2.1 (by decide) q⟩
 lenA:=fun A ρ σ s args vals v σ' _ _ _ h=>nos h
 strA:=fun A ρ σ s args vals v σ' _ _ _ h=>nos h
end
theorem sK{o:Option Obj}(h:defV o=some [some (0:Int)]):∃ob n t,o=some ob∧ob.data=.seq #[.int 0 t] n:=by
 obtain⟨ob,rfl,h⟩:=aA h
 obtain⟨⟨l⟩,n,hd,h⟩:=yT h
 have h:l.map intV=[some 0]:=Option.some.inj h
 obtain⟨v,l,rfl,h1,h2⟩:=List.map_eq_cons_iff.mp h
 obtain⟨t,rfl⟩:=sI h1
 obtain rfl:=List.map_eq_nil_iff.mp h2
 exact⟨ob,n,t,rfl,hd⟩
section
variable {p:Program}{ad:Ad}{kk:Nat→Option Obj}{B:Bs}{T:Int→Option Str}(R:PrOk p ad)(N:Env p ad kk B T)
include R N
theorem vH:Callable B (.ref B.cls):=fun A E s pos first es env Q h=>by
 obtain⟨cd,hcd,_⟩:=qK R N
 have hk:keepIn (ad.K kk) (.ref B.cls)=true:=aP0 hcd (kU R N).1
 have C:=fL R N
 have hall:((es.map fun e=>(false,eval e env)).any (·.1) || ([]:List (Option Str×Sem Value)).any (·.1.isNone))=false:=(Bool.or_false _).trans (List.any_eq_false.mpr fun x hx=>by obtain⟨e,_,rfl⟩:=List.mem_map.mp hx;exact Bool.false_ne_true)
 refine callWith_of (P:=fun h=>(ad.K kk).In h) hall (keeps_K hk) ?_
 have h':=wpAny_mono h (Q':=fun vs s₁=>(ad.K kk).In s₁.heap∧wpAny (model B.prog B.w) A (call (.ref B.cls) (first++vs)) Q E s₁) (fun _ _ h'=>⟨let ⟨⟨_,_,x⟩,_⟩:=h';C.in x,h'.2⟩) fun _ _ e=>e
 cases es with
 |nil=>exact fun Γ q hΓ=>PyProof.Rows.evalArgs_none (show ((ad.K kk).In s.heap∧wpAny (model B.prog B.w) A (call (.ref B.cls) (first++[])) Q E s) from h' Γ q hΓ) Γ q hΓ
 |cons e es=>exact Calls.evalArgs_plain h'
theorem kX0(k:Nat):FnOk B (k+2) (.ref B.cls) zE where
 able:=vH R N
 run:=fun A ρ σ s args vals v σ' Rm x r h=>by
  obtain⟨cd,hcd,hq,hm,hdel,hh⟩:=qK R N
  obtain⟨fd,P,e1,e2,e3⟩:=(cS R N).1.sup N.has (aF R N (aw 7 rfl)) (aF R N (aw 14 rfl)) R.initS (aF R N (aw 6 rfl)) ((lI R N).imp fun _ h=>⟨_,h⟩) (by rw[N.prog];simp)
  rw[R.initP]at P
  have hdf:=(aO R N).2.2.2.2.2.2.2.2.2.2.2.1
  unfold lv12 lw12 at hdf
  obtain⟨od,n,t,hod,hdd⟩:=sK (congrArg Prod.fst hdf)
  have hdI:ad.dI∉B.Tb:=aF R N (aw 21 rfl)
  have run:=fun (rest:List Value) (kk':Int) (kt:Tok) hb=>R.init (aT R N).ok (fL R N) (uZ R N hcd hm) (gD0 R N hcd hm hdel) hh (aW R N).2.2.2.2.2.1 (kU R N).2.1 P (rest:=rest) (kk:=kk') (kt:=kt) hb Rm x
  cases args with
  |nil=>
   obtain⟨rfl,rfl⟩:=Prod.mk.inj (Option.some.inj (show some (uY σ 0)=some (v,σ') from h))
   rw[show vals=[]from r]
   exact run [] 0 t fun s ρ σ x st=>(R.initB fd ad.dI e1 e2 s od n t x (st.base _ _ (N.has _ od hod hdI) hdI) hdd).1
  |cons w l=>
   cases l with
   |cons _ _=>exact nos h
   |nil=>
    obtain⟨i,rfl,h⟩:=aZ (show bS w (fun k=>some (uY σ k))=some (v,σ') from h)
    obtain⟨rfl,rfl⟩:=Prod.mk.inj (Option.some.inj h)
    obtain⟨w,ws,rfl,⟨u,rfl⟩,r2⟩:=r
    rw[show ws=[]from r2]
    exact run [.int i u] i u fun s ρ σ x st=>(R.initB fd ad.dI e1 e2 s od n t x (st.base _ _ (N.has _ od hod hdI) hdI) hdd).2 i u
theorem popM_ok:FnOk B 2 (.ref ad.po) wE:=by
 obtain⟨cd,hcd,hq,hm,hdel,hh⟩:=qK R N
 obtain⟨fd,P,e1,e2,e3⟩:=(cS R N).2.2.1.sup N.has (aF R N (aw 9 rfl)) (aF R N (aw 16 rfl)) R.popS (aF R N (aw 6 rfl)) ((lI R N).imp fun _ h=>⟨_,h⟩) (by rw[N.prog];simp)
 rw[R.popP]at P
 exact R.pop (aT R N).ok (fL R N) (uZ R N hcd hm) (lE R N).2.1 hq (gl0 R N) P fun s v=>BindsTo.of_eq (R.popB fd e1 e2 v)
theorem kN0(k:Nat)(A:Around)(ρ:List Addr)(σ:Sto)(s:Shared)(args:List PV)(vals:List Value)(v:PV)(σ':Sto)(Rm:Room (k+2) A)(x:St B ρ σ s)(r:VRs B ρ s.heap args vals)(h:lenF args σ=some (v,σ')):
  Ok B A ρ σ s (call (.builtin "len") vals) σ' (Is B v):=by
 obtain⟨ob,G⟩:=eA0 R N
 obtain⟨fd,D,e1,e2,e3⟩:=(cS R N).2.2.2.2.1.meth N.has (aF R N (aw 11 rfl)) (aF R N (aw 18 rfl)) R.lenM (fun x c h=>by cases h) (fun x y c h=>by cases h)
 rw[R.lenP]at D
 exact lenA_ok G (aW R N).2.2.2.2.2.2.2.2.2.2.1 (by unfold isFn;rw[(cZ R N).2.2.2.2.2.1];decide) (fun Rm x i di cl xs a kk parts hc hd hai hok hini hk hparts hsz=>R.len G D e3 (P:=ad.ln - 5) (List.mem_cons_self) (fun s v=>BindsTo.of_eq (R.lenB fd e1 e2 v)) Rm x hc hd hai hok hini hk hparts hsz) A ρ σ s args vals v σ' Rm x r h
theorem iF0(k:Nat)(A:Around)(ρ:List Addr)(σ:Sto)(s:Shared)(args:List PV)(vals:List Value)(v:PV)(σ':Sto)(Rm:Room (k+3) A)(x:St B ρ σ s)(r:VRs B ρ s.heap args vals)(h:strF args σ=some (v,σ')):
  Ok B A ρ σ s (call (.type "str") vals) σ' (Is B v):=by
 obtain⟨ob,G⟩:=eA0 R N
 obtain⟨fd,D,e1,e2,e3⟩:=(cS R N).2.2.2.2.2.1.meth N.has (aF R N (aw 12 rfl)) (aF R N (aw 19 rfl)) R.strM (fun x c h=>by cases h) (fun x y c h=>by cases h)
 rw[R.strP]at D
 exact strA_ok G (aW R N).2.2.2.2.2.2.2.2.2.2.2.1 (by unfold isFn;rw[(cZ R N).2.2.2.2.2.2.1];decide) (fun Rm x i di cl xs a parts hc hd hai hparts hsz hn hj=>R.str G D e3 (P:=ad.st - 5) (List.mem_cons_of_mem _ List.mem_cons_self) (fun s v=>BindsTo.of_eq (R.strB fd e1 e2 v)) Rm x hc hd hai hparts hsz hn hj) A ρ σ s args vals v σ' Rm x r h
theorem uM{k:Nat}{G:Gl}(gok:GlOk B k G (glob (kk 3)) (glob (kk 0))){f:Str}{a:Nat}(h:(f,a)∈ad.tops)(n:Nat):FnOk B (k+1) (.ref a) (qJ G n (cM p f).d):=by
 have hm1:a∈ad.tops.map (·.2):=List.mem_map.mpr ⟨_,h,rfl⟩
 have hm2:a - 1∈ad.tops.map fun x=>x.2 - 1:=List.mem_map.mpr ⟨_,h,rfl⟩
 obtain⟨fd,D⟩:=(tT R N h).defAt N.has (aF R N (List.mem_append_left _ (List.mem_append_right _ hm1))) (aF R N (List.mem_append_right _ hm2)) (R.tops _ h) (R.topsB _ h)
 exact fn_ok (aT R N).ok gok D n
theorem push_ok(n:Nat):FnOk B 2 (.ref ad.pu) (qJ (G0 T) n (oB p).d):=by
 obtain⟨fd,D⟩:=(cS R N).2.1.defAt N.has (aF R N (aw 8 rfl)) (aF R N (aw 15 rfl)) R.pushF R.pushB
 exact fn_ok (aT R N).ok (gl0 R N) D n
theorem popf_ok:FnOk B 2 (.ref ad.pf) nT:=by
 obtain⟨fd,D,e1,e2,e3⟩:=(cS R N).2.2.2.2.2.2.meth N.has (aF R N (aw 13 rfl)) (aF R N (aw 20 rfl)) R.popfM (fun x c h=>nomatch h) (fun x y c h=>nomatch h)
 rw[R.popfP,R.popfN]at D
 have hdf:=(aO R N).2.2.2.2.2.2.2.2.2.2.2.1
 unfold lv12 lw12 at hdf
 obtain⟨od,n,t,hod,hdd⟩:=sK (congrArg Prod.snd hdf)
 have hdP:ad.dP∉B.Tb:=aF R N (aw 22 rfl)
 obtain⟨o,fd',ho,hd',_⟩:=(cS R N).2.2.2.2.2.2.get
 refine⟨fM (N.has _ o ho (aF R N (aw 13 rfl))) (aF R N (aw 13 rfl)) hd',fun A ρ σ s args vals v σ' Rm x r h=>?_⟩
 have hB:=fun (y:Addr)=>R.popfB fd ad.dP e1 e2 s od n t y (x.base _ _ (N.has _ od hod hdP) hdP) hdd
 have run:∀(vals:List Value) (b:Nat) (a:Addr) (i:Nat) (u:Tok),ρ[b]?=some a→BindsTo s fd ⟨vals,[]⟩ [("self",.ref a),("i",.int i u)]→jA b i σ=some (v,σ')→Ok B A ρ σ s (call (.ref ad.pf) vals) σ' (Is B v):=fun vals b a i u ha hbi h=>by
  obtain⟨c,hc,h⟩:=aA h
  obtain⟨di,xs,hd,h⟩:=eO h
  obtain⟨⟨h1,h2⟩,h⟩:=grd_some h
  obtain⟨rfl,rfl⟩:=Prod.mk.inj (Option.some.inj h)
  refine eV (aT R N).ok D Rm x (args:=[.lst b,.int i]) (vals':=[.ref a,.int i u]) hbi ⟨_,_,rfl,⟨a,rfl,ha⟩,_,_,rfl,⟨u,rfl⟩,rfl⟩ rfl fun s₁ Q x₁ e₁ fr r₁ hns q=>?_
  obtain⟨cx',H⟩:=R.popf (k:=1) (aT R N).ok (env_sl R N) (gl0 R N) hc hd h2 h1
  refine wpAt_of_wpAny (H (Rm.deeper _) x₁ fr fun f s' ρ' p=>?_)
  obtain⟨val,hf,hv⟩:=p.fl
  subst hf
  exact q _ _ _ p.st p.evo hv
 cases args with
 |nil=>exact nos h
 |cons w l=>
  obtain⟨b,rfl,h⟩:=cR h
  obtain⟨w,ws,rfl,⟨a,rfl,ha⟩,r2⟩:=r
  cases l with
  |nil=>
   rw[show ws=[]from r2]
   exact run _ b a 0 t ha (hB a).1 h
  |cons w l=>
   obtain⟨i,rfl,h⟩:=aZ h
   obtain⟨h0,h⟩:=grd_some h
   obtain⟨rfl,h⟩:=dJ h
   obtain⟨w,ws,rfl,⟨u,rfl⟩,r3⟩:=r2
   rw[show ws=[]from r3]
   obtain⟨j,rfl⟩:=Int.eq_ofNat_of_zero_le h0
   exact run _ b a j u ha ((hB a).2 _ u) h
theorem gl1{E P:Fn}{aB aM aE:Nat}(hB:(PySem.Str.ofString "in_table_b1",aB)∈ad.tops)(hM:(PySem.Str.ofString "map_table_b3",aM)∈ad.tops)(hE:(PySem.Str.ofString "_ellipsis_match",aE)∈ad.tops)(nB nM nP:Nat)
  (lB:Le b1F (qJ (G0 T) nB (cM p "in_table_b1").d)) (lM:Le (b3F T) (qJ (G0 T) nM (cM p "map_table_b3").d)) (lP:Le pushF (qJ (G0 T) nP (oB p).d)) (okE:FnOk B 4 (.ref aE) E) (okP:FnOk B 4 (.ref ad.pf) P):
  GlOk B 4 (G1 T E P) (glob (kk 3)) (glob (kk 0)) where
 g:=xY R N
 b:=cF0 R N
 og:=aF R N (a:=3) (aw 2 rfl)
 ob:=aF R N (a:=0) (aw 0 rfl)
 fn:=fun g F h=>by
  have gl:=List.map_inj_left.mp (aO R N).2.2.1
  rcases ite_some (show (if g="in_table_b1" then some b1F else if g="map_table_b3" then some (b3F T) else if g="_ellipsis_match" then some E else if g="_Accumulator" then some zE else none)=some F from h)with⟨e,h⟩ | ⟨_,h⟩
  ·obtain rfl:=Option.some.inj h
   exact⟨_,by rw[e];exact gl _ hB,((uM R N (gl0 R N) hB nB).mono (by decide)).le lB⟩
  rcases ite_some h with⟨e,h⟩ | ⟨_,h⟩
  ·obtain rfl:=Option.some.inj h
   exact⟨_,by rw[e];exact gl _ hM,((uM R N (gl0 R N) hM nM).mono (by decide)).le lM⟩
  rcases ite_some h with⟨e,h⟩ | ⟨_,h⟩
  ·obtain rfl:=Option.some.inj h
   exact⟨_,by rw[e];exact gl _ hE,okE⟩
  obtain⟨e,h⟩:=grd_some h
  obtain rfl:=Option.some.inj h
  have e4:=(aO R N).2.2.2.1
  exact⟨.ref B.cls,by rw[e,N.cls];exact bB e4 0 rfl rfl,(kX0 R N 2).mono (by decide)⟩
 con:=fun g v h=>(gl0 R N).con g v h
 set:=fun g S h=>nos h
 tab:=fun g S h=>nos h
 bg:=(gl0 R N).bg
 meth:=fun m F h=>by
  rcases ite_some (show (if m="push" then some pushF else if m="pop" then some wE else if m="part_count" then some lT else if m="pop_from" then some P else none)=some F from h)with⟨e,h⟩ | ⟨_,h⟩
  ·obtain rfl:=Option.some.inj h
   subst e
   exact⟨_,((push_ok R N nP).mono (by decide)).le lP,fun A E ρ σ s i a c di xs pl Q x hc hd ha hok q=>kK R N x hc hd ha hok (aW R N).2.2.2.2.2.2.2.1 (cZ R N).2.2.1 (by decide) q⟩
  rcases ite_some h with⟨e,h⟩ | ⟨_,h⟩
  ·obtain rfl:=Option.some.inj h
   subst e
   exact⟨_,(popM_ok R N).mono (by decide),fun A E ρ σ s i a c di xs pl Q x hc hd ha hok q=>kK R N x hc hd ha hok (aW R N).2.2.2.2.2.2.2.2.1 (cZ R N).2.2.2.1 (by decide) q⟩
  rcases ite_some h with⟨e,h⟩ | ⟨_,h⟩
  ·obtain rfl:=Option.some.inj h
   subst e
   exact⟨_,(yQ R N 3),fun A E ρ σ s i a c di xs pl Q x hc hd ha hok q=>kK R N x hc hd ha hok (aW R N).2.2.2.2.2.2.2.2.2.1 (cZ R N).2.2.2.2.1 (by decide) q⟩
  obtain⟨e,h⟩:=grd_some h
  obtain rfl:=Option.some.inj h
  subst e
  exact⟨_,okP,fun A E ρ σ s i a c di xs pl Q x hc hd ha hok q=>kK R N x hc hd ha hok (aW R N).2.2.2.2.2.2.2.2.2.2.2.2.1 (cZ R N).2.2.2.2.2.2.2 (by decide) q⟩
 lenA:=fun A ρ σ s args vals v σ' Rm x r h=>kN0 R N 2 A ρ σ s args vals v σ' Rm x r h
 strA:=fun A ρ σ s args vals v σ' Rm x r h=>iF0 R N 1 A ρ σ s args vals v σ' Rm x r h
theorem gl2{E P:Fn}(g1:GlOk B 4 (G1 T E P) (glob (kk 3)) (glob (kk 0))){own:Str→Option Fn}(k:Nat)(hk:4≤k)(ho:∀f F,own f=some F→∃a,(f,a)∈ad.tops∧FnOk B k (.ref a) F):GlOk B k (G2 T E P own) (glob (kk 3)) (glob (kk 0)) where
 g:=g1.g
 b:=g1.b
 og:=g1.og
 ob:=g1.ob
 fn:=fun g F h=>by
  have h':(own g).or ((G1 T E P).fn g)=some F:=h
  cases e:own g with
  |some F'=>
   rw[e]at h'
   obtain rfl:F'=F:=Option.some.inj h'
   obtain⟨a,ha,hF⟩:=ho g _ e
   exact⟨_,List.map_inj_left.mp (aO R N).2.2.1 _ ha,hF⟩
  |none=>
   rw[e]at h'
   obtain⟨f,h1,h2⟩:=g1.fn g F h'
   exact⟨f,h1,h2.mono hk⟩
 con:=g1.con
 set:=g1.set
 tab:=g1.tab
 bg:=g1.bg
 meth:=fun m F h=>by
  obtain⟨f,h1,h2⟩:=g1.meth m F h
  exact⟨f,h1.mono hk,h2⟩
 lenA:=fun A ρ σ s args vals v σ' Rm x r h=>g1.lenA A ρ σ s args vals v σ' (Rm.mono hk) x r h
 strA:=fun A ρ σ s args vals v σ' Rm x r h=>g1.strA A ρ σ s args vals v σ' (Rm.mono hk) x r h
end
theorem gp'{β:Type}{c:Prop} [Decidable c] {x:Option β}(h:c):grd c x=x:=if_pos h
noncomputable def ifT'(l:List Stmt):Expr:=eJ (l.headD (.Pass default)) (.Name "" default) (iff:=fun t _ _=>t)
theorem lst0{α:Type}{l:List α}(h:l.length=0):l=[]:=List.length_eq_zero_iff.mp h
theorem iI0{α:Type}{n:Nat}{l:List α}(h:l.length=n+1):∃a t,l=a::t∧t.length=n:=by
 cases l with
 |nil=>cases h
 |cons a t=>exact⟨a,t,rfl,Nat.succ.inj h⟩
theorem lst1{α:Type}{l:List α}(h:l.length=1):∃a,l=[a]:=by
 obtain⟨a,t,e,h⟩:=iI0 h
 exact⟨a,by rw[e,lst0 h]⟩
theorem lst2{α:Type}{l:List α}(h:l.length=2):∃a b,l=[a,b]:=by
 obtain⟨a,t,e,h⟩:=iI0 h
 obtain⟨b,e2⟩:=lst1 h
 exact⟨a,b,by rw[e,e2]⟩
theorem lst3{α:Type}{l:List α}(h:l.length=3):∃a b c,l=[a,b,c]:=by
 obtain⟨a,t,e,h⟩:=iI0 h
 obtain⟨b,c,e2⟩:=lst2 h
 exact⟨a,b,c,by rw[e,e2]⟩
theorem lst4{α:Type}{l:List α}(h:l.length=4):∃a b c d,l=[a,b,c,d]:=by
 obtain⟨a,t,e,h⟩:=iI0 h
 obtain⟨b,c,d,e2⟩:=lst3 h
 exact⟨a,b,c,d,by rw[e,e2]⟩
theorem iC{R:FR}(h:∀(n q:Str) (b:FuncBody) (sc:Scope) (g:Addr) (cl:List (Str×Addr)) (kw doc pm:Value) (an:Option Addr) (code ct:Value) (bt:Addr) (v:Value),bindArgs ⟨n,q,R.args,b,sc,g,cl,.none,kw,doc,pm,an,code,ct,bt⟩ ⟨[v],[]⟩=pure ([("self",v)]:List (Str×Value))):gF R:=by
 intro fd hp hd v
 obtain⟨n,q,pr,b,sc,g,cl,df,kw,doc,pm,an,code,ct,bt⟩:=fd
 dsimp only at hp hd
 subst hp;subst hd
 exact h ..
theorem fW{R:FR}(hl:R.d.params.length=1)(h:∀(n q:Str) (b:FuncBody) (sc:Scope) (g:Addr) (cl:List (Str×Addr)) (kw doc pm:Value) (an:Option Addr) (code ct:Value) (bt:Addr) (v:Value),bindArgs ⟨n,q,R.args,b,sc,g,cl,.none,kw,doc,pm,an,code,ct,bt⟩ ⟨[v],[]⟩=pure (R.d.params.zip [v])):Binds R:=by
 intro fd hp hd vals hv
 obtain⟨n,q,pr,b,sc,g,cl,df,kw,doc,pm,an,code,ct,bt⟩:=fd
 dsimp only at hp hd
 subst hp;subst hd
 rw[hl]at hv
 obtain⟨v,rfl⟩:=lst1 hv
 exact h ..
theorem mL{R:FR}(hl:R.d.params.length=2)(h:∀(n q:Str) (b:FuncBody) (sc:Scope) (g:Addr) (cl:List (Str×Addr)) (kw doc pm:Value) (an:Option Addr) (code ct:Value) (bt:Addr) (v w:Value),bindArgs ⟨n,q,R.args,b,sc,g,cl,.none,kw,doc,pm,an,code,ct,bt⟩ ⟨[v,w],[]⟩=pure (R.d.params.zip [v,w])):Binds R:=by
 intro fd hp hd vals hv
 obtain⟨n,q,pr,b,sc,g,cl,df,kw,doc,pm,an,code,ct,bt⟩:=fd
 dsimp only at hp hd
 subst hp;subst hd
 rw[hl]at hv
 obtain⟨v,w,rfl⟩:=lst2 hv
 exact h ..
theorem hL0{R:FR}(hl:R.d.params.length=3)(h:∀(n q:Str) (b:FuncBody) (sc:Scope) (g:Addr) (cl:List (Str×Addr)) (kw doc pm:Value) (an:Option Addr) (code ct:Value) (bt:Addr) (v w x:Value),bindArgs ⟨n,q,R.args,b,sc,g,cl,.none,kw,doc,pm,an,code,ct,bt⟩ ⟨[v,w,x],[]⟩=pure (R.d.params.zip [v,w,x])):Binds R:=by
 intro fd hp hd vals hv
 obtain⟨n,q,pr,b,sc,g,cl,df,kw,doc,pm,an,code,ct,bt⟩:=fd
 dsimp only at hp hd
 subst hp;subst hd
 rw[hl]at hv
 obtain⟨v,w,x,rfl⟩:=lst3 hv
 exact h ..
theorem hQ0{R:FR}(hl:R.d.params.length=4)(h:∀(n q:Str) (b:FuncBody) (sc:Scope) (g:Addr) (cl:List (Str×Addr)) (kw doc pm:Value) (an:Option Addr) (code ct:Value) (bt:Addr) (v w x y:Value),bindArgs ⟨n,q,R.args,b,sc,g,cl,.none,kw,doc,pm,an,code,ct,bt⟩ ⟨[v,w,x,y],[]⟩=pure (R.d.params.zip [v,w,x,y])):Binds R:=by
 intro fd hp hd vals hv
 obtain⟨n,q,pr,b,sc,g,cl,df,kw,doc,pm,an,code,ct,bt⟩:=fd
 dsimp only at hp hd
 subst hp;subst hd
 rw[hl]at hv
 obtain⟨v,w,x,y,rfl⟩:=lst4 hv
 exact h ..
theorem lst5{α:Type}{l:List α}(h:l.length=5):∃a b c d e,l=[a,b,c,d,e]:=by
 obtain⟨a,t,e,h⟩:=iI0 h
 obtain⟨b,c,d,f,e2⟩:=lst4 h
 exact⟨a,b,c,d,f,by rw[e,e2]⟩
theorem eI0{R:FR}(hl:R.d.params.length=5)(h:∀(n q:Str) (b:FuncBody) (sc:Scope) (g:Addr) (cl:List (Str×Addr)) (kw doc pm:Value) (an:Option Addr) (code ct:Value) (bt:Addr) (v w x y z:Value),bindArgs ⟨n,q,R.args,b,sc,g,cl,.none,kw,doc,pm,an,code,ct,bt⟩ ⟨[v,w,x,y,z],[]⟩=pure (R.d.params.zip [v,w,x,y,z])):Binds R:=by
 intro fd hp hd vals hv
 obtain⟨n,q,pr,b,sc,g,cl,df,kw,doc,pm,an,code,ct,bt⟩:=fd
 dsimp only at hp hd
 subst hp;subst hd
 rw[hl]at hv
 obtain⟨v,w,x,y,z,rfl⟩:=lst5 hv
 exact h ..
noncomputable def dF0{β:Type}(v:PV)(f:Bool→Option β):Option β:=match v with
 |.bool b=>f b
 |_=>none
theorem vM{β:Type}{r:β}{v:PV}{f:Bool→Option β}(h:dF0 v f=some r):∃b,v=.bool b∧f b=some r:=by
 cases v with
 |bool b=>exact⟨b,rfl,h⟩
 |_=>exact nos h
noncomputable def gE(F:Fn)(args:List PV):Option Bool:=opt (F args []) fun p=>dF0 p.1 some
theorem vF{F:Fn}{args:List PV}{r:Bool}(h:gE F args=some r):∃τ,F args []=some (.bool r,τ):=by
 obtain⟨⟨v,τ⟩,hF,h⟩:=aA h
 obtain⟨x,e,h⟩:=vM h
 exact⟨τ,by rw[hF,show v=_ from e,Option.some.inj h]⟩
theorem rF{F:Fn}{args:List PV}{r:Bool}{τ:Sto}(h:F args []=some (.bool r,τ)):gE F args=some r:=by unfold gE;rw[h];rfl
theorem elF_le(F:Fn):Le (elF fun w g=>gE F [.str w,.str g]) (jS F):=fun args σ r h=>by
 obtain⟨a,b,e1,h1⟩:=eW h
 obtain⟨w,e2,h2⟩:=bZ h1
 obtain⟨g,e3,h3⟩:=bZ h2
 subst e1 e2 e3
 obtain⟨x,hx,h4⟩:=aA h3
 obtain rfl:=Option.some.inj h4
 obtain⟨τ,hF⟩:=vF hx
 exact gO rfl hF rfl σ
theorem nS:∀(ps:List (List Nat)),∀p∈ps,p.length≤(glue ps).length
 |[],_,h=>by cases h
 |[a],p,h=>by simp at h;subst h;simp[glue]
 |a::b::r,p,h=>by
  have ih:=nS (b::r)
  rw[show glue (a::b::r)=a++(dots++glue (b::r)) from rfl]
  rcases List.mem_cons.mp h with rfl | h
  ·simp
  ·have:=ih p h
   simp;lia
theorem no_dots{w:List Nat}(h:46∉w):Txt.contains (S w) "..."=false:=by
 rw[Bool.eq_false_iff]
 intro hc
 unfold Txt.contains at hc
 rw[bL0,StrLaws.found_iff]at hc
 obtain⟨i,h1,h2⟩:=hc
 rw[lA]at h2
 have e:=beq_iff_eq.mp h2
 have hm:46∈(w.drop i).take dots.length:=by rw[e];simp[dots]
 exact h (List.mem_of_mem_drop (List.mem_of_mem_take hm))
theorem e3_ok(T:Int→Option Str):EllOk fun w g=>gE (cU (G0 T) 2000 dE) [.str w,.str g] where
 dots:=fun a mid b g hd hn hw hg=>by
  obtain⟨σ',e⟩:=ell_S T a mid b g hd (by lia) (by lia) (by lia) (fun w hm=>by have:=nS _ w hm;lia)
  exact rF e
 none:=fun w g h=>by
  have e:cU (G0 T) 2000 dE [.str (S w),.str (S g)] []=some (.bool (decide (S w=S g)),[]):=by
   rw[dV (le:=[("want",.str (S w)),("got",.str (S g))]) tH rfl rfl,dO0,bG,el_0 T 1979,no_dots h]
   rfl
  exact (rF e).trans (congrArg some (decide_eq_decide.mpr xU))
noncomputable abbrev F3E:Fn:=cU (G0 T3) 2000 dE
noncomputable abbrev E3:Fn:=elF fun w g=>gE F3E [.str w,.str g]
noncomputable abbrev GA3:Gl:=G1 T3 E3 nT
noncomputable abbrev spF:Fn:=jS (cU GA3 100 dS)
noncomputable abbrev unF:Fn:=jS (cU GA3 100 dU)
noncomputable abbrev tkF:Fn:=jS (cU GA3 100 dT)
theorem tk3:TkOk tkF where
 at':=fun t f m b n σ ht hf hb hm=>gO rfl (gH0 T3 E3 nT t f m b n ht hf hb hm) rfl σ
noncomputable abbrev eA:Str→Str→Option Bool:=fun w g=>gE F3E [.str w,.str g]
set_option maxHeartbeats 0
noncomputable def ad3:Ad:=⟨101,100,25,38,45,61,98,68,75,53,30,46,120,131,[("in_table_b1",130),("map_table_b3",176),("_ellipsis_match",112),("_law_spelled",183),("_law_unseen",190),("_law_images",197),("_law_folded",202),("_law_down",209),("_law_taken",216),("law",221)]⟩
theorem r3_part:kB0 (iR p3):=⟨_,_,_,_,_,rfl,rfl⟩
theorem r3_init:ShInit (nK p3):=fun ok C S Y h1 h2 h3 P hb R st=>kV0 ok C S Y h1 h2 h3 P rfl hb R st
theorem r3_popT(T:Int→Option Str)(σ:Sto)(i di:Nat)(c:Cell)(xs:List PV)(hc:σ[i]?=some c)(hd:c.d=.acc di xs)(hok:aI σ (.lst i)=true)(hl:xs.length≤10000):dH (G0 T) 100 ⟨(oG p3).d.names,[("self",.lst i)]⟩ σ (ifT' ((oG p3).body)) (fun b s=>some (b,s))=some (xs.isEmpty,σ):=by
 have e:dH (G0 T) 100 ⟨(oG p3).d.names,[("self",.lst i)]⟩ σ (ifT' ((oG p3).body)) (fun b s=>some (b,s))=grd (aK σ (.lst i)=aK σ (.lst i)∧aI σ (.lst i)=true) (aU (G0 T) (.lst i) "part_count" [] σ fun v σ'=>eD .Eq σ' v (.int 0) fun t=>some (t,σ')):=by kernel_rfl!
 refine Eq.trans e ?_
 rw[gp' ⟨rfl,hok⟩]
 have e2:aU (G0 T) (.lst i) "part_count" [] σ (fun v σ'=>eD .Eq σ' v (.int 0) fun t=>some (t,σ'))=aR (lT [.lst i] σ) (fun v σ'=>eD .Eq σ' v (.int 0) fun t=>some (t,σ')):=by
  obtain⟨ver,d⟩:=c
  dsimp only at hd
  subst hd
  show opt σ[i]? _=_
  rw[hc]
  rfl
 rw[e2]
 have e3:lT [.lst i] σ=some (.int xs.length,σ):=by
  show opt σ[i]? _=_
  rw[hc]
  show rR c.d _=_
  rw[hd]
  exact if_pos (Nat.le_trans hl (by decide))
 rw[e3]
 show some (decide ((xs.length:Int)=0),σ)=_
 cases xs with
 |nil=>rfl
 |cons a b=>rw[decide_eq_false (by simp;omega)];rfl
theorem r3_pop:ShPop (oG p3):=fun ok C S h1 h2 gok P hb=>popC_ok ok C S h1 h2 gok P rfl hb (r3_popT _) fun cx σ=>by kernel_rfl!
theorem r3_len:ShLen (yI p3):=fun N D h1 h2 hb R x hc hd hai hok hini hk hp hs=>kR0 N D h1 h2 (by kernel_rfl!) (by kernel_rfl!) ⟨rfl,fun env=>by kernel_rfl!,by decide+kernel,by kernel_rfl!,by kernel_rfl!,by kernel_rfl!,rfl,by kernel_rfl!⟩ hb R x hc hd hai hok hini hk hp hs
theorem r3_str:ShStr (vU p3):=fun N D h1 h2 hb R x hc hd hai hp hs hn hj=>strC_run N D h1 h2 (by kernel_rfl!) (by kernel_rfl!) ⟨rfl,fun env=>by kernel_rfl!,by decide+kernel,by kernel_rfl!,by kernel_rfl!,by kernel_rfl!,rfl,by kernel_rfl!⟩ (by kernel_rfl!) (by kernel_rfl!) hb R x hc hd hai hp hs hn hj
theorem r3_popf:iU0 (kO p3):=fun ok S gok hc hd hi hl=>gY0 ok S gok hc hd hi hl
theorem jD0:gF (iR p3):=iC (by intros;kernel_rfl!)
theorem r3_popB:gF (oG p3):=iC (by intros;kernel_rfl!)
theorem r3_lenB:gF (yI p3):=iC (by intros;kernel_rfl!)
theorem r3_strB:gF (vU p3):=iC (by intros;kernel_rfl!)
theorem iD0:iQ0 (nK p3):=by
 intro fd T hp hd s o n t x ho hs
 obtain⟨nm,q,pr,b,sc,g,cl,df,kw,doc,pm,an,code,ct,bt⟩:=fd
 dsimp only at hp hd
 subst hp;subst hd
 exact⟨BindsTo.of_defaults rfl ho hs rfl rfl,fun i u=>BindsTo.of_defaults rfl ho hs rfl rfl⟩
theorem iA0:iT0 (kO p3):=by
 intro fd T hp hd s o n t x ho hs
 obtain⟨nm,q,pr,b,sc,g,cl,df,kw,doc,pm,an,code,ct,bt⟩:=fd
 dsimp only at hp hd
 subst hp;subst hd
 exact⟨BindsTo.of_defaults rfl ho hs rfl rfl,fun i u=>BindsTo.of_defaults rfl ho hs rfl rfl⟩
theorem r3_pushB:Binds (oB p3):=hL0 (by kernel_rfl!) (by intros;kernel_rfl!)
theorem iN0:∀x∈ad3.tops,Binds (cM p3 x.1):=by
 intro x hx
 unfold ad3 at hx
 simp only[List.mem_cons,List.not_mem_nil,or_false]at hx
 rcases hx with rfl | rfl | rfl | rfl | rfl | rfl | rfl | rfl | rfl | rfl
 ·exact fW (by kernel_rfl!) (by intros;kernel_rfl!)
 ·exact fW (by kernel_rfl!) (by intros;kernel_rfl!)
 ·exact mL (by kernel_rfl!) (by intros;kernel_rfl!)
 ·exact mL (by kernel_rfl!) (by intros;kernel_rfl!)
 ·exact fW (by kernel_rfl!) (by intros;kernel_rfl!)
 ·exact fW (by kernel_rfl!) (by intros;kernel_rfl!)
 ·exact mL (by kernel_rfl!) (by intros;kernel_rfl!)
 ·exact hQ0 (by kernel_rfl!) (by intros;kernel_rfl!)
 ·exact eI0 (by kernel_rfl!) (by intros;kernel_rfl!)
 ·exact fW (by kernel_rfl!) (by intros;kernel_rfl!)
theorem r3_tops:∀x∈ad3.tops,gX0 (cM p3 x.1)=true:=by
 have h:ad3.tops.all (fun x=>gX0 (cM p3 x.1))=true:=by kernel_rfl!
 exact List.all_eq_true.mp h
theorem r3:PrOk p3 ad3 where
 top:=by kernel_rfl!
 part:=r3_part
 partS:=by kernel_rfl!
 partP:=by kernel_rfl!
 partB:=jD0
 pop:=r3_pop
 popS:=by kernel_rfl!
 popP:=by kernel_rfl!
 popB:=r3_popB
 init:=r3_init
 initS:=by kernel_rfl!
 initP:=by kernel_rfl!
 initB:=iD0
 len:=r3_len
 lenM:=by kernel_rfl!
 lenP:=by kernel_rfl!
 lenB:=r3_lenB
 str:=r3_str
 strM:=by kernel_rfl!
 strP:=by kernel_rfl!
 strB:=r3_strB
 popf:=r3_popf
 popfM:=by kernel_rfl!
 popfP:=by kernel_rfl!
 popfN:=by kernel_rfl!
 popfB:=iA0
 pushF:=by kernel_rfl!
 pushB:=r3_pushB
 tops:=r3_tops
 topsB:=iN0
 away:=by decide+kernel
 codes:=by decide
 b3:=by decide
theorem r3_b1(T:Int→Option Str):Le b1F (qJ (G0 T) 50 (cM p3 "in_table_b1").d):=by
 intro args σ r h
 obtain⟨c,e,h1⟩:=pH h
 subst e
 obtain rfl:=Option.some.inj h1
 rw[← lF]
 kernel_rfl!
noncomputable abbrev dM3:DefP:=(cM p3 "map_table_b3").d
theorem r3_m0{β:Type}(T:Int→Option Str)(c:Nat)(σ:Sto)(k:Fl→Cx→Sto→Option β):exK (G0 T) 49 ⟨dM3.names,[("code",.str ⟨#[c]⟩)]⟩ σ (stAt dM3 0) k=match T (c:Int)with
 |some x=>k .nxt ⟨dM3.names,[("r",.str x),("code",.str ⟨#[c]⟩)]⟩ σ
 |none=>k .nxt ⟨dM3.names,[("r",.none),("code",.str ⟨#[c]⟩)]⟩ σ:=by kernel_rfl!
theorem r3_m1{β:Type}(T:Int→Option Str)(c:Nat)(x:Str)(σ:Sto)(k:Fl→Cx→Sto→Option β):exK (G0 T) 48 ⟨dM3.names,[("r",.str x),("code",.str ⟨#[c]⟩)]⟩ σ (stAt dM3 1) k=k (.ret (.str x)) ⟨dM3.names,[("r",.str x),("code",.str ⟨#[c]⟩)]⟩ σ:=by kernel_rfl!
theorem r3_m1'{β:Type}(T:Int→Option Str)(c:Nat)(σ:Sto)(k:Fl→Cx→Sto→Option β):exK (G0 T) 48 ⟨dM3.names,[("r",.none),("code",.str ⟨#[c]⟩)]⟩ σ (stAt dM3 1) k=k .nxt ⟨dM3.names,[("r",.none),("code",.str ⟨#[c]⟩)]⟩ σ:=by kernel_rfl!
theorem r3_m2{β:Type}(T:Int→Option Str)(c:Nat)(r:PV)(σ:Sto)(k:Fl→Cx→Sto→Option β):exK (G0 T) 47 ⟨dM3.names,[("r",r),("code",.str ⟨#[c]⟩)]⟩ σ (stAt dM3 2) k=grd ((Txt.lower ⟨#[c]⟩).length≤100000) (k (.ret (.str (Txt.lower ⟨#[c]⟩))) ⟨dM3.names,[("r",r),("code",.str ⟨#[c]⟩)]⟩ σ):=by kernel_rfl!
theorem r3_mB:dM3.body=[stAt dM3 0,stAt dM3 1,stAt dM3 2]:=by kernel_rfl!
theorem r3_mP:dM3.params=(["code"]:List Str):=by kernel_rfl!
theorem r3_b3(T:Int→Option Str):Le (b3F T) (qJ (G0 T) 50 dM3):=by
 intro args σ r h
 obtain⟨c,e,h1⟩:=pH h
 subst e
 obtain⟨x,hx,h2⟩:=aA h1
 obtain rfl:=Option.some.inj h2
 have e0:=fun k=>r3_m0 (β:=PV×Sto) T c σ k
 rw[← lF,dV (le:=[("code",.str ⟨#[c]⟩)]) r3_mP rfl rfl,r3_mB]
 unfold bG0 at hx
 cases hy:T (c:Int)with
 |some y=>
  rw[hy]at hx e0
  obtain rfl:=Option.some.inj hx
  exact gU e0 (bI0 (fun k=>r3_m1 T c y σ k) rfl)
 |none=>
  rw[hy]at hx e0
  obtain⟨hlen,hx⟩:=grd_some (show grd ((Txt.lower ⟨#[c]⟩).length≤100000) (some (Txt.lower ⟨#[c]⟩))=some x from hx)
  obtain rfl:=Option.some.inj hx
  exact gU e0 (gU (fun k=>r3_m1' T c σ k) (bI0 (fun k=>(r3_m2 T c _ σ k).trans (gp' hlen)) rfl))
noncomputable abbrev dP3:DefP:=(oB p3).d
theorem r3_p0{β:Type}(T:Int→Option Str)(i:Nat)(a b:PV)(σ:Sto)(k:Fl→Cx→Sto→Option β):exK (G0 T) 49 ⟨dP3.names,[("self",.lst i),("fws",a),("string",b)]⟩ σ (stAt dP3 0) k=
  grd (aK σ (.lst i)=aK σ (.lst i)∧aI σ (.lst i)=true) (aU (G0 T) (.lst i) "append" [.tup [a,b]] σ fun _ σ'=>k .nxt ⟨dP3.names,[("self",.lst i),("fws",a),("string",b)]⟩ σ'):=by kernel_rfl!
theorem r3_pB:dP3.body=[stAt dP3 0]:=by kernel_rfl!
theorem r3_pP:dP3.params=(["self","fws","string"]:List Str):=by kernel_rfl!
theorem r3_push(T:Int→Option Str):Le pushF (qJ (G0 T) 50 dP3):=by
 intro args σ r h
 obtain⟨v,a,b,e1,h1⟩:=iY h
 obtain⟨i,e2,h2⟩:=cR h1
 subst e1 e2
 obtain⟨hacc,h3⟩:=grd_some h2
 obtain⟨⟨ver,d⟩,hc,h4⟩:=aA h3
 obtain⟨di,xs,e3,h5⟩:=eO h4
 obtain rfl:d=_:=e3
 obtain⟨hl,h6⟩:=grd_some h5
 obtain rfl:=Option.some.inj h6
 have e4:kS [.lst i,.tup [a,b]] σ=some (PV.none,aC σ i (.acc di (xs++[PV.tup [a,b]]))):=by
  show opt σ[i]? _=_
  rw[hc]
  exact if_pos hl
 rw[← lF,dV (le:=[("self",.lst i),("fws",a),("string",b)]) r3_pP rfl rfl,r3_pB,bG,r3_p0,gp' ⟨rfl,hacc⟩]
 show opt σ[i]? _=_
 rw[hc]
 show aR (kS [.lst i,.tup [a,b]] σ) _=_
 rw[e4]
 rfl
theorem has_int{R:WRecords}{x:WData}(h:WShape.has R x .int=true):∃i,x=.int i:=by
 cases x with
 |int i=>exact⟨i,rfl⟩
 |_=>cases h
theorem cJ0{R:WRecords}:∀{xs:List WData},WShape.hasItems R xs .int=true→∃l:List Int,xs=l.map .int
 |[],_=>⟨[],rfl⟩
 |x::xs,h=>by
  obtain⟨h1,h2⟩:=Bool.and_eq_true _ _▸(h:(WShape.has R x .int&&WShape.hasItems R xs .int)=true)
  obtain⟨l,e⟩:=cJ0 h2
  obtain⟨i,e1⟩:=has_int h1
  exact⟨i::l,e1▸e▸rfl⟩
theorem tN{P:Params}{B:Bs}{ρ:List Addr}{h:Heap}:∀{l:List Int} {vs:List Value},WellAll P h vs (l.map .int)→VRs B ρ h (l.map .int) vs
 |[],_,w=>by cases w;exact rfl
 |i::l,_,w=>by
  cases w with
  |cons a b=>
   cases a
   exact⟨_,_,rfl,⟨_,rfl⟩,tN b⟩
structure Behind (p:Program) (ad:Ad) (tbl:List (Int×Str)) (w:World) (os:OsState) (s₁:Shared):Prop where
 look:TopLook p w.params s₁.heap
 same:s₁.os=os
 gens:s₁.gens=#[]
 life:s₁.heap.life=(boot_heap w.params).life
 run:∃n t,schedN (denote table) p w n (.single ⟨boot_heap w.params,#[],boot_drawn,boot_toks,os⟩ (topStub p))=.running (.single s₁ t)∧through t=true
 kk:∃kk,dX0 ad kk=cR0 p ad∧∀a o,kk a=some o→s₁.heap.get? a=some o
 tab:∃es,IDict s₁.heap ad.b3 es∧Paired bY tbl es.toList
structure LawIs (l:OpenLaw):Prop where
 name:l.name="law"
 writes:l.writes=false
 most:l.most=some 63
 bound:l.bound=none
noncomputable def preF(o:Option Bool):Option WData:=match (match o.map WData.bool with
 |some (.bool b)=>some (WData.bool (!b))
 |_=>none)with
 |some (.bool false)=>some (.bool false)
 |some (.bool true)=>some (.bool true)
 |_=>none
theorem lB0{args:List WData}(h:WShape.hasAll [] args [.list .int]=true):∃script:List Int,args=[.list (script.map .int)]:=by
 cases args with
 |nil=>cases h
 |cons a r=>
  obtain⟨h1,h2⟩:=Bool.and_eq_true _ _▸(h:(WShape.has [] a (.list .int)&&WShape.hasAll [] r [])=true)
  cases r with
  |cons _ _=>cases h2
  |nil=>
   cases a with
   |list xs=>
    obtain⟨l,e⟩:=cJ0 (R:=[]) (xs:=xs) ((Bool.or_false _).symm.trans (show (WShape.hasItems [] xs .int || false)=true from h1))
    exact⟨l,by rw[e]⟩
   |_=>cases h1
theorem pre_of{l:OpenLaw}(L:LawIs l){args:List WData}(h:l.row.toRowW.claim.pre args=true):∃script:List Int,args=[.list (script.map .int)]∧script.length≤63:=by
 have h':(WShape.hasAll [] args [.list .int]&&l.pre.holds [] { args:=args })=true:=h
 rw[Bool.and_eq_true]at h'
 obtain⟨h1,h2⟩:=h'
 obtain⟨script,e⟩:=lB0 h1
 refine⟨script,e,?_⟩
 subst e
 unfold OpenLaw.pre at h2
 rw[L.most,L.bound]at h2
 have e:∀xs:List WData,WTm.value [] (.and (.not (.lt (.lit (.int (63:Nat))) (.len (.arg 0)))) (.lit (.bool true))) { args:=[.list xs] }=preF (some (decide ((63:Int) < (xs.length:Int)))):=fun xs=>by kernel_rfl!
 refine Nat.le_of_not_lt fun hl=>?_
 have hd:decide ((63:Int) < ((script.map WData.int).length:Int))=true:=decide_eq_true (by rw[List.length_map];exact Int.ofNat_lt.mpr hl)
 have h3:=e (script.map .int)
 rw[hd]at h3
 unfold WTm.holds at h2
 rw[h3]at h2
 cases h2
theorem callerR:Room 7 callerA:=⟨rfl,by decide+kernel,by decide+kernel⟩
section
variable {p:Program}{ad:Ad}{kk:Nat→Option Obj}{B:Bs}{T:Int→Option Str}(R:PrOk p ad)(N:Env p ad kk B T)
include R N
theorem yJ{n:Str}{a:Nat}(hL:(n,a)∈ad.tops):glob (kk 3) n=some (.ref a):=by
 have e:=(aO R N).2.2.1
 unfold lv3 lw3 at e
 exact List.map_inj_left.mp e _ hL
theorem cW0{b:Nat}(h:b∈ad.tb):kk b=some { cls:=Value.none,data:=.fields #[] }:=by
 have e:=(aO R N).2.2.2.2.2.2.2.2.1
 unfold lv9 lw9 at e
 obtain⟨e1,e2⟩:=List.cons.inj e
 rcases List.mem_cons.mp h with rfl | h
 ·exact e1
 ·rw[List.mem_singleton.mp h];exact (List.cons.inj e2).1
theorem env_inv(hk:∀a o,kk a=some o→B.h₀.get? a=some o):B.inv B.h₀:=(N.inv _).mpr fun cp hcp=>by
 have hP:cp.2∈ad.tb:=N.tb▸((aT R N).tb cp.2).mpr ⟨cp.1,hcp⟩
 have hb:hZ (kk cp.1) none cp.2=true:=by
  have e8:=(fR R N).2.2.2.2
  rcases List.mem_cons.mp hcp with rfl | h
  ·exact e8.1
  ·rw[List.mem_singleton.mp h];exact e8.2
 cases hc:kk cp.1 with
 |none=>rw[hc]at hb;exact absurd hb Bool.false_ne_true
 |some oc=>
  rw[hc]at hb
  exact fF0 (hk _ _ hc) (hk _ _ (cW0 R N hP)) hb fun e=>(aT R N).off cp hcp (by rw[e,N.tb];exact hP)
theorem env_old{ρ':List Addr}{σ':Sto}{s₂ s':Shared}{a:Addr}{c:Cell}(x':St B ρ' σ' s')(ev:Evo B [] [a] [c] s₂.heap ρ' σ' s'.heap)(hσ:σ'[0]?=some c)(hi:B.inv s₂.heap)(hk:∀b o,kk b=some o→s₂.heap.get? b=some o):OldK s₂.heap s'.heap:=by
 refine⟨fun b o hb=>?_,fun b o hb=>ev.kp.live b o hb⟩
 by_cases hba:b=a
 ·subst hba
  obtain⟨c',hc',hv1,hv2⟩:=ev.ver 0 _ rfl
  have e:c'=c:=Option.some.inj (hc'.symm.trans hσ)
  exact .inl ((hv2 (e▸rfl)).2 b rfl o hb)
 ·by_cases hbt:b∈ad.tb
  ·obtain⟨c,hc⟩:=((aT R N).tb b).mp (N.tb▸hbt)
   obtain⟨ps,h1,h2⟩:=(N.inv _).mp hi _ hc
   obtain⟨ps',h1',h2'⟩:=(N.inv _).mp x'.inv _ hc
   obtain rfl:=Option.some.inj (hb.symm.trans (hk _ _ (cW0 R N hbt)))
   exact .inr (.inl ⟨h2.isCodeTable,rfl,#[],ps',rfl,by simpa using h2'.2⟩)
  ·exact .inl (ev.kp.keep b o hb (fun h=>hba (List.mem_singleton.mp h)) (N.tb▸hbt) (fun h=>nomatch h))
end
theorem st_laid{B:Bs}{s₂:Shared}{a:Addr}{us:List Value}{n:Nat}{script:List Int}(os:s₂.os=B.os)(gens:s₂.gens=#[])(base:∀b o,B.h₀.get? b=some o→s₂.heap.get? b=some o)(hnew:B.h₀.get? a=none)(hT:a∉B.Tb)
  (ha:s₂.heap.get? a=some { cls:=.type "list",data:=.seq us.toArray n }) (hus:VRs B [a] s₂.heap (script.map .int) us) (inv:B.inv s₂.heap):St B [a] [⟨0,.lst (script.map .int)⟩] s₂ where
 os:=os
 gens:=.of_eq gens
 base:=fun b o ho _=>base b o ho
 len:=rfl
 nodup:=List.nodup_cons.mpr ⟨List.not_mem_nil,List.nodup_nil⟩
 fresh:=fun b hb=>List.mem_singleton.mp hb▸hnew
 off:=fun b hb=>List.mem_singleton.mp hb▸hT
 cells:=fun i c b hc hb=>by
  cases i with
  |succ i=>exact nos hc
  |zero=>
   obtain rfl:=Option.some.inj hc
   obtain rfl:=Option.some.inj hb
   exact⟨us,⟨_,ha⟩,hus⟩
 inv:=inv
noncomputable def nH(p:Program)(w:World)(h:Heap)(ad:Ad)(os:OsState):Bs:=⟨p,w,h,ad.tb,os,fun h=>∀cp∈ad.codes,∃ps,h.IsCode cp.1 cp.2 ps∧h.TableAt cp.1 cp.2 ps,ad.kc⟩
theorem law_env{p:Program}{ad:Ad}{tbl:List (Int×Str)}{w:World}{os:OsState}{s₁:Shared}{kk:Nat→Option Obj}(R:PrOk p ad)(hlook:dX0 ad kk=cR0 p ad)(hkk:∀a o,kk a=some o→s₁.heap.get? a=some o)(tab:∃es,IDict s₁.heap ad.b3 es∧Paired bY tbl es.toList):
  Env p ad kk (nH p w s₁.heap ad os) (fun i=>tbl.lookup i) where
 look:=hlook
 has:=fun a o ho _=>hkk a o ho
 prog:=rfl
 tb:=rfl
 cls:=rfl
 inv:=fun h=>Iff.rfl
 tab:=fun h hk=>by
  obtain⟨es,⟨o,ep,ho,hx,hd⟩,hpair⟩:=tab
  have hb3:ad.b3∉ad.tb:=R.away _ (aw 24 rfl)
  exact zI (hk _ _ ho hb3) hx hd hpair
theorem jE0{P:Params}{h:Heap}{Rr:WRecords}{cl:Str→Option Addr}{vs:List Value}{xs:List WData}{as:List Addr}(hw:WellAll P h vs [.list xs])(hr:ReadsAllW Rr cl h vs [.list xs] as):
  ∃a us ai,vs=[.ref a]∧as=a::ai∧h.get? a=some { cls:=.type "list",data:=.seq us.toArray }∧WellAll P h us xs:=by
 cases hw with
 |cons hv hvr=>
  cases hvr
  cases hv with
  |list ha hus=>
   cases hr with
   |cons r1 r2=>
    cases r1
    exact⟨_,_,_,rfl,rfl,ha,hus⟩
theorem law_go{p:Program}{ad:Ad}{tbl:List (Int×Str)}{w:World}{os:OsState}{s₁ s₂:Shared}{kk:Nat→Option Obj}{F:Fn}{n:Str}{aL:Nat}{script:List Int}{Rr:WRecords}{cl:Str→Option Addr}{vs:List Value}{as:List Addr}{σ':Sto}
  (R:PrOk p ad) (N:Env p ad kk (nH p w s₁.heap ad os) fun i=>tbl.lookup i) (hkk:∀a o,kk a=some o→s₁.heap.get? a=some o) (fn:FnOk (nH p w s₁.heap ad os) 7 (.ref aL) F) (hL:(n,aL)∈ad.tops)
  (hF:F [.lst 0] [⟨0,.lst (script.map .int)⟩]=some (.bool true,σ')) (hσ:σ'[0]?=some ⟨0,.lst (script.map .int)⟩)
  (hw:WellAll w.params s₂.heap vs [.list (script.map .int)]) (hr:ReadsAllW Rr cl s₂.heap vs [.list (script.map .int)] as) (hin:In s₁.heap.objs.size s₂.heap.objs.size as) (keeps:∀b o,s₁.heap.get? b=some o→s₂.heap.get? b=some o) (hos:s₂.os=os) (hg:s₂.gens=#[])
  {α:Type} {t:Value→Sem α} {z:Sem α} {Q:α→Shared→Prop} {E:Value→Shared→Prop} (q:∀s' ρ',St (nH p w s₁.heap ad os) ρ' σ' s'→OldK s₂.heap s'.heap→wpAny (model p w) callerA (t (.bool true)) Q E s'):
  wpAny (model p w) callerA (do match ← nsGet mainNs n with
   |some f=>do let v ← PySem.call f vs;t v
   |none=>z) Q E s₂:=by
 obtain⟨a,us,ai,e1,e2,ha,hus⟩:=jE0 hw hr
 subst e1 e2
 have hsz:s₁.heap.objs.size≤a:=(hin.2.2 a List.mem_cons_self).1
 have hnew:s₁.heap.get? a=none:=by
  cases e:s₁.heap.get? a with
  |none=>rfl
  |some o=>exact absurd (Heap.lt_size e) (Nat.not_lt.mpr hsz)
 have hcodes:=env_inv R N hkk
 have hTnew:a∉(nH p w s₁.heap ad os).Tb:=fun hm=>by
  obtain⟨o,ho⟩:=(aT R N).ok.tb _ hcodes a hm
  exact nos (hnew.symm.trans ho)
 have hinv₂:(nH p w s₁.heap ad os).inv s₂.heap:=fun cp hcp=>(hcodes cp hcp).imp fun ps h=>⟨h.1.keeps keeps,h.2.keeps keeps⟩
 have St₂:=st_laid (B:=nH p w s₁.heap ad os) hos hg keeps hnew hTnew ha (tN hus) hinv₂
 refine wpAny_bind (wpAny_nsGet (m:=glob (kk 3)) ((xY R N).at' fun o ho=>keeps _ o ho) ?_)
 rw[yJ R N hL]
 refine wpAny_bind (wpAny_mono (fn.run callerA [a] [⟨0,.lst (script.map .int)⟩] s₂ [.lst 0] [.ref a] _ σ' callerR St₂ ⟨_,_,rfl,⟨a,rfl,rfl⟩,rfl⟩ hF) (fun v s' hv=>?_) fun _ _ z=>z.elim)
 obtain⟨ρ',x',ev,e⟩:=hv
 obtain rfl:v=.bool true:=e
 exact q s' ρ' x' (env_old R N x' ev hσ hinv₂ fun b o ho=>keeps _ _ (hkk _ _ ho))
theorem law_def{p:Program}{ad:Ad}{tbl:List (Int×Str)}{w:World}{os:OsState}{s₁:Shared}{kk:Nat→Option Obj}{n:Str}{aL:Nat}(R:PrOk p ad)(N:Env p ad kk (nH p w s₁.heap ad os) fun i=>tbl.lookup i)(hkk:∀a o,kk a=some o→s₁.heap.get? a=some o)(hL:(n,aL)∈ad.tops):
  globalOf s₁.heap n=some (.ref aL):=by
 rw[cJ]
 have e3:=yJ R N hL
 cases h3:kk 3 with
 |none=>rw[h3]at e3;exact nos e3
 |some o3=>
  rw[h3]at e3
  rw[hkk 3 o3 h3]
  exact e3
theorem gL0{l:OpenLaw}{ad:Ad}{tbl:List (Int×Str)}{F:Fn}{aL:Nat}(L:LawIs l)(rs:l.row.wellSaid=true)(prom:l.row.toRowW.promised)(bare:l.prog.bare)(ow:opensWell l.prog=true)(fr:frees l.row.toRowW=true)
  (op:opening l.prog=plainProg l.prog.main.scope.names) (fence:∀s,fenceModules? l.prog s=some s)
  (thed:l.prog.theDef l.name=some ((cM l.prog l.name).args,(cM l.prog l.name).body,(cM l.prog l.name).scope)) (nodef:(cM l.prog l.name).args.defaults=[]) (nokw:kwWritten? (cM l.prog l.name).args.kwonlyargs (cM l.prog l.name).args.kw_defaults=some []) (nm:(cM l.prog l.name).name=l.name∧(cM l.prog l.name).qual=l.name)
  (R:PrOk l.prog ad) (hL:(l.name,aL)∈ad.tops)
  (top:∀(w:World) (os:OsState),(⟨boot_heap w.params,#[],boot_drawn,boot_toks,os⟩:Shared).asleep→∃s₁,Behind l.prog ad tbl w os s₁)
  (fn:∀kk B,Env l.prog ad kk B (fun i=>tbl.lookup i)→FnOk B 7 (.ref aL) F)
  (tr:∀v (script:List Int),script.length≤1000→∃σ',F [.lst 0] [⟨v,.lst (script.map .int)⟩]=some (.bool true,σ')∧σ'[0]?=some ⟨v,.lst (script.map .int)⟩):l.row.Holds:=by
 refine⟨rs,prom,⟨bare,ow,rfl⟩,prom.witness,fun w=>?_⟩
 obtain⟨b1,b2⟩:=xH op fence w
 refine⟨b1,fun s hs=>?_⟩
 obtain⟨hf,hz,os,rfl⟩:=b2 s hs
 obtain⟨s₁,T⟩:=top w os hz
 have hT:TopRan l.prog w ⟨boot_heap w.params,#[],boot_drawn,boot_toks,os⟩ s₁:=vW T.look T.run T.life T.same T.gens
 obtain⟨kk,hlook,hkk⟩:=T.kk
 have N:=law_env (w:=w) (os:=os) R hlook hkk T.tab
 have hz₁:s₁.asleep:=Shared.asleep_of_life T.life hz
 refine⟨_,hf,rfl,s₁,hT,fun n hn=>?_,fun x hx=>(nomatch hx),fun x hx=>(nomatch hx),?_⟩
 ·obtain rfl:n=l.name:=by
   have hn':n∈[l.name]:=hn
   simpa using hn'
  obtain⟨o,fd,ho,hd,I⟩:=(tT R N hL).get
  refine⟨aL,o,fd,_,_,_,law_def R N hkk hL,hkk _ _ ho,hd,thed,by rw[I.name];exact nm.1,by rw[I.qual];exact nm.2,I.args,I.body,I.scope,I.glob,I.clo,I.bt,.inl ⟨nodef,I.dflt⟩,[],nokw,.inl ⟨rfl,I.kw⟩⟩
 ·have tree:callStub l.row.toRowW.name=fun vs=>⟨do match ← nsGet mainNs l.name with
    |some f=>do ret (← PySem.call f vs)
    |none=>unsupported "claim.caller:no-such-global",.builtin "claim.caller" {},default,[]⟩:=rfl
  rw[tree]
  refine ClaimW.callFrom_of_specG (c:=l.row.toRowW.claim) hz₁ T.gens fun args hpre hlay ord hord=>?_
  obtain⟨script,rfl,hsl⟩:=pre_of L hpre
  obtain⟨⟨vs,s₂⟩,hlaid⟩:=Option.isSome_iff_exists.mp (layAllW_isSome (P:=w.params) (ord:=ord) (fun c hc=>by have hc':(WRecords.fields? [] c).isSome=true:=hc;simp[WRecords.fields?]at hc') [.list (script.map .int)] l.row.toRowW.args s₁ (pre_splitW hpre).1)
  have keeps:=layAllW_keeps _ _ _ hlaid
  have hal:=layAllW_rest _ _ _ hlaid
  obtain⟨as,hrd,hin,hold⟩:=reads_layAllW hord _ _ _ hlaid hlay s₂.heap (fun _ _ e=>e)
  have La:Laid l.row.toRowW.records w s₁ s₂ [.list (script.map .int)] vs as:=⟨⟨ord,hord,hlaid⟩,hrd,hin,hold,keeps,hal.1.trans T.gens,hal.2.2.1⟩
  refine⟨vs,s₂,hlaid,?_⟩
  obtain⟨σ',hF,hσ⟩:=tr 0 script (Nat.le_trans hsl (by decide))
  refine law_go R N hkk (fn kk _ N) hL hF hσ La.well hrd hin keeps (hal.2.2.1.trans T.same) (hal.1.trans T.gens) fun s' ρ' x' hold'=>wpAny_pure ?_
  obtain⟨hsame,hu,haf,hap,hmk⟩:=frees_parts fr
  have G:GoodWG l.row.toRowW.claim (classAt s₁.heap) (ExcName.means s₁.heap) [.list (script.map .int)] s₂ (.ok (.ret (.bool true))) s':=
   ⟨.inl ⟨.bool true,.bool true,[],rfl,fun cls=>rfl,.bool true,by kernel_rfl!,fun _=>⟨List.nodup_nil,fun a h=>nomatch h⟩⟩,hold',x'.os.trans (hal.2.2.1.trans T.same).symm,x'.gens⟩
  have z:=G.laid (c:=l.row.toRowW.claim) hsame rfl (ident_freeW hu haf hap) La
  exact⟨_,rfl,z.1,z.2.1,z.2.2,fun q=>absurd (show l.writes=true from q) (by rw[L.writes];decide)⟩
noncomputable def incr:List Int→Bool
 |[]=>true
 |[_]=>true
 |a::b::r=>decide (a < b)&&incr (b::r)
theorem eE0:∀{l:List Int} {a:Int},incr (a::l)=true→∀x∈l,a < x
 |[],_,_,x,hx=>nomatch hx
 |b::r,a,h,x,hx=>by
  have h':(decide (a < b)&&incr (b::r))=true:=h
  rw[Bool.and_eq_true,decide_eq_true_eq]at h'
  rcases List.mem_cons.mp hx with rfl | hx
  ·exact h'.1
  ·exact Int.lt_trans h'.1 (eE0 h'.2 x hx)
theorem pE:∀{l:List Int},incr l=true→l.Nodup
 |[],_=>.nil
 |[a],_=>by simp
 |a::b::r,h=>by
  have h':(decide (a < b)&&incr (b::r))=true:=h
  rw[Bool.and_eq_true]at h'
  exact List.nodup_cons.mpr ⟨fun hm=>absurd (eE0 h a hm) (Int.lt_irrefl a),pE h'.2⟩
noncomputable def rJ(p:Program)(ad:Ad)(G1 G2:List Stmt)(d:DictStmt)(c n₀:Nat)(w:World)(p1 q:Pos)(tk:Nat):=
 (okB jI (runB p w (behindTheImports p) G1 p1),(kB p w (behindTheImports p) G1 p1).n,kget (kB p w (behindTheImports p) G1 p1).kn n₀,okB jI (runC p w (behindTheImports p) G1 d.x d.px G2 c p1 q tk),yD.map (kget (kC p w (behindTheImports p) G1 d.x d.px G2 c p1 q tk).kn),cH0 p (kget (kC p w (behindTheImports p) G1 d.x d.px G2 c p1 q tk).kn 3),laidNames.map (glob (kget (kC p w (behindTheImports p) G1 d.x d.px G2 c p1 q tk).kn 3)),glob (kget (kC p w (behindTheImports p) G1 d.x d.px G2 c p1 q tk).kn 3) "__builtins__",dX0 ad (kget (kC p w (behindTheImports p) G1 d.x d.px G2 c p1 q tk).kn))
noncomputable def pP(p:Program)(ad:Ad)(n₀:Nat)(P:Params):=
 (true,n₀,(none:Option Obj),true,sA P,true,laidNames.map (wW P),some (Value.ref 4),cR0 p ad)
theorem hH0{p:Program}{ad:Ad}{G1 G2:List Stmt}{d:DictStmt}{tbl:List (Int×Str)}{c:Nat}{w:World}{os:OsState}(hz:(⟨boot_heap w.params,#[],boot_drawn,boot_toks,os⟩:Shared).asleep)
  (hB:behindTheImports p=G1++d.stmt::G2) (hc:cO d.keys d.values=some tbl) (hin:incr (tbl.map Prod.fst)=true) (hlen:tbl.length≤100000) (hne:tbl≠[]) (hcc:(tbl.length+16) / 17=c) (hb3:1 < ad.b3)
  (eA:okB tyA (runA p w)=true) (H:∀p1 q tk,rJ p ad G1 G2 d c ad.b3 w p1 q tk=pP p ad ad.b3 w.params):∃s₁,Behind p ad tbl w os s₁:=by
 have h:=fun p1 q tk=>by
  have e:=H p1 q tk
  unfold rJ pP at e
  simp only[Prod.mk.injEq]at e
  exact e
 have wp:=top_wp (os:=os) G1 G2 d tbl ad.b3 hB hc (pE hin) hlen hne eA (fun p1=>(h p1 default 0).1) (fun p1=>(h p1 default 0).2.1) (fun p1=>(h p1 default 0).2.2.1) hb3 (fun p1 q tk=>by rw[hcc];exact (h p1 q tk).2.2.2.1)
 obtain⟨s₁,⟨hos,p1,q,tk,es,K,hd,hp⟩,hg,hl,hrun⟩:=fY0 hz wp
 rw[hcc]at K
 obtain⟨_,_,_,_,e5,e6,e7,e8,e9⟩:=h p1 q tk
 generalize hkk:kget (kC p w (behindTheImports p) G1 d.x d.px G2 c p1 q tk).kn=kk at *
 have hget:∀a o,kk a=some o→s₁.heap.get? a=some o:=fun a o ho=>K.kn a o (hkk▸ho)
 have h3:∃o,kk 3=some o:=by
  cases ho:kk 3 with
  |none=>rw[ho]at e8;cases e8
  |some o=>exact⟨o,rfl⟩
 obtain⟨o3,ho3⟩:=h3
 have g3:s₁.heap.get? 3=kk 3:=by rw[ho3];exact hget 3 o3 ho3
 refine⟨s₁,⟨?_,?_,?_,?_⟩,hos,hg,hl,hrun,⟨kk,e9,hget⟩,⟨es,hd,hp⟩⟩
 ·rw[← e5]
  apply List.map_congr_left
  intro a ha
  have hx:kk a∈sA w.params:=by rw[← e5];exact List.mem_map.mpr ⟨a,ha,rfl⟩
  have hs:∃o,kk a=some o:=by
   unfold sA at hx
   simp only[List.mem_cons,List.not_mem_nil,or_false]at hx
   rcases hx with h | h | h | h | h | h | h | h | h | h<;>exact⟨_,h⟩
  obtain⟨o,ho⟩:=hs
  rw[ho];exact hget a o ho
 ·rw[g3];exact e6
 ·rw[g3];exact e7
 ·rw[g3];exact e8
set_option maxHeartbeats 0
theorem hd3_ff(w:World)(p1 q:Pos)(tk:Nat):rJ p3 ad3 g13 g23 d3 39 131 (wf w false false) p1 q tk=pP p3 ad3 131 (wf w false false).params:=by kernel_rfl!
theorem hd3_ft(w:World)(p1 q:Pos)(tk:Nat):rJ p3 ad3 g13 g23 d3 39 131 (wf w false true) p1 q tk=pP p3 ad3 131 (wf w false true).params:=by kernel_rfl!
theorem hd3_tf(w:World)(p1 q:Pos)(tk:Nat):rJ p3 ad3 g13 g23 d3 39 131 (wf w true false) p1 q tk=pP p3 ad3 131 (wf w true false).params:=by kernel_rfl!
theorem hd3_tt(w:World)(p1 q:Pos)(tk:Nat):rJ p3 ad3 g13 g23 d3 39 131 (wf w true true) p1 q tk=pP p3 ad3 131 (wf w true true).params:=by kernel_rfl!
set_option maxRecDepth 100000
set_option maxHeartbeats 0
theorem q3_incr:incr (wF.map Prod.fst)=true:=by kernel_rfl!
theorem q3_ne:wF≠[]:=by
 intro h
 have:=len3
 rw[h]at this
 cases this
theorem q3_eq(w:World):∃a b,w=wf w a b:=by
 refine⟨w.params.followText "set-order",w.params.followText "special-get-raises",?_⟩
 unfold wf
 rw[World.withFollow_self,World.withFollow_self]
theorem fR0(w:World)(os:OsState)(hz:(⟨boot_heap w.params,#[],boot_drawn,boot_toks,os⟩:Shared).asleep):∃s₁,Behind p3 ad3 wF w os s₁:=by
 have hcc:(wF.length+16) / 17=39:=by rw[len3]
 have hln:wF.length≤100000:=by rw[len3];decide
 obtain⟨a,b,e⟩:=q3_eq w
 have H:∀p1 q tk,rJ p3 ad3 g13 g23 d3 39 ad3.b3 w p1 q tk=pP p3 ad3 ad3.b3 w.params:=by
  intro p1 q tk
  rw[e]
  cases a<;>cases b
  ·exact hd3_ff w p1 q tk
  ·exact hd3_ft w p1 q tk
  ·exact hd3_tf w p1 q tk
  ·exact hd3_tt w p1 q tk
 exact hH0 hz hB3 hc3 q3_incr hln q3_ne hcc (by decide) (eA3 w) H
theorem q2_dE:(cM p3 "_ellipsis_match").d=dE:=by kernel_rfl!
theorem q2_dS:(cM p3 "_law_spelled").d=dS:=by kernel_rfl!
theorem q2_dU:(cM p3 "_law_unseen").d=dU:=by kernel_rfl!
theorem q2_dI:(cM p3 "_law_images").d=dI:=by kernel_rfl!
theorem q2_dF:(cM p3 "_law_folded").d=dF:=by kernel_rfl!
theorem q2_dD:(cM p3 "_law_down").d=dD:=by kernel_rfl!
theorem q2_dT:(cM p3 "_law_taken").d=dT:=by kernel_rfl!
theorem q2_dL:(cM p3 "law").d=dL:=by kernel_rfl!
theorem vV(G:Gl)(n:Nat)(D:DefP):cU G n D=qJ G n D:=by funext args σ;exact lF ..
section
variable {kk:Nat→Option Obj}{B:Bs}
theorem sQ.self{B:Bs}{k:Nat}{f:Value}{F:Fn}(h:sQ B k f F)(x:Ext B B.h₀):FnOk B k f F:=h B.h₀ x
theorem cB0(N:Env p3 ad3 kk B T3):Ext B B.h₀:=⟨fun _ _ ho _=>ho,dN0 r3 N⟩
theorem q3_E(N:Env p3 ad3 kk B T3):FnOk B 2 (.ref 112) E3:=by
 have all:sQ B 2 (.ref 112) F3E:=fun h hx=>by
  have:=uM r3 (N.at hx) (gl0 r3 (N.at hx)) (f:="_ellipsis_match") (a:=112) (List.mem_of_getElem? (i:=2) rfl) 2000
  rw[q2_dE]at this
  rw[show F3E=qJ (G0 T3) 2000 dE from vV ..]
  exact this
 exact (lW (aT r3 N).ok all B.h₀ (cB0 N)).le (elF_le F3E)
theorem xW(N:Env p3 ad3 kk B T3):GlOk B 4 GA3 (glob (kk 3)) (glob (kk 0)):=
 gl1 r3 N (aB:=130) (aM:=176) (aE:=112) (List.mem_of_getElem? (i:=0) rfl) (List.mem_of_getElem? (i:=1) rfl) (List.mem_of_getElem? (i:=2) rfl) 50 50 50 (r3_b1 T3) (r3_b3 T3) (r3_push T3) ((q3_E N).mono (by decide)) ((popf_ok r3 N).mono (by decide))
theorem aU0(N:Env p3 ad3 kk B T3){f:Str}{a:Nat}(h:(f,a)∈ad3.tops)(n:Nat):sQ B 5 (.ref a) (cU GA3 n (cM p3 f).d):=fun hh hx=>by
 have:=uM r3 (N.at hx) (xW (N.at hx)) h n
 rw[vV]
 exact this
theorem at3(i:Nat){x:Str×Nat}(h:ad3.tops[i]?=some x):x∈ad3.tops:=List.mem_of_getElem? h
theorem tJ(k:Nat)(i:Nat){f:Str}{a:Nat}{F:Fn}(h:ad3.tops[i]?=some (f,a))(q:(f,a)∈ad3.tops→FnOk B k (.ref a) F):∃a,(f,a)∈ad3.tops∧FnOk B k (.ref a) F:=⟨a,at3 i h,q (at3 i h)⟩
theorem tZ(N:Env p3 ad3 kk B T3){f:Str}{a:Nat}(h:(f,a)∈ad3.tops):∃fd,DefAt B a fd (cM p3 f).d.names (cM p3 f).d.params (cM p3 f).d.body:=by
 have hm1:a∈ad3.tops.map (·.2):=List.mem_map.mpr ⟨_,h,rfl⟩
 have hm2:a - 1∈ad3.tops.map fun x=>x.2 - 1:=List.mem_map.mpr ⟨_,h,rfl⟩
 exact (tT r3 N h).defAt N.has (aF r3 N (List.mem_append_left _ (List.mem_append_right _ hm1))) (aF r3 N (List.mem_append_right _ hm2)) (r3.tops _ h) (r3.topsB _ h)
theorem q2_own0(N:Env p3 ad3 kk B T3):∀f F,kE spF unF f=some F→∃a,(f,a)∈ad3.tops∧FnOk B 5 (.ref a) F:=fun f F h=>by
 have ok:=(aT r3 N).ok
 have ex:=cB0 N
 rcases ite_some (show (if f="_law_spelled" then some spF else if f="_law_unseen" then some unF else none)=some F from h)with⟨hf,h⟩ | ⟨_,h⟩
 ·exact hf▸Option.some.inj h▸tJ 5 3 rfl fun m=>lW ok (q2_dS▸aU0 N m 100) B.h₀ ex
 obtain⟨hf,h⟩:=grd_some h
 exact hf▸Option.some.inj h▸tJ 5 4 rfl fun m=>lW ok (q2_dU▸aU0 N m 100) B.h₀ ex
theorem q2_g2(N:Env p3 ad3 kk B T3):GlOk B 5 (G2 T3 E3 nT (kE spF unF)) (glob (kk 3)) (glob (kk 0)):=gl2 r3 N (xW N) 5 (by decide) (q2_own0 N)
theorem q2_own2(N:Env p3 ad3 kk B T3):∀f F,own2 gT (foF T3) aG tkF f=some F→∃a,(f,a)∈ad3.tops∧FnOk B 6 (.ref a) F:=fun f F h=>by
 have ok:=(aT r3 N).ok
 have ex:=cB0 N
 rcases ite_some (show (if f="_law_images" then some gT else if f="_law_folded" then some (foF T3) else if f="_law_down" then some aG else if f="_law_taken" then some tkF else none)=some F from h)with⟨hf,h⟩ | ⟨_,h⟩
 ·refine hf▸Option.some.inj h▸tJ 6 5 rfl fun m=>?_
  obtain⟨fd,D⟩:=tZ N m
  rw[q2_dI]at D
  exact eZ0 ok (q2_g2 N) (SpOk.of T3 E3 nT) D
 rcases ite_some h with⟨hf,h⟩ | ⟨_,h⟩
 ·refine hf▸Option.some.inj h▸tJ 6 6 rfl fun m=>?_
  obtain⟨fd,D⟩:=tZ N m
  rw[q2_dF]at D
  exact (gZ0 ok (xW N) D).mono (by decide)
 rcases ite_some h with⟨hf,h⟩ | ⟨_,h⟩
 ·refine hf▸Option.some.inj h▸tJ 6 7 rfl fun m=>?_
  obtain⟨fd,D⟩:=tZ N m
  rw[q2_dD]at D
  exact (down_ok ok (xW N) D).mono (by decide)
 obtain⟨hf,h⟩:=grd_some h
 exact hf▸Option.some.inj h▸tJ 6 8 rfl fun m=>(lW ok (q2_dT▸aU0 N m 100) B.h₀ ex).mono (by decide)
theorem q3_fn(N:Env p3 ad3 kk B T3):FnOk B 7 (.ref 221) lawF:=by
 have ok:=(aT r3 N).ok
 have g2:GlOk B 6 (GL T3 eA gT (foF T3) aG tkF) (glob (kk 3)) (glob (kk 0)):=gl2 r3 N (xW N) 6 (by decide) (q2_own2 N)
 obtain⟨fd,D⟩:=tZ N (f:="law") (a:=221) (at3 9 rfl)
 rw[q2_dL]at D
 exact law_ok ok g2 (e3_ok T3) tk3 T3_ft D
end
theorem eX0:PySem.Challenge.rw_wa0042_02.wellSaid=true:=by decide+kernel
theorem law2_is:LawIs PySem.Challenge.rw_wa0042_02:=⟨rfl,rfl,rfl,rfl⟩
end Mine.Internal
set_option maxRecDepth 100000 in
set_option maxHeartbeats 0 in
theorem PySem.Challenge.cw_wa0042_02_holds : PySem.Challenge.rw_wa0042_02.Holds := by
 w_on
 refine holds_law Mine.Internal.eX0 fun said=>?_
 refine Mine.Internal.gL0 (l:=PySem.Challenge.rw_wa0042_02) Mine.Internal.law2_is (by assumption) ?prom ⟨rfl,rfl,rfl,rfl,rfl,by decide+kernel⟩ (by decide+kernel) (by decide+kernel) ?op ?fence ?thed ?nodef ?nokw ?nm Mine.Internal.r3 (aL:=221) ?hL (fun w os hz=>Mine.Internal.fR0 w os hz) (fun kk B N=>Mine.Internal.q3_fn N) fun v script hs=>Mine.Internal.law_true v script hs
 case prom=>w_witness2
 case op=>rfl
 case fence=>exact fun s=>rfl
 case thed=>kernel_rfl!
 case nodef=>kernel_rfl!
 case nokw=>kernel_rfl!
 case nm=>exact⟨by kernel_rfl!,by kernel_rfl!⟩
 case hL=>unfold Mine.Internal.ad3;simp;rfl
