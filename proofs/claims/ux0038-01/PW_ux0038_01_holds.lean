import PyProof.Rows.All
import Wide.All
import OpenK.AllK
import Wide.FinOn
import KE.KItemsList
import KE.KLam
import KE.KSortTup
import OpenK.KMake
import KE.KBoundM
import Lean
import PySem.Challenge.RW_ux0038_01
set_option maxRecDepth 100000
set_option Elab.async false
set_option autoImplicit false
set_option tactic.hygienic false
set_option genSizeOf false
set_option bootstrap.genMatcherCode false
set_option genInjectivity false
set_option linter.all false
namespace M.Internal
open PySem PySem.Calls PySem.W PyProof.Rows
noncomputable def Uj:=@wpAny_bind
noncomputable def Uk:=@wpAny_pure
noncomputable def Ul:=@Nat.le_trans
noncomputable def Um:=@Bool.and_eq_true_iff
noncomputable def Un:=@Nat.le_of_ble_eq_true
noncomputable def Uo:=@wpAny_holding
noncomputable def Up:=@Nat.le_of_eq
noncomputable def prog:Program:=PySem.Challenge.pw_ux0038_01
noncomputable def vI(w:World):Shared:=(openEnds treeTable prog w 3076).getD (start prog).1
noncomputable def LawAt(w:World):Prop:=∀ (s:Shared) (a:Addr) (vals:List Value) (script:List Int),(∀ b o,(vI w).heap.get? b=some o->s.heap.get? b=some o)->s.heap.get? a=some { cls:= .type "list",data:= .seq vals.toArray 0 }->IntsAre vals script->script.length<=63->s.gens=#[] ->
 ∀ Q:Value->Shared->Prop,(∀ s',OldK s.heap s'.heap->s'.os=s.os->AllBare s'.gens->Q (.bool true) s')->wpAny (model prog w) callerA (call (.ref 259) [.ref a]) Q (λ _ _=>False) s
noncomputable def w:World:=@Classical.epsilon World ⟨aWorld 0⟩ λ w=>¬LawAt w
theorem Ho:PySem.Challenge.rw_ux0038_01.wellSaid=true:=by
 rw [Fast.te9446332074065402090]
 kernel_rfl
theorem cP{α:Type}{M:Model}{A:Around}{t u:Sem α}{Q:α->Shared->Prop}{E:Value->Shared->Prop}{s:Shared}(e:t=u)(h:wpAny M A u Q E s):wpAny M A t Q E s:=e▸h
theorem ns{α:Type}{a:α}{G:Prop}(h:none=some a):G:=nomatch h
theorem nm{α:Type}{a:α}{G:Prop}(h:a∈([]:List α)):G:=nomatch h
theorem ft{G:Prop}(h:false=true):G:=nomatch h
noncomputable def Ok{α:Type}(o:Option α)(P:α->Prop):Prop:=∀ a,o=some a->P a
section
variable{α β:Type}{P:α->Prop}{Q:β->Prop}{o:Option α}{a:α}{c:Prop}[Decidable c]
theorem Ok.none:Ok Option.none P:=nofun
theorem Ok.some(h:P a):Ok (Option.some a) P:=λ _ e=>Option.some.inj e▸h
theorem Ok.bind{f:α->Option β}(h:Ok o P)(k:∀ a,P a->Ok (f a) Q):Ok (o.bind f) Q:=match o,h with
 | .none,_=>nofun
 | .some a,h=>k a (h a rfl)
theorem Ok.map{f:α->β}(h:Ok o P)(k:∀ a,P a->Q (f a)):Ok (o.map f) Q:=match o,h with
 | .none,_=>nofun
 | .some a,h=> .some (k a (h a rfl))
theorem Ok.mono{P':α->Prop}(h:Ok o P)(k:∀ a,P a->P' a):Ok o P':=λ a e=>k a (h a e)
theorem Ok.all{P:Prop}(h:P):Ok o λ _=>P:=λ _ _=>h
theorem Ok.ite{x y:Option α}(h:c->Ok x P)(k:¬c->Ok y P):Ok (if c then x else y) P:=by split;exact h ‹_›;exact k ‹_›
theorem Ok.ifs{x:Option α}(h:c->Ok x P):Ok (if c then x else Option.none) P:= .ite h λ _=> .none
theorem Ok.ifn{x:Option α}(h:¬c->Ok x P):Ok (if c then Option.none else x) P:= .ite (λ _=> .none) h
theorem Ok.or{x:Option α}(h:Ok o P)(k:Ok x P):Ok (o.or x) P:=match o,h with
 | .none,_=>k
 | .some a,h=> .some (h a rfl)
theorem Ok.self:Ok o λ a=>o=Option.some a:=λ _ e=>e
theorem Ok.and{a b:Bool}{x:Option α}(h:a=true->b=true->Ok x P):Ok (if (a&&b)=true then x else Option.none) P:= .ifs λ q=>h (Um.mp q).1 (Um.mp q).2
end
structure Gr(s s':Shared):Prop where
 z:s.heap.objs.size<=s'.heap.objs.size
 b:AllBare s.gens->AllBare s'.gens
theorem Gr.refl(s:Shared):Gr s s:=⟨Nat.le_refl _,id⟩
theorem Gr.trans{a b c:Shared}(h:Gr a b)(k:Gr b c):Gr a c:=⟨Ul h.z k.z,λ x=>k.b (h.b x)⟩
theorem Gr.up(s:Shared)(a:Addr)(f:Obj->Obj):Gr s { s with heap:=s.heap.update a f }:=⟨Up (Heap.SameBut.update ..).1.symm,id⟩
theorem Gr.al(s:Shared)(o:Obj):Gr s { s with heap:=s.heap.push o }:=⟨Nat.le_of_lt (by rw [Heap.size_push];exact Nat.lt_succ_self _),id⟩
theorem Gr.set(s:Shared)(g:Nat){x:GenState}(h:x.bare=true):Gr s (s.setGen g x):=⟨Nat.le_refl _,λ b y hy=>(Array.mem_or_eq_of_mem_setIfInBounds hy).elim (b y) λ e=>e▸h⟩
theorem Gr.wake{s ac:Shared}{g:Nat}{e:End}(h:Gr (s.setGen g .running) ac)(q:e.quiet=true):Gr s (ac.setGen g e.genState):=((Gr.set s g rfl).trans h).trans (.set ac g (End.bare_of_quiet q))
theorem oU{M:Model}{Γ:Ctx}{p:Pos}{t:Sem Fin}{fs:List Frame}{s s':Shared}{e:End}(h:Runs M Γ p t fs s e s'):Gr s s':=by
 induction h with
 | done | raise | yield=>exact .refl _
 | again _ _ ih | rule _ ih | «at» _ ih | load _ _ ih | loadIfAlive _ ih | point _ ih | ask _ ih | handled _ ih | genState _ _ ih | stack _ ih | thread _ ih | callSusp _ ih | resumeJustStarted _ _ _ ih | resumeRunning _ _ ih | resumeFinished _ _ ih | segSuspOut _ _ ih=>exact ih
 | fresh _ ih | choose _ _ ih | os _ ih=>exact ⟨ih.z,ih.b⟩
 | update _ _ ih=>exact (Gr.up ..).trans ih
 | alloc _ ih=>exact (Gr.al ..).trans ih
 | newGen _ ih=>exact ⟨ih.z,λ x=>ih.b (x.push rfl)⟩
 | call _ _ h k | segRet _ _ h k=>exact h.trans k
 | resumeFresh _ _ q _ h k | resumeSuspended _ _ q _ h k=>exact (h.wake q).trans k
 | resumeThrowFresh _ _ ih=>exact (Gr.set _ _ rfl).trans ih
 | segGen _ _ h k=>exact h.trans ((Gr.set _ _ rfl).trans k)
 | segSuspGen _ _ q _ h k=>exact h.trans ((Gr.set _ _ (End.bare_of_quiet q)).trans k)
theorem yg{M:Model}{Γ:Ctx}{p:Pos}{g:Nat}{r:Resume}{s s':Shared}{res:GenResult}(h:Wakes M Γ p g r s res s'):Gr s s':=by
 unfold Wakes at h
 split at h
 ·exact h.elim
 ·split at h
  ·obtain ⟨e₁,ac,hr,q,_,e⟩:=h
   exact e▸(oU hr).wake q
  ·exact h.2▸ .refl _
  ·exact h.2▸ .set _ _ rfl
 ·obtain ⟨e₁,ac,hr,q,_,e⟩:=h
  exact e▸(oU hr).wake q
 ·exact h.2▸ .refl _
 ·exact h.2▸ .refl _
theorem J9{α:Type}(M:Model)(Γ:Ctx)(aL:Shared)(t:Sem α):∀ (Q:α->Pos->Shared->Prop) (E:Value->Pos->Shared->Prop) (p:Pos) (s:Shared),Gr aL s->Sem.wp M Γ t Q E p s ->
  Sem.wp M Γ t (λ a p' s'=>Gr aL s'∧Q a p' s') E p s:=by
 induction t with
 | pure a=>exact λ Q E p s g h=>⟨g,h⟩
 | raise _ | unsupported _ | finish _ | register _ _ | yield _ _ _ _ | fork _ _ | await _ _ _ _ _=>exact λ Q E p s _ h=>h
 | rule _ k ih | point _ k ih=>exact λ Q E p s g h=>ih () Q E p s g h
 | «at» p' k ih=>exact λ Q E p s g h=>ih () Q E p' s g h
 | load a _ k ih=>exact λ Q E p s g h=>h.imp λ o h=>⟨h.1,ih o Q E p s g h.2⟩
 | update a _ f k ih=>exact λ Q E p s g h=>⟨h.1,ih () Q E p _ (g.trans (.up ..)) h.2⟩
 | loadIfAlive a k ih=>exact λ Q E p s g h=>ih _ Q E p s g h
 | alloc o k ih=>exact λ Q E p s g h=>ih _ Q E p _ (g.trans (.al ..)) h
 | fresh k ih=>exact λ Q E p s g h=>ih _ Q E p _ ⟨g.z,g.b⟩ h
 | ask k ih | stack k ih | thread k ih=>exact λ Q E p s g h=>ih _ Q E p s g h
 | handled own k ih=>exact λ Q E p s g h=>ih _ Q E p s g h
 | choose src m k ih=>exact λ Q E p s g h=>⟨h.1,ih _ Q E p _ ⟨g.z,g.b⟩ h.2⟩
 | os q _ k ih=>exact λ Q E p s g h=>ih _ Q E p _ ⟨g.z,g.b⟩ h
 | call c hd _ _ k ih=>exact λ Q E p s g h=>h.imp λ r h=>h.imp λ s' h=>⟨h.1,ih r Q E p s' (g.trans (oU h.1)) h.2⟩
 | genState g' k ih=>exact λ Q E p s g h=>h.imp λ st h=>⟨h.1,ih _ Q E p s g h.2⟩
 | newGen c k ih=>exact λ Q E p s g h=>ih _ Q E p _ ⟨g.z,λ x=>(g.b x).push rfl⟩ h
 | resume g' r _ k ih=>exact λ Q E p s g h=>h.imp λ r h=>h.imp λ s' h=>⟨h.1,ih r Q E p s' (g.trans (yg h.1)) h.2⟩
theorem qi{α:Type}{M:Model}{A:Around}{s:Shared}{t:Sem α}{Q:α->Shared->Prop}{E:Value->Shared->Prop}(h:wpAny M A t (λ a s'=>Gr s s'->Q a s') E s):wpAny M A t Q E s:=
 wpAny_mono (Q:=λ a s'=>Gr s s'∧(Gr s s'->Q a s')) (E:=E) (λ Γ p hΓ=>J9 M Γ s t _ _ p s (.refl s) (h Γ p hΓ)) (λ _ _ x=>x.2 x.1) λ _ _ x=>x
theorem b7{α:Type}{M:Model}{A:Around}{s:Shared}{t:Sem α}{Q:α->Shared->Prop}{E:Value->Shared->Prop}
  (h:wpAny M A t (λ a s'=>s.heap.objs.size<=s'.heap.objs.size->Q a s') E s):wpAny M A t Q E s:=qi (wpAny_mono h (λ _ _ x g=>x g.z) λ _ _ x=>x)
set_option genInjectivity true in
inductive D where
 | none
 | bool (b:Bool)
 | int (i:Int)
 | str (s:Str)
 | tup (ds:List D)
 | lst (ds:List D)
 | var (i:Nat)
mutual
noncomputable def den(ε:Nat->D):D->D
 | .tup ds=> .tup (dens ε ds)
 | .lst ds=> .lst (dens ε ds)
 | .var i=>ε i
 | .none=> .none
 | .bool b=> .bool b
 | .int i=> .int i
 | .str s=> .str s
noncomputable def dens(ε:Nat->D):List D->List D
 | []=>[]
 | d::ds=>den ε d::dens ε ds
end
mutual
noncomputable def gr:D->Bool
 | .tup ds=>grs ds
 | .lst ds=>grs ds
 | .var _=>false
 | _=>true
noncomputable def grs:List D->Bool
 | []=>true
 | d::ds=>gr d&&grs ds
end
mutual
theorem pQ(ε:Nat->D):∀ d:D,gr d=true->den ε d=d
 | .tup ds,h=>congrArg D.tup (dens_gr ε ds h)
 | .lst ds,h=>congrArg D.lst (dens_gr ε ds h)
 | .var _,h=>ft h
 | .none,_=>rfl
 | .bool _,_=>rfl
 | .int _,_=>rfl
 | .str _,_=>rfl
theorem dens_gr(ε:Nat->D):∀ ds:List D,grs ds=true->dens ε ds=ds
 | [],_=>rfl
 | d::ds,h=>let ⟨a,b⟩:=Um.mp h;(congrArg (·::_) (pQ ε d a)).trans (congrArg (d::·) (dens_gr ε ds b))
end
theorem dE(ε:Nat->D):∀ ds:List D,dens ε ds=ds.map (den ε)
 | []=>rfl
 | d::ds=>by rw [dens,dE ε ds];rfl
noncomputable def Gs:D->Option Bool
 | .bool b=>some b
 | _=>none
noncomputable def pA:D->Option Int
 | .int b=>some b
 | _=>none
noncomputable def iy:D->Option Str
 | .str b=>some b
 | _=>none
noncomputable def Cz:D->Option (List D)
 | .tup b=>some b
 | _=>none
noncomputable def md:D->Option (List D)
 | .lst b=>some b
 | _=>none
noncomputable def Kc:D->Option Nat
 | .var b=>some b
 | _=>none
mutual
noncomputable def EY:D->D->Bool
 | .none,b=>b.ctorIdx==0
 | .bool a,b=>(Gs b).any λ b=>a==b
 | .int a,b=>(pA b).any λ b=>a==b
 | .str a,b=>(iy b).any λ b=>a==b
 | .tup a,b=>(Cz b).any λ b=>beqDs a b
 | .lst a,b=>(md b).any λ b=>beqDs a b
 | .var a,b=>(Kc b).any λ b=>a==b
noncomputable def beqDs:List D->List D->Bool
 | [],b=>b.isEmpty
 | a::as,b=>b.head?.any (λ b=>EY a b)&&beqDs as b.tail
end
theorem Ok.any{α:Type}{o:Option α}{P:α->Prop}{f:α->Bool}(h:Ok o P)(e:o.any f=true):∃ a,P a∧f a=true:=by
 cases o with
 | none=>exact ft e
 | some a=>exact ⟨a,h a rfl,e⟩
theorem BB(b:D):Ok (Gs b) λ x=>b= .bool x:=by cases b<;>first | exact .none | exact .some rfl
theorem dS(b:D):Ok (pA b) λ x=>b= .int x:=by cases b<;>first | exact .none | exact .some rfl
theorem cR(b:D):Ok (iy b) λ x=>b= .str x:=by cases b<;>first | exact .none | exact .some rfl
theorem Cy(b:D):Ok (Cz b) λ x=>b= .tup x:=by cases b<;>first | exact .none | exact .some rfl
theorem cV(b:D):Ok (md b) λ x=>b= .lst x:=by cases b<;>first | exact .none | exact .some rfl
theorem Ct(b:D):Ok (Kc b) λ x=>b= .var x:=by cases b<;>first | exact .none | exact .some rfl
theorem lr{α:Type}[BEq α][LawfulBEq α]{o:Option α}{x:α}{d:D}{f:α->D}(h:Ok o λ y=>d=f y)(e:(o.any λ y=>x==y)=true):f x=d:=let ⟨_,e,q⟩:=h.any e;eq_of_beq q▸e.symm
mutual
theorem pZ:∀ a b:D,EY a b=true->a=b
 | .none,b,h=>by cases b<;>first | rfl | exact ft h
 | .bool a,b,h=>lr (BB b) h
 | .int a,b,h=>lr (dS b) h
 | .str a,b,h=>lr (cR b) h
 | .tup a,b,h=>let ⟨c,e,q⟩:=(Cy b).any h;(beqDs_eq a c q)▸e.symm
 | .lst a,b,h=>let ⟨c,e,q⟩:=(cV b).any h;(beqDs_eq a c q)▸e.symm
 | .var a,b,h=>lr (Ct b) h
theorem beqDs_eq:∀ a b:List D,beqDs a b=true->a=b
 | [],b,h=>by cases b<;>first | rfl | exact ft h
 | a::as,b,h=>by
  cases b with
  | nil=>exact ft h
  | cons b bs=>
   obtain ⟨h1,h2⟩:=Um.mp h
   rw [pZ a b h1,beqDs_eq as bs h2]
end
structure Fz where
 en:Nat->D
 fs:List (Addr×Obj)
structure Fz.le(F F':Fz):Prop where
 en:F'.en=F.en
 fs:F.fs⊆F'.fs
theorem Fz.le.refl(F:Fz):F.le F:=⟨rfl,λ _ h=>h⟩
theorem Fz.le.trans{a b c:Fz}(x:a.le b)(y:b.le c):a.le c:=⟨y.en.trans x.en,λ _ h=>y.fs (x.fs h)⟩
inductive V where
 | d (d:D)
 | glob (v:Value)
 | ref (i:Nat)
 | tup (vs:List V)
 | rcd (c:String) (vs:List V)
noncomputable abbrev aF(c:String)(xs:List Value)(n:Nat):Obj:={ cls:= .type c,data:= .seq xs.toArray n }
noncomputable abbrev cA(c:String)(xs:List Value):Obj:={ cls:= .type c,data:= .fields xs.toArray }
structure Tb where
 t:Array Value
 os:OsState
structure Wd where
 ρ:List Addr
 F:Fz
 pv:List (Addr×Obj)
 gg:List (Nat×GenState)
 tb:Tb
mutual
inductive DV(F:List (Addr×Obj)):D->Value->Prop
 | none:DV F .none .none
 | bool (b:Bool):DV F (.bool b) (.bool b)
 | int (i:Int) (t:Tok):DV F (.int i) (.int i t)
 | str (s:Str) (t:Tok):DV F (.str s) (.str s t)
 | tup (ds:List D) (xs:List Value) (a:Addr) (n:Nat):(a,aF "tuple" xs n)∈F->DVs F ds xs->DV F (.tup ds) (.ref a)
 | lst (ds:List D) (xs:List Value) (a:Addr) (n:Nat):(a,aF "list" xs n)∈F->DVs F ds xs->DV F (.lst ds) (.ref a)
inductive DVs(F:List (Addr×Obj)):List D->List Value->Prop
 | nil:DVs F [] []
 | cons (v:D) (x:Value) (vs:List D) (xs:List Value):DV F v x->DVs F vs xs->DVs F (v::vs) (x::xs)
end
mutual
inductive VR(ρ:List Addr)(F:Fz):V->Value->Prop
 | d (d:D) (x:Value):DV F.fs (den F.en d) x->VR ρ F (.d d) x
 | glob (v:Value):VR ρ F (.glob v) v
 | ref (i:Nat) (a:Addr):ρ[i]?=some a->VR ρ F (.ref i) (.ref a)
 | tup (vs:List V) (xs:List Value) (a:Addr) (n:Nat):(a,aF "tuple" xs n)∈F.fs->VRs ρ F vs xs->VR ρ F (.tup vs) (.ref a)
 | rcd (c:String) (vs:List V) (xs:List Value) (a:Addr):(a,cA c xs)∈F.fs->VRs ρ F vs xs->VR ρ F (.rcd c vs) (.ref a)
inductive VRs(ρ:List Addr)(F:Fz):List V->List Value->Prop
 | nil:VRs ρ F [] []
 | cons (v:V) (x:Value) (vs:List V) (xs:List Value):VR ρ F v x->VRs ρ F vs xs->VRs ρ F (v::vs) (x::xs)
end
inductive NE(ρ:List Addr)(i:Nat)(x:Value):Prop
 | mk (a:Addr) (h:ρ[i]?=some a) (e: .ref a=x)
inductive Fo(c:String)(fs:List (Addr×Obj))(R:List Value->Prop)(x:Value):Prop
 | mk (xs:List Value) (a:Addr) (n:Nat) (m:(a,aF c xs n)∈fs) (h:R xs) (e: .ref a=x)
inductive NF(c:String)(fs:List (Addr×Obj))(R:List Value->Prop)(x:Value):Prop
 | mk (xs:List Value) (a:Addr) (m:(a,cA c xs)∈fs) (h:R xs) (e: .ref a=x)
inductive oh{α:Type}(A:α->Prop)(B:List α->Prop)(xs:List α):Prop
 | mk (x:α) (ys:List α) (h:A x) (t:B ys) (e:x::ys=xs)
noncomputable def SH(F:List (Addr×Obj)):D->Value->Prop
 | .none,x=> .none=x
 | .bool b,x=> .bool b=x
 | .int i,x=>∃ t,.int i t=x
 | .str s,x=>∃ t,.str s t=x
 | .tup ds,x=>Fo "tuple" F (DVs F ds) x
 | .lst ds,x=>Fo "list" F (DVs F ds) x
 | .var _,_=>False
noncomputable def NS(F:List (Addr×Obj)):List D->List Value->Prop
 | [],xs=>[]=xs
 | d::ds,xs=>oh (DV F d) (DVs F ds) xs
theorem DV.inv{F}{d:D}{x:Value}(h:DV F d x):SH F d x:=DV.casesOn (motive_1:=λ d x _=>SH F d x) h rfl (λ _=>rfl) (λ _ t=>⟨t,rfl⟩) (λ _ t=>⟨t,rfl⟩) (λ _ xs a n m h=>⟨xs,a,n,m,h,rfl⟩) (λ _ xs a n m h=>⟨xs,a,n,m,h,rfl⟩)
theorem DVs.inv{F}{ds:List D}{xs:List Value}(h:DVs F ds xs):NS F ds xs:=DVs.casesOn (motive_2:=λ d x _=>NS F d x) h rfl λ _ x _ xs h t=>⟨x,xs,h,t,rfl⟩
noncomputable def Sr(ρ:List Addr)(F:Fz):V->Value->Prop
 | .d d,x=>DV F.fs (den F.en d) x
 | .glob v,x=>v=x
 | .ref i,x=>NE ρ i x
 | .tup vs,x=>Fo "tuple" F.fs (VRs ρ F vs) x
 | .rcd c vs,x=>NF c F.fs (VRs ρ F vs) x
noncomputable def Nk(ρ:List Addr)(F:Fz):List V->List Value->Prop
 | [],xs=>[]=xs
 | v::vs,xs=>oh (VR ρ F v) (VRs ρ F vs) xs
theorem VR.inv{ρ F}{v:V}{x:Value}(h:VR ρ F v x):Sr ρ F v x:=VR.casesOn (motive_1:=λ v x _=>Sr ρ F v x) h (λ _ _ h=>h) (λ _=>rfl) (λ _ a e=>⟨a,e,rfl⟩) (λ _ xs a n m hs=>⟨xs,a,n,m,hs,rfl⟩) (λ _ _ xs a m hs=>⟨xs,a,m,hs,rfl⟩)
theorem VRs.inv{ρ F}{vs:List V}{xs:List Value}(h:VRs ρ F vs xs):Nk ρ F vs xs:=VRs.casesOn (motive_2:=λ v x _=>Nk ρ F v x) h rfl λ _ x _ xs h hs=>⟨x,xs,h,hs,rfl⟩
theorem VR.none{ρ F}{x:Value}(h:VR ρ F (.d .none) x):x= .none:=Eq.symm (DV.inv h.inv)
theorem VR.bool{ρ F}{b:Bool}{x:Value}(h:VR ρ F (.d (.bool b)) x):x= .bool b:=Eq.symm (DV.inv h.inv)
theorem VR.int{ρ F}{i:Int}{x:Value}(h:VR ρ F (.d (.int i)) x):∃ t,x= .int i t:=let ⟨t,e⟩:=DV.inv h.inv;⟨t,e.symm⟩
theorem VR.str{ρ F}{i:Str}{x:Value}(h:VR ρ F (.d (.str i)) x):∃ t,x= .str i t:=let ⟨t,e⟩:=DV.inv h.inv;⟨t,e.symm⟩
theorem VR.mkNone{ρ F}:VR ρ F (.d .none) .none:= .d _ _ .none
theorem VR.mkBool{ρ F}(b:Bool):VR ρ F (.d (.bool b)) (.bool b):= .d _ _ (.bool b)
theorem VR.mkInt{ρ F}(i:Int)(t:Tok):VR ρ F (.d (.int i)) (.int i t):= .d _ _ (.int i t)
theorem VR.mkStr{ρ F}(i:Str)(t:Tok):VR ρ F (.d (.str i)) (.str i t):= .d _ _ (.str i t)
structure Wd.le(W W':Wd):Prop where
 rho:W.ρ <+: W'.ρ
 fz:W.F.le W'.F
 pv:W'.pv=W.pv
 gg:W'.gg=W.gg
 tb:W'.tb.os=W.tb.os
theorem bF{ρ ρ':List Addr}(h:ρ <+: ρ'){i:Nat}{a:Addr}(e:ρ[i]?=some a):ρ'[i]?=some a:=by
 obtain ⟨t,rfl⟩:=h
 rw [List.getElem?_append_left (List.getElem?_eq_some_iff.mp e).1];exact e
section
variable{F F':List (Addr×Obj)}
theorem DV.mono(hf:F⊆F'){v:D}{x:Value}(h:DV F v x):DV F' v x:=
 DV.rec (motive_1:=λ v x _=>DV F' v x) (motive_2:=λ v x _=>DVs F' v x) .none .bool .int .str (λ vs xs a n h _ k=> .tup vs xs a n (hf h) k) (λ vs xs a n h _ k=> .lst vs xs a n (hf h) k) .nil (λ v x vs xs _ _ h k=> .cons v x vs xs h k) h
theorem DVs.ind{P:List D->List Value->Prop}(n:P [] [])(c:∀ v x vs xs,DV F v x->DVs F vs xs->P vs xs->P (v::vs) (x::xs)){vs:List D}{xs:List Value}(h:DVs F vs xs):P vs xs:=
 DVs.rec (motive_1:=λ _ _ _=>True) (motive_2:=λ v x _=>P v x) trivial (λ _=>trivial) (λ _ _=>trivial) (λ _ _=>trivial) (λ _ _ _ _ _ _ _=>trivial) (λ _ _ _ _ _ _ _=>trivial) n (λ v x vs xs h hs _ k=>c v x vs xs h hs k) h
theorem DVs.mono(hf:F⊆F'){vs:List D}{xs:List Value}(h:DVs F vs xs):DVs F' vs xs:=h.ind .nil λ v x vs xs h _ k=> .cons v x vs xs (h.mono hf) k
theorem DVs.length{vs:List D}{xs:List Value}(h:DVs F vs xs):vs.length=xs.length:=h.ind (P:=λ vs xs=>vs.length=xs.length) rfl λ _ _ _ _ _ _ k=>congrArg Nat.succ k
theorem DVs.get{vs:List D}{xs:List Value}(h:DVs F vs xs):∀ {i:Nat} {v:D},vs[i]?=some v->∃ x,xs[i]?=some x∧DV F v x:=
 h.ind (P:=λ vs xs=>∀ {i:Nat} {v:D},vs[i]?=some v->∃ x,xs[i]?=some x∧DV F v x) (λ e=>ns e) λ v x vs xs h _ k {i} u e=>by
  cases i with
  | zero=>exact ⟨x,rfl,Option.some.inj e▸h⟩
  | succ i=>exact k (i:=i) e
theorem DVs.append{vs vs':List D}{xs xs':List Value}(h:DVs F vs xs)(h':DVs F vs' xs'):DVs F (vs++vs') (xs++xs'):=
 h.ind (P:=λ vs xs=>DVs F (vs++vs') (xs++xs')) h' λ v x _ _ h _ k=> .cons v x _ _ h k
end
section
variable{ρ ρ':List Addr}{F F':Fz}
theorem VR.dmono(hf:F.le F'){d:D}{x:Value}(h:DV F.fs (den F.en d) x):DV F'.fs (den F'.en d) x:=hf.en▸h.mono hf.fs
theorem VR.mono(hr:ρ <+: ρ')(hf:F.le F'){v:V}{x:Value}(h:VR ρ F v x):VR ρ' F' v x:=
 VR.rec (motive_1:=λ v x _=>VR ρ' F' v x) (motive_2:=λ v x _=>VRs ρ' F' v x) (λ d x h=> .d d x (VR.dmono hf h)) .glob (λ i a h=> .ref i a (bF hr h)) (λ vs xs a n h _ k=> .tup vs xs a n (hf.fs h) k) (λ c vs xs a h _ k=> .rcd c vs xs a (hf.fs h) k) .nil (λ v x vs xs _ _ h k=> .cons v x vs xs h k) h
theorem VRs.ind{P:List V->List Value->Prop}(n:P [] [])(c:∀ v x vs xs,VR ρ F v x->VRs ρ F vs xs->P vs xs->P (v::vs) (x::xs)){vs:List V}{xs:List Value}(h:VRs ρ F vs xs):P vs xs:=
 VRs.rec (motive_1:=λ _ _ _=>True) (motive_2:=λ v x _=>P v x) (λ _ _ _=>trivial) (λ _=>trivial) (λ _ _ _=>trivial) (λ _ _ _ _ _ _ _=>trivial) (λ _ _ _ _ _ _ _=>trivial) n (λ v x vs xs h hs _ k=>c v x vs xs h hs k) h
theorem VRs.mono(hr:ρ <+: ρ')(hf:F.le F'){vs:List V}{xs:List Value}(h:VRs ρ F vs xs):VRs ρ' F' vs xs:=h.ind .nil λ v x vs xs h _ k=> .cons v x vs xs (h.mono hr hf) k
theorem VRs.length{vs:List V}{xs:List Value}(h:VRs ρ F vs xs):vs.length=xs.length:=h.ind (P:=λ vs xs=>vs.length=xs.length) rfl λ _ _ _ _ _ _ k=>congrArg Nat.succ k
theorem VRs.get{vs:List V}{xs:List Value}(h:VRs ρ F vs xs):∀ {i:Nat} {v:V},vs[i]?=some v->∃ x,xs[i]?=some x∧VR ρ F v x:=
 h.ind (P:=λ vs xs=>∀ {i:Nat} {v:V},vs[i]?=some v->∃ x,xs[i]?=some x∧VR ρ F v x) (λ e=>ns e) λ v x vs xs h _ k {i} u e=>by
  cases i with
  | zero=>exact ⟨x,rfl,Option.some.inj e▸h⟩
  | succ i=>exact k (i:=i) e
theorem VRs.append{vs vs':List V}{xs xs':List Value}(h:VRs ρ F vs xs)(h':VRs ρ F vs' xs'):VRs ρ F (vs++vs') (xs++xs'):=
 h.ind (P:=λ vs xs=>VRs ρ F (vs++vs') (xs++xs')) h' λ v x _ _ h _ k=> .cons v x _ _ h k
theorem DVs.toVRs{vs:List D}{xs:List Value}(h:DVs F.fs (dens F.en vs) xs):VRs ρ F (vs.map .d) xs:=by
 induction vs generalizing xs with
 | nil=>exact (show []=xs from h.inv)▸ .nil
 | cons d ds ih=>exact let ⟨x,ys,h,t,e⟩:=h.inv;e▸ .cons _ x _ ys (.d d x h) (ih t)
end
inductive AD where
 | seq (vs:List V)
 | dseq (d:D)
 | fro (d:D)
 | fields (vs:List V)
 | dict (m:List (Str×V))
 | cell (v:Option V)
 | plain
 | sset (l:List Str)
noncomputable def AD.isFro:AD->Bool
 | .fro _=>true
 | _=>false
set_option genInjectivity true in
structure AO where
 cls:Value
 dict:Option Nat:=none
 data:AD
noncomputable def cg(P:Params)(s:Str):Int:=if s.cps.isEmpty then 0 else reduceHash (P.strHash s.cps)
inductive ER(P:Params)(ρ:List Addr)(F:Fz):List (Str×V)->List DictEntry->Prop
 | nil:ER P ρ F [] []
 | cons (k:Str) (v:V) (t:Tok) (x:Value) (m:List (Str×V)) (es:List DictEntry):VR ρ F v x->ER P ρ F m es->ER P ρ F ((k,v)::m) (⟨cg P k,.str k t,x⟩::es)
inductive NH(P:Params)(ρ:List Addr)(F:Fz)(k:Str)(v:V)(m:List (Str×V))(es:List DictEntry):Prop
 | mk (t:Tok) (x:Value) (ys:List DictEntry) (h:VR ρ F v x) (hs:ER P ρ F m ys) (e:⟨cg P k,.str k t,x⟩::ys=es)
noncomputable def Sz(P:Params)(ρ:List Addr)(F:Fz):List (Str×V)->List DictEntry->Prop
 | [],es=>[]=es
 | p::m,es=>NH P ρ F p.1 p.2 m es
theorem ER.inv{P ρ F m es}(h:ER P ρ F m es):Sz P ρ F m es:=ER.casesOn (motive:=λ m es _=>Sz P ρ F m es) h rfl λ _ _ t x _ es h hs=>⟨t,x,es,h,hs,rfl⟩
theorem ER.mono{P ρ ρ'}{F F':Fz}(hr:ρ <+: ρ')(hf:F.le F'){m es}(h:ER P ρ F m es):ER P ρ' F' m es:=ER.rec (motive:=λ m es _=>ER P ρ' F' m es) .nil (λ k v t x m es h _ k'=> .cons k v t x m es (h.mono hr hf) k') h
noncomputable def cF(P:Params)(l:List Str)(d:Data):Prop:=∃ (es:Array (Int×Value)) (n:Nat) (t:SetTable) (lt:List (Str×Tok)),d= .set es n t∧t.fits es.size=true∧es.size<scanBound∧es.toList=lt.map (λ p=>(cg P p.1,Value.str p.1 p.2))∧(lt.map (·.1)).Perm l∧(lt≠[]->t.plain=false)
inductive DR(P:Params)(ρ:List Addr)(F:Fz):AD->Data->Prop
 | seq (vs:List V) (xs:List Value) (n:Nat):VRs ρ F vs xs->DR P ρ F (.seq vs) (.seq xs.toArray n)
 | dseq (d:D) (ds:List D) (xs:List Value) (n:Nat):den F.en d= .lst ds->DVs F.fs ds xs->DR P ρ F (.dseq d) (.seq xs.toArray n)
 | fro (d:D) (ds:List D) (xs:List Value) (n:Nat):den F.en d= .lst ds->DVs F.fs ds xs->DR P ρ F (.fro d) (.seq xs.toArray n)
 | fields (vs:List V) (xs:List Value):VRs ρ F vs xs->DR P ρ F (.fields vs) (.fields xs.toArray)
 | dict (m:List (Str×V)) (es:List DictEntry) (n:Nat):ER P ρ F m es->DR P ρ F (.dict m) (.dict es.toArray n)
 | cell0:DR P ρ F (.cell none) (.cell none)
 | cell1 (v:V) (x:Value):VR ρ F v x->DR P ρ F (.cell (some v)) (.cell (some x))
 | plain:DR P ρ F .plain .plain
 | sset (l:List Str) (d:Data):cF P l d->DR P ρ F (.sset l) d
theorem DR.mono{P ρ ρ'}{F F':Fz}(hr:ρ <+: ρ')(hf:F.le F'){d:AD}{x:Data}(h:DR P ρ F d x):DR P ρ' F' d x:=
 DR.casesOn (motive:=λ d x _=>DR P ρ' F' d x) h (λ vs xs n h=> .seq vs xs n (h.mono hr hf)) (λ d ds xs n e h=> .dseq d ds xs n (hf.en▸e) (h.mono hf.fs)) (λ d ds xs n e h=> .fro d ds xs n (hf.en▸e) (h.mono hf.fs)) (λ vs xs h=> .fields vs xs (h.mono hr hf)) (λ m es n h=> .dict m es n (h.mono hr hf))
  .cell0 (λ v x h=> .cell1 v x (h.mono hr hf)) .plain λ l _ h=> .sset l _ h
inductive NJ(mk:Array Value->Data)(R:List Value->Prop)(x:Data):Prop
 | mk (xs:List Value) (h:R xs) (e:mk xs.toArray=x)
inductive Sw(R:List Value->Prop)(x:Data):Prop
 | mk (xs:List Value) (n:Nat) (h:R xs) (e: .seq xs.toArray n=x)
inductive OG(F:Fz)(d:D)(x:Data):Prop
 | mk (ds:List D) (xs:List Value) (n:Nat) (ed:den F.en d= .lst ds) (h:DVs F.fs ds xs) (e: .seq xs.toArray n=x)
inductive NI(R:List DictEntry->Prop)(x:Data):Prop
 | mk (es:List DictEntry) (n:Nat) (h:R es) (e: .dict es.toArray n=x)
noncomputable def SI(P:Params)(ρ:List Addr)(F:Fz):AD->Data->Prop
 | .seq vs,x=>Sw (VRs ρ F vs) x
 | .dseq d,x=>OG F d x
 | .fro d,x=>OG F d x
 | .fields vs,x=>NJ .fields (VRs ρ F vs) x
 | .dict m,x=>NI (ER P ρ F m) x
 | .cell none,x=> .cell none=x
 | .cell (some v),x=>∃ y,VR ρ F v y∧ .cell (some y)=x
 | .plain,x=> .plain=x
 | .sset l,x=>cF P l x
theorem DR.inv{P ρ F}{d:AD}{x:Data}(h:DR P ρ F d x):SI P ρ F d x:=
 DR.casesOn (motive:=λ d x _=>SI P ρ F d x) h (λ _ xs n h=>⟨xs,n,h,rfl⟩) (λ _ ds xs n e h=>⟨ds,xs,n,e,h,rfl⟩) (λ _ ds xs n e h=>⟨ds,xs,n,e,h,rfl⟩) (λ _ xs h=>⟨xs,h,rfl⟩) (λ _ es n h=>⟨es,n,h,rfl⟩) rfl (λ _ x h=>⟨x,h,rfl⟩) rfl λ _ _ h=>h
inductive DO(ρ:List Addr):Option Nat->Option Addr->Prop
 | none:DO ρ none none
 | some (i:Nat) (a:Addr):ρ[i]?=some a->DO ρ (some i) (some a)
theorem DO.mono{ρ ρ':List Addr}(hr:ρ <+: ρ'){d:Option Nat}{x:Option Addr}(h:DO ρ d x):DO ρ' d x:=DO.casesOn (motive:=λ d x _=>DO ρ' d x) h .none λ i a h=> .some i a (bF hr h)
noncomputable def SJ(ρ:List Addr):Option Nat->Option Addr->Prop
 | none,x=>none=x
 | some i,x=>∃ a,ρ[i]?=some a∧some a=x
theorem DO.inv{ρ:List Addr}{d:Option Nat}{x:Option Addr}(h:DO ρ d x):SJ ρ d x:=DO.casesOn (motive:=λ d x _=>SJ ρ d x) h rfl λ _ a h=>⟨a,h,rfl⟩
inductive OR(P:Params)(ρ:List Addr)(F:Fz):AO->Obj->Prop
 | mk (c:Value) (d:Option Nat) (dx:Option Addr) (ad:AD) (x:Data):DO ρ d dx->DR P ρ F ad x->OR P ρ F ⟨c,d,ad⟩ ⟨c,dx,x,#[]⟩
theorem OR.mono{P ρ ρ'}{F F':Fz}(hr:ρ <+: ρ')(hf:F.le F'){a o}(h:OR P ρ F a o):OR P ρ' F' a o:=OR.casesOn (motive:=λ a o _=>OR P ρ' F' a o) h λ c d dx ad x h1 h2=> .mk c d dx ad x (h1.mono hr) (h2.mono hr hf)
inductive Sx(P:Params)(ρ:List Addr)(F:Fz)(ao:AO)(o:Obj):Prop
 | mk (dx:Option Addr) (x:Data) (d:DO ρ ao.dict dx) (r:DR P ρ F ao.data x) (e:⟨ao.cls,dx,x,#[]⟩=o)
theorem OR.inv{P ρ F ao o}(h:OR P ρ F ao o):Sx P ρ F ao o:=OR.casesOn (motive:=λ ao o _=>Sx P ρ F ao o) h λ _ _ dx _ x h1 h2=>⟨dx,x,h1,h2,rfl⟩
noncomputable abbrev b8:Addr:=8
inductive dI(P:Params)(ρ:List Addr)(F:Fz)(h:Heap)(a:Addr)(ao:AO):Prop
 | mk (o:Obj) (ho:h.get? a=some o) (r:OR P ρ F ao o) (f:ao.data.isFro=true->∃ o',(a,o')∈F.fs) (n:ao.data.isFro=false->∀ q∈F.fs,q.1≠a)
structure ae(P:Params)(h₀:Heap)(W:Wd)(objs:List (Option AO))(s:Shared):Prop where
 len:objs.length=W.ρ.length
 nod:W.ρ.Nodup
 fr:∀ a∈W.ρ,h₀.get? a=none
 lt:∀ a∈W.ρ,a<s.heap.objs.size
 fz:∀ p∈W.F.fs,s.heap.get? p.1=some p.2∧h₀.get? p.1=none
 pv:∀ p∈W.pv,s.heap.get? p.1=some p.2∧p.1∉W.ρ∧h₀.get? p.1=none∧∀ q∈W.F.fs,q.1≠p.1
 gg:∀ x∈W.gg,s.gens[x.1]?=some x.2
 slot:∀ (i:Nat) (ao:AO) (a:Addr),objs[i]?=some (some ao)->W.ρ[i]?=some a->dI P W.ρ W.F s.heap a ao
 old:∀ b o,h₀.get? b=some o->b≠b8->s.heap.get? b=some o
 tab:s.heap.get? b8=some (PySem.W.X.tableObj W.tb.t)∧(∃ o,h₀.get? b8=some o)∧s.os=W.tb.os
theorem kW{α:Type}{l:List (Option α)}{i j:Nat}{x:Option α}{y:α}(h:(l.set i x)[j]?=some (some y)):(j=i∧x=some y)∨(j≠i∧l[j]?=some (some y)):=by
 by_cases q:j=i
 ·subst q
  rw [List.getElem?_set_self (Nat.lt_of_lt_of_eq (List.getElem?_eq_some_iff.mp h).1 List.length_set)] at h
  exact .inl ⟨rfl,Option.some.inj h⟩
 ·exact .inr ⟨q,(List.getElem?_set_ne (λ e=>q e.symm)).symm.trans h⟩
theorem wj{α:Type}{l:List α}{j:Nat}{x y:α}(h:(l++[x])[j]?=some y):(j=l.length∧x=y)∨l[j]?=some y:=by
 by_cases q:j<l.length
 ·exact .inr ((List.getElem?_append_left q).symm.trans h)
 ·have hl:=Nat.lt_of_lt_of_eq (List.getElem?_eq_some_iff.mp h).1 List.length_append
  have e:j=l.length:=Nat.le_antisymm (Nat.le_of_lt_succ hl) (Nat.le_of_not_lt q)
  subst e
  exact .inl ⟨rfl,Option.some.inj (List.getElem?_concat_length.symm.trans h)⟩
theorem p6{ρ:List Addr}{a b:Addr}{P:Prop}(h:b∈ρ++[a])(l:b∈ρ->P)(r:b=a->P):P:=(List.mem_append.mp h).elim l λ h=>r (List.mem_singleton.mp h)
section
variable{P:Params}{h₀:Heap}{W W':Wd}{objs:List (Option AO)}{s:Shared}{h h':Heap}{a:Addr}{ao:AO}
theorem dI.to{ρ ρ':List Addr}{F F':Fz}(S:dI P ρ F h a ao)(hr:ρ <+: ρ')(hf:F.le F')(k:∀ o,h.get? a=some o->h'.get? a=some o)(d:∀ q∈F'.fs,q∈F.fs∨q.1≠a):dI P ρ' F' h' a ao:=
 let ⟨o,ho,r,f,n⟩:=S
 ⟨o,k o ho,r.mono hr hf,λ e=>let ⟨o',q⟩:=f e;⟨o',hf.fs q⟩,λ e q hq=>(d q hq).elim (n e q) id⟩
theorem dI.in{ρ:List Addr}{F:Fz}(S:dI P ρ F h a ao)(k:∀ o,h.get? a=some o->h'.get? a=some o):dI P ρ F h' a ao:=S.to (List.prefix_refl _) (.refl _) k λ _=> .inl
theorem dI.ne{ρ:List Addr}{F:Fz}(S:dI P ρ F h a ao)(hnf:ao.data.isFro=false){q:Addr×Obj}(hq:q∈F.fs):q.1≠a:=let ⟨_,_,_,_,n⟩:=S;n hnf q hq
theorem ae.obj(R:ae P h₀ W objs s)(i:Nat)(ao:AO)(h:objs[i]?=some (some ao)):∃ a o,W.ρ[i]?=some a∧s.heap.get? a=some o∧OR P W.ρ W.F ao o:=
 have e:=List.getElem?_eq_getElem (Nat.lt_of_lt_of_eq (List.getElem?_eq_some_iff.mp h).1 R.len)
 let ⟨o,ho,r,_,_⟩:=R.slot i ao _ h e
 ⟨_,o,e,ho,r⟩
theorem ae.old'(R:ae P h₀ W objs s){b:Addr}{o:Obj}(e:h₀.get? b=some o):∃ o',s.heap.get? b=some o':=by
 by_cases hb:b=b8
 ·subst hb;exact ⟨_,R.tab.1⟩
 ·exact ⟨o,R.old b o e hb⟩
theorem ae.no_old(R:ae P h₀ W objs s)(hn:s.heap.get? a=none):h₀.get? a=none:=by
 cases q:h₀.get? a with
 | none=>rfl
 | some o=>obtain ⟨o',e⟩:=R.old' q;exact ns (hn.symm.trans e)
theorem ae.new_none(R:ae P h₀ W objs s):h₀.get? s.heap.objs.size=none:=R.no_old (Heap.get?_none_of_le (Nat.le_refl _))
theorem ae.new_rho(R:ae P h₀ W objs s):s.heap.objs.size∉W.ρ:=λ hm=>absurd (R.lt _ hm) (Nat.lt_irrefl _)
theorem ae.tab_ne(R:ae P h₀ W objs s)(ha:a∈W.ρ):b8≠a:=λ q=>by
 obtain ⟨o',e⟩:=R.tab.2.1
 subst q
 exact ns ((R.fr _ ha).symm.trans e)
theorem ae.ext(R:ae P h₀ W objs s){tk:Nat}(hz:s.heap.objs.size<=h'.objs.size)(k:∀ b o,s.heap.get? b=some o->h'.get? b=some o):ae P h₀ W objs { s with heap:=h',toks:=tk }:=
 ⟨R.len,R.nod,R.fr,λ a ha=>Nat.lt_of_lt_of_le (R.lt a ha) hz,λ p hp=>⟨k _ _ (R.fz p hp).1,(R.fz p hp).2⟩,
  λ p hp=>⟨k _ _ (R.pv p hp).1,(R.pv p hp).2⟩,R.gg,λ i ao a h e=>(R.slot i ao a h e).in (k a),λ b o e hb=>k _ _ (R.old b o e hb),k _ _ R.tab.1,R.tab.2⟩
theorem ae.toks(R:ae P h₀ W objs s)(tk:Nat):ae P h₀ W objs { s with toks:=tk }:=R.ext (h':=s.heap) (Nat.le_refl _) λ _ _ e=>e
theorem ae.inj(R:ae P h₀ W objs s){i j:Nat}{a:Addr}(e1:W.ρ[j]?=some a)(e2:W.ρ[i]?=some a):j=i:=by
 obtain ⟨l1,h1⟩:=List.getElem?_eq_some_iff.mp e1
 obtain ⟨l2,h2⟩:=List.getElem?_eq_some_iff.mp e2
 have hp:=List.pairwise_iff_getElem.mp R.nod
 rcases Nat.lt_trichotomy j i with lt | eq | gt
 ·exact absurd (h1.trans h2.symm) (hp j i l1 l2 lt)
 ·exact eq
 ·exact absurd (h2.trans h1.symm) (hp i j l2 l1 gt)
theorem ae.turn(R:ae P h₀ W objs s){i:Nat}(hi:W.ρ[i]?=some a)(hlv:∃ cM,objs[i]?=some (some cM)∧cM.data.isFro=false){tk:Nat}(hz:s.heap.objs.size<=h'.objs.size)(k:Heap.ExtBut a s.heap h'){x:Option AO}(hx:∀ ao,x=some ao->ao.data.isFro=false∧∃ o,h'.get? a=some o∧OR P W.ρ W.F ao o) :
  ae P h₀ W (objs.set i x) { s with heap:=h',toks:=tk }:=by
 have ha:a∈W.ρ:=List.mem_of_getElem? hi
 obtain ⟨cM,h0,h1⟩:=hlv
 have hne:∀ {q},q∈W.F.fs->q.1≠a:=λ hq=>(R.slot i cM a h0 hi).ne h1 hq
 refine ⟨List.length_set.trans R.len,R.nod,R.fr,λ b hb=>Nat.lt_of_lt_of_le (R.lt b hb) hz,λ p hp=>⟨k _ _ (hne hp) (R.fz p hp).1,(R.fz p hp).2⟩,λ p hp=>⟨k _ _ (λ q=>(R.pv p hp).2.1 (q▸ha)) (R.pv p hp).1,(R.pv p hp).2⟩,R.gg,λ j bo b hj hb=>?_,
  λ b o e hb=>k _ _ (λ q=>ns ((R.fr a ha).symm.trans (q▸e))) (R.old b o e hb),k _ _ (R.tab_ne ha) R.tab.1,R.tab.2⟩
 rcases kW hj with ⟨q,e⟩ | ⟨q,hj⟩
 ·subst q
  have e':a=b:=Option.some.inj (hi.symm.trans hb)
  subst e'
  obtain ⟨hf,o,ho,r⟩:=hx bo e
  exact ⟨o,ho,r,λ e=>ft (hf.symm.trans e),λ _ q hq=>hne hq⟩
 ·exact (R.slot j bo b hj hb).in λ o=>k _ _ λ z=>q (R.inj (z▸hb) hi)
theorem ae.upd(R:ae P h₀ W objs s){i:Nat}{a:Addr}(hi:W.ρ[i]?=some a)(hlv:∃ cM,objs[i]?=some (some cM)∧cM.data.isFro=false){h':Heap}{tk:Nat}(hz:s.heap.objs.size<=h'.objs.size)(k:Heap.ExtBut a s.heap h'){ao:AO}{o:Obj}(ho:h'.get? a=some o)(hr:OR P W.ρ W.F ao o)(hnf:ao.data.isFro=false:=by rfl) :
  ae P h₀ W (objs.set i (some ao)) { s with heap:=h',toks:=tk }:=R.turn hi hlv hz k λ _ e=>Option.some.inj e▸⟨hnf,o,ho,hr⟩
theorem ae.lose(R:ae P h₀ W objs s){i:Nat}{a:Addr}{ao:AO}(hi:W.ρ[i]?=some a)(ho:objs[i]?=some (some ao))(hf:ao.data.isFro=false){h':Heap}{tk:Nat}(k:Heap.SameBut a s.heap h'):ae P h₀ W (objs.set i none) { s with heap:=h',toks:=tk }:=
 R.turn hi ⟨ao,ho,hf⟩ (Up k.1.symm) k.extBut λ _=>ns
theorem ae.own(R:ae P h₀ W objs s){a:Addr}{ao:AO}{o:Obj}(ho:s.heap.get? a=some o)(hρ:a∉W.ρ)(h0:h₀.get? a=none)(hF:∀ q∈W.F.fs,q.1≠a)(hpv:∀ q∈W.pv,q.1≠a)(hr:OR P (W.ρ++[a]) W.F ao o)(hnf:ao.data.isFro=false:=by rfl) :
  ae P h₀ { W with ρ:=W.ρ++[a] } (objs++[some ao]) s:=by
 refine ⟨(List.length_append.trans (congrArg (·+1) R.len)).trans List.length_append.symm,List.nodup_append.mpr ⟨R.nod,by simp,λ x hx y hy e=>hρ (List.mem_singleton.mp hy▸e▸hx)⟩,λ b hb=>p6 hb (R.fr b) λ e=>e▸h0,λ b hb=>p6 hb (R.lt b) λ e=>e▸Heap.lt_size ho,
  R.fz,λ p hp=>⟨(R.pv p hp).1,λ hm=>p6 hm (R.pv p hp).2.1 (hpv p hp),(R.pv p hp).2.2⟩,R.gg,λ j bo b hj hb=>?_,R.old,R.tab⟩
 rcases wj hj with ⟨q,e⟩ | hj
 ·rcases wj hb with ⟨_,e'⟩ | hb
  ·exact Option.some.inj e▸e'▸⟨o,ho,hr,λ e=>ft (hnf.symm.trans e),λ _=>hF⟩
  ·exact absurd (List.getElem?_eq_some_iff.mp hb).1 (Nat.not_lt.mpr (Up (R.len.symm.trans q.symm)))
 ·have hl:=Nat.lt_of_lt_of_eq (List.getElem?_eq_some_iff.mp hj).1 R.len
  exact (R.slot j bo b hj ((List.getElem?_append_left hl).symm.trans hb)).to (List.prefix_append _ _) (.refl _) (λ _ h=>h) λ _=> .inl
theorem ae.new(R:ae P h₀ W objs s){a:Addr}{h':Heap}{tk:Nat}(hz:s.heap.objs.size<=h'.objs.size)(hn':s.heap.objs.size<=a)(h0:h₀.get? a=none)(k:∀ b o,s.heap.get? b=some o->h'.get? b=some o){ao:AO}{o:Obj}(ho:h'.get? a=some o)(hr:OR P (W.ρ++[a]) W.F ao o)(hnf:ao.data.isFro=false:=by rfl) :
  ae P h₀ { W with ρ:=W.ρ++[a] } (objs++[some ao]) { s with heap:=h',toks:=tk }:=
 have hne:∀ {b x},s.heap.get? b=some x->b≠a:=λ h e=>absurd (Heap.lt_size h) (Nat.not_lt.mpr (e▸hn'))
 (R.ext hz k).own ho (λ hm=>absurd (R.lt a hm) (Nat.not_lt.mpr hn')) h0 (λ q hq=>hne (R.fz q hq).1) (λ q hq=>hne (R.pv q hq).1) hr hnf
theorem ae.frzs(R:ae P h₀ W objs s)(l:List (Addr×Obj)){h':Heap}{tk:Nat}(hz:s.heap.objs.size<=h'.objs.size)(k:∀ b o,s.heap.get? b=some o->h'.get? b=some o)(hl:∀ p∈l,s.heap.objs.size<=p.1∧h'.get? p.1=some p.2) :
  ae P h₀ { W with F:=⟨W.F.en,l++W.F.fs⟩ } objs { s with heap:=h',toks:=tk }:=
 have hne:∀ {b x q},q∈l->s.heap.get? b=some x->q.1≠b:=λ hq h e=>absurd (Heap.lt_size h) (Nat.not_lt.mpr (e▸(hl _ hq).1))
 ⟨R.len,R.nod,R.fr,λ b hb=>Nat.lt_of_lt_of_le (R.lt b hb) hz,λ p hp=>(List.mem_append.mp hp).elim (λ hp=>⟨(hl p hp).2,R.no_old (Heap.get?_none_of_le (hl p hp).1)⟩) λ hp=>⟨k _ _ (R.fz p hp).1,(R.fz p hp).2⟩,
  λ p hp=>⟨k _ _ (R.pv p hp).1,(R.pv p hp).2.1,(R.pv p hp).2.2.1,λ q hq=>(List.mem_append.mp hq).elim (λ hq=>hne hq (R.pv p hp).1) ((R.pv p hp).2.2.2 q)⟩,R.gg,
  λ j bo b hj hb=>(R.slot j bo b hj hb).to (List.prefix_refl _) ⟨rfl,λ _ h=>List.mem_append.mpr (.inr h)⟩ (k b) λ q hq=>(List.mem_append.mp hq).elim (λ hq=> .inr (let ⟨_,h,_,_,_⟩:=R.slot j bo b hj hb;hne hq h)) .inl,λ b o e hb=>k _ _ (R.old b o e hb),k _ _ R.tab.1,R.tab.2⟩
theorem ae.frz(R:ae P h₀ W objs s){a:Addr}{h':Heap}{tk:Nat}(hz:s.heap.objs.size<=h'.objs.size)(hn':s.heap.objs.size<=a)(k:∀ b o,s.heap.get? b=some o->h'.get? b=some o){o:Obj}(ho:h'.get? a=some o) :
  ae P h₀ { W with F:=⟨W.F.en,(a,o)::W.F.fs⟩ } objs { s with heap:=h',toks:=tk }:=R.frzs [(a,o)] hz k λ p hp=>List.mem_singleton.mp hp▸⟨hn',ho⟩
theorem ae.drop(R:ae P h₀ W objs s)(i:Nat):ae P h₀ W (objs.set i none) s:=
 ⟨List.length_set.trans R.len,R.nod,R.fr,R.lt,R.fz,R.pv,R.gg,λ j bo b hj hb=>(kW hj).elim (λ q=>ns q.2) λ q=>R.slot j bo b q.2 hb,R.old,R.tab⟩
inductive NM(P:Params)(h₀:Heap)(W:Wd)(objs:List (Option AO))(s:Shared)(i:Nat)(d:D):Prop
 | mk (a:Addr) (ds:List D) (o:Obj) (hi:W.ρ[i]?=some a) (ed:den W.F.en d= .lst ds) (le:W.le { W with F:=⟨W.F.en,(a,o)::W.F.fs⟩ }) (r:DV ((a,o)::W.F.fs) (.lst ds) (.ref a)) (R:ae P h₀ { W with F:=⟨W.F.en,(a,o)::W.F.fs⟩ } (objs.set i (some ⟨.type "list",none,.fro d⟩)) s)
theorem ae.freeze(R:ae P h₀ W objs s){i:Nat}{d:D}(ho:objs[i]?=some (some ⟨.type "list",none,.dseq d⟩)):NM P h₀ W objs s i d:=by
 obtain ⟨a,o,e1,e2,e3⟩:=R.obj i _ ho
 have ha:=List.mem_of_getElem? e1
 have hne:∀ {q},q∈W.F.fs->q.1≠a:=λ hq=>(R.slot i _ a ho e1).ne rfl hq
 obtain ⟨dx,x,hd,hr,e⟩:=e3.inv
 obtain ⟨ds,xs,n,ed,hs,e'⟩:=hr.inv
 subst e'
 have hd:none=dx:=hd.inv
 subst hd e
 have hf:W.F.le ⟨W.F.en,(a,aF "list" xs n)::W.F.fs⟩:=⟨rfl,λ _ h=> .tail _ h⟩
 exact ⟨a,ds,aF "list" xs n,e1,ed,⟨List.prefix_refl _,hf,rfl,rfl,rfl⟩,.lst ds xs a n (.head _) (hs.mono hf.fs),List.length_set.trans R.len,R.nod,R.fr,R.lt,λ p hp=>(List.mem_cons.mp hp).elim (λ e=>e▸⟨e2,R.fr _ ha⟩) (R.fz p),
  λ p hp=>⟨(R.pv p hp).1,(R.pv p hp).2.1,(R.pv p hp).2.2.1,λ q hq=>(List.mem_cons.mp hq).elim (λ e e'=>(R.pv p hp).2.1 (e'▸e▸ha)) ((R.pv p hp).2.2.2 q)⟩,R.gg,λ j bo b hj hb=>(kW hj).elim (λ q=>by
   obtain ⟨q,e⟩:=q
   subst q
   cases Option.some.inj (e1.symm.trans hb)
   exact Option.some.inj e▸⟨_,e2,.mk _ _ _ _ _ .none (.fro d ds xs n ed (hs.mono hf.fs)),λ _=>⟨_,.head _⟩,λ e=>ft (Eq.symm e)⟩)
   λ q=>(R.slot j bo b q.2 hb).to (List.prefix_refl _) hf (λ _=>id) λ r hr=>(List.mem_cons.mp hr).elim (λ e=> .inr λ e'=>q.1 (R.inj (hb.trans (congrArg some (((congrArg Prod.fst e).symm.trans e').symm))) e1)) .inl,R.old,R.tab⟩
end
noncomputable abbrev St:=List (Option AO)
theorem cY{α β:Type}{o:Option α}{f:α->Option β}{b:β}(h:o.bind f=some b):∃ a,o=some a∧f a=some b:=by
 cases o with
 | none=>exact ns h
 | some a=>exact ⟨a,rfl,h⟩
noncomputable def St.at(σ:St)(i:Nat):Option AO:=(σ[i]?).bind id
theorem St.at_some{σ:St}{i:Nat}{o:AO}(h:σ.at i=some o):σ[i]?=some (some o):=let ⟨_,e,q⟩:=cY h;e.trans (congrArg some q)
theorem St.at_of{σ:St}{i:Nat}{ao:AO}(h:σ[i]?=some (some ao)):σ.at i=some ao:=congrArg (Option.bind · id) h
theorem n9{σ:St}{i j:Nat}{x:Option AO}(h:i≠j):St.at (σ.set i x) j=σ.at j:=congrArg (Option.bind · id) (List.getElem?_set_ne h)
inductive Nt(P:Params)(W:Wd)(s:Shared)(i:Nat)(ao:AO):Prop
 | mk (a:Addr) (dx:Option Addr) (x:Data) (hi:W.ρ[i]?=some a) (ho:s.heap.get? a=some ⟨ao.cls,dx,x,#[]⟩) (d:DO W.ρ ao.dict dx) (r:DR P W.ρ W.F ao.data x)
theorem ae.ow{P:Params}{h₀:Heap}{W:Wd}{σ:St}{s:Shared}(R:ae P h₀ W σ s){i:Nat}{ao:AO}(h:σ.at i=some ao):Nt P W s i ao:=by
 obtain ⟨a,_,e1,e2,e3⟩:=R.obj i ao (St.at_some h)
 obtain ⟨dx,x,d,r,e⟩:=e3.inv
 exact ⟨a,dx,x,e1,e2.trans (congrArg some e.symm),d,r⟩
inductive Nr(P:Params)(W:Wd)(s:Shared)(a:Addr)(ao:AO):Prop
 | mk (dx:Option Addr) (x:Data) (ho:s.heap.get? a=some ⟨ao.cls,dx,x,#[]⟩) (d:DO W.ρ ao.dict dx) (r:DR P W.ρ W.F ao.data x)
theorem ae.on{P:Params}{h₀:Heap}{W:Wd}{σ:St}{s:Shared}(R:ae P h₀ W σ s){i:Nat}{ao:AO}{a:Addr}(hi:W.ρ[i]?=some a)(h:σ.at i=some ao):Nr P W s a ao:=by
 obtain ⟨_,dx,x,e,ho,d,r⟩:=R.ow h
 exact Option.some.inj (e.symm.trans hi)▸⟨dx,x,ho,d,r⟩
noncomputable def kl(o:AO):Option (List (Str×V)):=match o.data with
 | .dict m=>some m
 | _=>none
theorem dD(o:AO):Ok (kl o) λ m=>o.data= .dict m:=by
 obtain ⟨c,d,ad⟩:=o
 cases ad with
 | dict m=>exact .some rfl
 | _=>exact .none
noncomputable def Bx(o:AO):Option (Option V):=match o.data with
 | .cell m=>some m
 | _=>none
theorem r9(o:AO):Ok (Bx o) λ m=>o.data= .cell m:=by
 obtain ⟨c,d,ad⟩:=o
 cases ad with
 | cell m=>exact .some rfl
 | _=>exact .none
structure aw where
 sc:Scope
 fr:Nat
 cells:List (Str×Nat)
 qual:Str
 func:Option Addr
 code:Value
 frame:Nat
noncomputable def ad(ρ:List Addr)(i:Nat):Addr:=ρ.getD i 0
theorem fm{ρ:List Addr}{i:Nat}{a:Addr}(h:ρ[i]?=some a):ad ρ i=a:=by
 unfold ad;rw [List.getD_eq_getElem?_getD,h];rfl
theorem gP{ρ ρ':List Addr}(h:ρ <+: ρ'){i:Nat}(hi:i<ρ.length):ad ρ' i=ad ρ i:=by
 obtain ⟨a,e⟩:∃ a,ρ[i]?=some a:=⟨_,List.getElem?_eq_getElem hi⟩
 rw [fm e,fm (bF h e)]
noncomputable def aw.env(c:aw)(ρ:List Addr):Env:=
 { scope:=c.sc,locals:=ad ρ c.fr,globals:=mainGlobals,cells:=c.cells.map λ p=>(p.1,ad ρ p.2),qual:=c.qual,func:=c.func,code:=c.code,frame:=some (ad ρ c.frame),builtins:=builtinsNs }
structure aw.Ok(c:aw)(n:Nat):Prop where
 fr:c.fr<n
 frame:c.frame<n
 cells:∀ p∈c.cells,p.2<n
 kind:c.sc.kind= .function
 cor:c.sc.isCoroutine=false
theorem aw.env_pre{c:aw}{ρ ρ':List Addr}(h:ρ <+: ρ')(ok:c.Ok ρ.length):c.env ρ'=c.env ρ:=by
 unfold aw.env
 rw [gP h ok.fr,gP h ok.frame]
 congr 1
 exact List.map_congr_left λ p hp=>by rw [gP h (ok.cells p hp)]
theorem aw.Ok.mono{c:aw}{n m:Nat}(h:c.Ok n)(le:n<=m):c.Ok m:=
 ⟨Nat.lt_of_lt_of_le h.fr le,Nat.lt_of_lt_of_le h.frame le,λ p hp=>Nat.lt_of_lt_of_le (h.cells p hp) le,h.kind,h.cor⟩
theorem Wd.le.refl(W:Wd):W.le W:=⟨List.prefix_refl _,.refl _,rfl,rfl,rfl⟩
theorem Wd.le.trans{W₁ ay aP:Wd}(a:W₁.le ay)(b:ay.le aP):W₁.le aP:=⟨a.rho.trans b.rho,a.fz.trans b.fz,b.pv.trans a.pv,b.gg.trans a.gg,b.tb.trans a.tb⟩
theorem aw.Ok.le{c:aw}{W W':Wd}(h:c.Ok W.ρ.length)(le:W.le W'):c.Ok W'.ρ.length:=h.mono le.rho.length_le
theorem aw.env_le{c:aw}{W W':Wd}(h:c.Ok W.ρ.length)(le:W.le W'):c.env W'.ρ=c.env W.ρ:=aw.env_pre le.rho h
theorem VR.le{W W':Wd}{v:V}{x:Value}(h:VR W.ρ W.F v x)(le:W.le W'):VR W'.ρ W'.F v x:=h.mono le.rho le.fz
theorem VRs.le{W W':Wd}{v:List V}{x:List Value}(h:VRs W.ρ W.F v x)(le:W.le W'):VRs W'.ρ W'.F v x:=h.mono le.rho le.fz
structure bD(n:Nat)(A:Around):Prop where
 handled:A.handled=none
 depth:A.depth+8 * n<=990
 units:A.units+16 * n<=9000
theorem bD.le{n m:Nat}{A:Around}(h:bD n A)(le:m<=n):bD m A:=⟨h.handled,Ul (Nat.add_le_add_left (Nat.mul_le_mul_left _ le) _) h.depth,Ul (Nat.add_le_add_left (Nat.mul_le_mul_left _ le) _) h.units⟩
theorem bD.room{n:Nat}{A:Around}(h:bD n A):A.depth<recursionLimit:=Nat.lt_of_le_of_lt (Ul (Nat.le_add_right _ _) h.depth) (by decide)
theorem bD.cl{n:Nat}{A:Around}(h:bD n A):A.units<cLine:=Nat.lt_of_le_of_lt (Ul (Nat.le_add_right _ _) h.units) (by decide)
theorem bD.go{n:Nat}{A B:Around}(h:bD (n+1) A)(e:B.handled=none)(d:B.depth<=A.depth+8)(u:B.units<=A.units+16):bD n B:=⟨e,Ul (Nat.add_le_add_right d _) (Ul (Up (by rw [Nat.mul_succ,Nat.add_assoc,Nat.add_comm 8])) h.depth),Ul (Nat.add_le_add_right u _) (Ul (Up (by rw [Nat.mul_succ,Nat.add_assoc,Nat.add_comm 16])) h.units)⟩
theorem bD.deeper{n:Nat}{A:Around}(h:bD (n+1) A)(env:Env):bD n (A.deeper env):=h.go h.handled (Nat.add_le_add_left (by decide:1<=8) _) (Nat.add_le_add_left (by decide:3<=16) _)
theorem bD.in1{n:Nat}{A:Around}(h:bD (n+1) A):bD n A.in1:=h.go h.handled (Nat.le_add_right A.depth 8) (Nat.add_le_add_left (by decide:1<=16) _)
theorem bD.mark{n:Nat}{A:Around}(h:bD n A):A.mark none=A:=by cases A;rfl
noncomputable abbrev ah:Value->Shared->Prop:=λ _ _=>False
noncomputable def F9(fd:FuncData)(x:Value×Value×Option Addr×Value):FuncData:={ fd with doc:=x.1,pyModule:=x.2.1,annotations:=x.2.2.1,closureTuple:=x.2.2.2 }
structure GC(h₀:Heap)(glob:Str->Option Value)(fns:Addr->Option FuncData):Prop where
 nl:h₀.NoLimit
 gl:∀ x v,glob x=some v->∃ mg mb,h₀.Ns mainGlobals mg∧h₀.Ns builtinsNs mb∧(mg x=some v∨(mg x=none∧mb x=some v))
 fn:∀ a fd,fns a=some fd->a≠b8∧(∃ o x,h₀.get? a=some o∧o.cls= .type "function" ∧ o.data= .func (F9 fd x))∧h₀.CodeRec fd.code fd.qualname∧fd.code≠ .ref b8
 tabNs:b8≠cStatics∧(∃ o vs,h₀.get? b8=some o∧o.data= .fields vs)
section
variable{h₀:Heap}{glob:Str->Option Value}{fns:Addr->Option FuncData}{W:Wd}{σ:St}{s:Shared}
theorem ae.ns(G:GC h₀ glob fns)(R:ae w.params h₀ W σ s){a:Addr}{m:Str->Option Value}(h:h₀.Ns a m):s.heap.Ns a m:=by
 obtain ⟨o,es,ep,ho,hd,r⟩:=h
 obtain ⟨_,o',vs,ho',hd'⟩:=G.tabNs
 exact ⟨o,es,ep,R.old a o ho (λ e=>nomatch hd.symm.trans ((congrArg Obj.data (Option.some.inj (ho.symm.trans (e▸ho')))).trans hd')),hd,r⟩
theorem ae.nolimit(G:GC h₀ glob fns)(R:ae w.params h₀ W σ s):s.heap.NoLimit:=let ⟨mc,a,b⟩:=G.nl;⟨mc,R.ns G a,b⟩
inductive PV(h₀:Heap)(W:Wd)(v:V)(σ':St)(x:Value)(s':Shared):Prop
 | mk (W':Wd) (le:W.le W') (r:VR W'.ρ W'.F v x) (R:ae w.params h₀ W' σ' s')
inductive Uc(h₀:Heap)(W:Wd)(vs:List V)(σ':St)(xs:List Value)(s':Shared):Prop
 | mk (W':Wd) (le:W.le W') (r:VRs W'.ρ W'.F vs xs) (R:ae w.params h₀ W' σ' s')
inductive PB(h₀:Heap)(W:Wd)(b:Bool)(σ':St)(x:Bool)(s':Shared):Prop
 | mk (e:x=b) (W':Wd) (le:W.le W') (R:ae w.params h₀ W' σ' s')
inductive PU{α:Type}(h₀:Heap)(W:Wd)(σ':St)(x:α)(s':Shared):Prop
 | mk (W':Wd) (le:W.le W') (R:ae w.params h₀ W' σ' s')
inductive Fl where
 | next
 | brk
 | cont
 | ret (v:V)
noncomputable def FR(W:Wd):Fl->Flow->Prop
 | .next,.next=>True
 | .brk,.brk=>True
 | .cont,.cont=>True
 | .ret v,.ret x=>VR W.ρ W.F v x
 | _,_=>False
inductive PF(h₀:Heap)(W:Wd)(f:Fl)(σ':St)(x:Flow)(s':Shared):Prop
 | mk (W':Wd) (le:W.le W') (r:FR W' f x) (R:ae w.params h₀ W' σ' s')
theorem PV.le{W fo:Wd}{v:V}{σ':St}{x:Value}{s:Shared}(h:PV h₀ W v σ' x s)(le:fo.le W):PV h₀ fo v σ' x s:=let ⟨W',a,b,c⟩:=h;⟨W',le.trans a,b,c⟩
theorem PF.le{W fo:Wd}{v:Fl}{σ':St}{x:Flow}{s:Shared}(h:PF h₀ W v σ' x s)(le:fo.le W):PF h₀ fo v σ' x s:=let ⟨W',a,b,c⟩:=h;⟨W',le.trans a,b,c⟩
theorem bn{α:Type}{M:Model}{A:Around}{t:Sem α}{Q:α->Shared->Prop}{E:Value->Shared->Prop}{s:Shared}(h:wpAny M A t Q ah s):wpAny M A t Q E s:=wpAny_mono h (λ _ _ x=>x) λ _ _ x=>x.elim
noncomputable def jR:List (Str×V)->Str->Option V
 | [],_=>none
 | (k,v)::m,x=>if k==x then some v else jR m x
noncomputable def jJ:List (Str×V)->Str->V->List (Str×V)
 | [],x,v=>[(x,v)]
 | (k,u)::m,x,v=>if k==x then (k,v)::m else (k,u)::jJ m x v
theorem ER.keys{P ρ}{F:Fz}{m es}(h:ER P ρ F m es):StrKeys es.toArray:=λ e he=>
 ER.rec (motive:=λ _ es _=>e∈es->∃ n t,e.key= .str n t) (λ h=>nm h) (λ k _ t _ _ _ _ _ ih he=>(List.mem_cons.mp he).elim (λ q=>q▸⟨k,t,rfl⟩) ih) h (Array.mem_toList_iff.mpr he)
inductive OV(ρ:List Addr)(F:Fz):Option V->Option Value->Prop
 | none:OV ρ F none none
 | some (v:V) (x:Value) (r:VR ρ F v x):OV ρ F (some v) (some x)
theorem OV.get{ρ}{F:Fz}{o:Option V}{p:Option Value}(h:OV ρ F o p):Ok o λ v=>∃ y,p=Option.some y∧VR ρ F v y:=OV.casesOn (motive:=λ o p _=>Ok o λ v=>∃ y,p=Option.some y∧VR ρ F v y) h .none λ _ x r=> .some ⟨x,rfl,r⟩
theorem OV.no{ρ}{F:Fz}{o:Option V}{p:Option Value}(h:OV ρ F o p):o=Option.none->p=Option.none:=OV.casesOn (motive:=λ o p _=>o=Option.none->p=Option.none) h (λ _=>rfl) λ _ _ _ e=>M.Internal.ns e.symm
theorem rj(x k:Str)(hs:Int)(t:Tok)(y:Value)(es:List DictEntry):nsFind (⟨hs,.str k t,y⟩::es).toArray x=if (k==x)=true then some y else nsFind es.toArray x:=by
 unfold nsFind findBy
 rw [List.find?_toArray,List.find?_toArray,List.find?_cons]
 show Option.map _ (match k==x with | true=>_ | false=>_)=_
 cases k==x<;>rfl
theorem ER.find{P ρ}{F:Fz}(x:Str){m es}(h:ER P ρ F m es):OV ρ F (jR m x) (nsFind es.toArray x):=
 ER.rec (motive:=λ m es _=>OV ρ F (jR m x) (nsFind es.toArray x)) .none (λ k u t y m es hv _ ih=>by
  rw [rj]
  show OV ρ F (if (k==x)=true then some u else jR m x) _
  cases k==x with
  | true=>exact .some u y hv
  | false=>exact ih) h
theorem ER.put{P ρ}{F:Fz}{x:Str}{v:V}{y:Value}{t:Tok}(hv:VR ρ F v y){m es}(h:ER P ρ F m es) :
  ER P ρ F (jJ m x v) (nsPutIn x.cps.size x.cps.toList (λ | some e=>{ e with val:=y } | none=>⟨cg P x,.str x t,y⟩) es).1:=
 ER.rec (motive:=λ m es _=>ER P ρ F (jJ m x v) (nsPutIn x.cps.size x.cps.toList (λ | some e=>{ e with val:=y } | none=>⟨cg P x,.str x t,y⟩) es).1) (.cons x v t y [] [] hv .nil) (λ k u t' z m es hz hs ih=>by
  unfold nsPutIn
  rw [show (DictEntry.mk (cg P k) (.str k t') z).key.isStrByCps x.cps.size x.cps.toList=(k==x) from Value.isStrByCps_eq (.str k t') x]
  show ER P ρ F (if (k==x)=true then _ else _) _
  cases k==x with
  | true=>exact .cons k v t' y m es hv hs
  | false=>exact .cons k u t' z _ _ hz ih) h
theorem qU(x:Str)(hsh:Int)(key y:Value)(c:Value)(d:Option Addr)(es:List DictEntry)(n:Nat)(sl) :
  ∃ n',Obj.putName x hsh key y ⟨c,d,.dict es.toArray n,sl⟩=⟨c,d,.dict (nsPutIn x.cps.size x.cps.toList (λ | some e=>{ e with val:=y } | none=>⟨hsh,key,y⟩) es).1.toArray n',sl⟩:=by
 show ∃ n',(match nsPutIn x.cps.size x.cps.toList (λ | some e=>{ e with val:=y } | none=>⟨hsh,key,y⟩) es.toArray.toList with
  | (es',false)=>(⟨c,d,.dict es'.toArray n,sl⟩:Obj)
  | (es',true)=>⟨c,d,.dict es'.toArray (n+1),sl⟩)=_
 simp only [List.toList_toArray]
 generalize nsPutIn x.cps.size x.cps.toList _ es=r
 obtain ⟨a,b⟩:=r
 cases b<;>exact ⟨_,rfl⟩
theorem jO{A:Around}{i:Nat}{a:Addr}{x:Str}{v:V}{y:Value}{o:AO}{m:List (Str×V)}{Q:Unit->Shared->Prop}(R:ae w.params h₀ W σ s)
  (hi:W.ρ[i]?=some a) (ho:σ.at i=some o) (em:o.data= .dict m) (hv:VR W.ρ W.F v y)
  (h:∀ h',h'.objs.size=s.heap.objs.size->ae w.params h₀ W (σ.set i (some ⟨o.cls,o.dict,.dict (jJ m x v)⟩)) { s with heap:=h',toks:=s.toks+1 }->Q () { s with heap:=h',toks:=s.toks+1 }) :
  wpAny (model prog w) A (nsSet a x y) Q ah s:=by
 obtain ⟨dx,dt,e2,h1,h2⟩:=R.on hi ho
 rw [em] at h2
 obtain ⟨es,n,hE,q⟩:=h2.inv
 subst q
 unfold nsSet strHash
 refine Uj (Uj (wpAny_askSetting (Uk ?_)))
 refine Uj (wpAny_mkText (Uj (wpAny_loadPart (s:={ s with toks:=s.toks+1 }) e2 ?_)))
 have hany:es.toArray.any (·.refKey)=false:=Array.any_eq_false'.mpr λ e he=>by obtain ⟨n,t,h⟩:=hE.keys e he;simp [DictEntry.refKey,h]
 simp only [aRefKeyMayBeTheName_eq,aRefKeyMayBeTheNameByArray,hany,Bool.and_false,Bool.false_eq_true,if_false]
 obtain ⟨n',en⟩:=qU x (cg w.params x) (.str x s.toks) y o.cls dx es n #[]
 exact wpAny_updatePart (s:={ s with toks:=s.toks+1 }) e2 (h _ (Heap.SameBut.update ..).1 (R.upd hi ⟨_,St.at_some ho,congrArg AD.isFro em⟩ (Up (Heap.SameBut.update ..).1.symm) (Heap.SameBut.update ..).extBut
  ((Heap.get?_update_self (h:=s.heap) (Obj.putName x (cg w.params x) (.str x s.toks) y) e2 (by rw [en];rfl)).trans (congrArg some en)) (.mk o.cls o.dict dx _ _ h1 (.dict _ _ n' (hE.put hv)))))
inductive QT(W:Wd)(s:Shared)(m:List (Str×V))(a:Addr):Prop
 | mk (f:Str->Option Value) (h:s.heap.Ns a f) (hf:∀ x,OV W.ρ W.F (jR m x) (f x))
theorem l5{i:Nat}{a:Addr}{o:AO}{m:List (Str×V)}(R:ae w.params h₀ W σ s)(hi:W.ρ[i]?=some a)(ho:σ.at i=some o)(em:o.data= .dict m):QT W s m a:=by
 obtain ⟨dx,dt,e2,h1,h2⟩:=R.on hi ho
 rw [em] at h2
 obtain ⟨es,n,hE,q⟩:=h2.inv
 subst q
 exact ⟨nsFind es.toArray,⟨_,es.toArray,n,e2,rfl,hE.keys,λ _=>rfl⟩,λ x=>hE.find x⟩
noncomputable def ul(c:aw)(x:Str):Option Nat:=c.cells.lookup x
noncomputable def Je(c:aw)(x:Str)(σ:St):Option V:=(ul c x).bind λ i=>(σ.at i).bind λ o=>(Bx o).bind id
noncomputable def Ll(glob:Str->Option Value)(c:aw)(x:Str)(σ:St)(k:NameKind):Option V:=match k with
 | .local=>(σ.at c.fr).bind λ o=>(kl o).bind λ m=>jR m x
 | .cell=>Je c x σ
 | .free=>if (x==("__classdict__" : Str))=true then none else Je c x σ
 | .globalImplicit=>(glob x).map .glob
 | _=>none
noncomputable def aX(glob:Str->Option Value)(c:aw)(x:Str)(σ:St):Option V:=
 if (x==("__debug__" : Str))=true then none else (c.sc.names.lookup x).bind (Ll glob c x σ)
noncomputable def Ic(c:aw)(x:Str)(k:NameKind):Option (Bool×Nat):=match k with
 | .local=>some (true,c.fr)
 | .cell=>(ul c x).map λ i=>(false,i)
 | _=>none
noncomputable def K7(x:Str)(v:V)(b:Bool)(o:AO):Option AO:=match b with
 | true=>(kl o).map λ m=>⟨o.cls,o.dict,.dict (jJ m x v)⟩
 | false=>(Bx o).map λ _=>⟨o.cls,o.dict,.cell (some v)⟩
noncomputable def aS(c:aw)(x:Str)(v:V)(σ:St):Option St:=
 ((c.sc.names.lookup x).bind (Ic c x)).bind λ q=>(σ.at q.2).bind λ o=>(K7 x v q.1 o).map λ o'=>σ.set q.2 (some o')
theorem iG{α β γ:Type}[BEq α](f:β->γ)(x:α):∀ l:List (α×β),(l.map λ p=>(p.1,f p.2)).lookup x=(l.lookup x).map f
 | []=>rfl
 | (k,v)::l=>by
  simp only [List.map_cons,List.lookup_cons]
  cases x==k<;>simp [iG f x l]
theorem rU{c:aw}{ρ:List Addr}{x:Str}{i:Nat}{a:Addr}(h:ul c x=some i)(e:ρ[i]?=some a):(c.env ρ).cells.lookup x=some a:=
 (iG (ad ρ) x c.cells).trans ((congrArg (Option.map (ad ρ)) h).trans (congrArg some (fm e)))
inductive NV(W:Wd)(c:aw)(s:Shared)(x:Str)(v:V):Prop
 | mk (a:Addr) (y:Value) (h:(c.env W.ρ).cells.lookup x=some a) (hc:s.heap.IsCell a (some y)) (r:VR W.ρ W.F v y)
theorem uR{c:aw}{x:Str}(R:ae w.params h₀ W σ s):Ok (Je c x σ) (NV W c s x):=
 .bind .self λ i hi=> .bind .self λ o ho=> .bind (r9 o) λ m e v hv=>by
  obtain ⟨a,dx,dt,e1,e2,h1,h2⟩:=R.ow ho
  rw [e,show m=some v from hv] at h2
  obtain ⟨y,hy,q⟩:=h2.inv
  subst q
  exact ⟨a,y,rU hi e1,⟨_,e2,rfl⟩,hy⟩
theorem AZ{c:aw}(ok:c.Ok W.ρ.length):W.ρ[c.fr]?=some (ad W.ρ c.fr):=by
 obtain ⟨a,e⟩:∃ a,W.ρ[c.fr]?=some a:=⟨_,List.getElem?_eq_getElem ok.fr⟩
 rw [fm e,e]
noncomputable def Nx(A:Around)(W:Wd)(s:Shared)(c:aw)(x:Str)(v:V):Prop:=∀ Q:Value->Shared->Prop,(∀ y,VR W.ρ W.F v y->Q y s)->wpAny (model prog w) A (loadName (c.env W.ρ) x) Q ah s
theorem Hb(G:GC h₀ glob fns){A:Around}{c:aw}{x:Str}(R:ae w.params h₀ W σ s)(ok:c.Ok W.ρ.length):Ok (aX glob c x σ) (Nx A W s c x):=by
 refine .ifn λ _=> .bind .self λ k hl=>?_
 cases k with
 | «local»=>
  refine .bind .self λ o ho=> .bind (dD o) λ m e v hv Q h=>?_
  obtain ⟨f,hn,hf⟩:=l5 R (AZ ok) ho e
  obtain ⟨y,e,r⟩:=(hf x).get v hv
  exact wpAny_loadName_local (env:=c.env W.ρ) ok.kind hl hn e (h y r)
 | cell=>exact (uR R).mono λ v ⟨a,y,hc,hi,r⟩ Q h=>wpAny_loadName_cell (env:=c.env W.ρ) ok.kind hl hc hi (h y r)
 | free=>exact .ifn λ hn=>(uR R).mono λ v ⟨a,y,hc,hi,r⟩ Q h=>wpAny_loadName_free (env:=c.env W.ρ) ok.kind hl hc hi (h y r) (Bool.eq_false_iff.mpr hn)
 | globalImplicit=>
  refine .map .self λ u hg Q h=>?_
  obtain ⟨mg,mb,h1,h2,h3⟩:=G.gl x u hg
  have hk:(c.env W.ρ).scope.kind= .function:=ok.kind
  have hx:(c.env W.ρ).kindOf x=some .globalImplicit:=hl
  unfold loadName Env.blockKind
  rw [hk,hx]
  exact h3.elim (λ h3=>loadGlobal_global (env:=c.env W.ρ) (R.ns G h1) h3 (h u (.glob u))) λ h3=>loadGlobal_builtin (env:=c.env W.ρ) (R.ns G h1) h3.1 (R.ns G h2) h3.2 (h u (.glob u))
 | _=>exact .none
theorem aT(G:GC h₀ glob fns){A:Around}{c:aw}{x:Str}{v:V}{Q:Value->Shared->Prop}(R:ae w.params h₀ W σ s)(ok:c.Ok W.ρ.length)
  (hv:aX glob c x σ=some v) (h:∀ y,VR W.ρ W.F v y->Q y s):wpAny (model prog w) A (loadName (c.env W.ρ) x) Q ah s:=Hb G R ok v hv Q h
theorem DR.cell{P ρ F}{m:Option V}{x:Data}(h:DR P ρ F (.cell m) x):∃ w,x= .cell w:=by
 cases m with
 | none=>exact ⟨none,Eq.symm h.inv⟩
 | some m=>exact let ⟨y,_,q⟩:=h.inv;⟨some y,q.symm⟩
theorem lE{env:Env}{x:Str}{y:Value}(hl:env.kindOf x=some .cell)(hk:env.scope.kind= .function):storeName env x y=cellOf env x>>=λ c=>cellSet c (some y):=by
 unfold storeName
 rw [hl,hk];rfl
noncomputable def QO(h₀:Heap)(A:Around)(W:Wd)(s:Shared)(c:aw)(x:Str)(y:Value)(σ':St):Prop:=∀ Q:Unit->Shared->Prop,(∀ h' tk,ae w.params h₀ W σ' { s with heap:=h',toks:=tk }->Q () { s with heap:=h',toks:=tk })->wpAny (model prog w) A (storeName (c.env W.ρ) x y) Q ah s
theorem CQ{A:Around}{c:aw}{x:Str}{v:V}{y:Value}(R:ae w.params h₀ W σ s)(ok:c.Ok W.ρ.length)(hr:VR W.ρ W.F v y):Ok (aS c x v σ) (QO h₀ A W s c x y):=by
 refine .bind (P:=λ q=>∃ k,c.sc.names.lookup x=some k∧Ic c x k=some q) (.bind .self λ k hl=>Ok.self.mono λ q hq=>⟨k,hl,hq⟩) λ q ⟨k,hl,hq⟩=> .bind .self λ o ho σ' hp Q h=>?_
 obtain ⟨o',hq',e⟩:=Option.map_eq_some_iff.mp hp
 subst e
 have hk:(c.env W.ρ).scope.kind= .function:=ok.kind
 have hx:(c.env W.ρ).kindOf x=some k:=hl
 cases k with
 | «local»=>
  cases Option.some.inj hq
  obtain ⟨m,hm,e⟩:=Option.map_eq_some_iff.mp hq'
  subst e
  rw [storeName_local (env:=c.env W.ρ) hl (by show (c.sc.kind== .class||(c.sc.kind== .module&&_))=false;rw [ok.kind];rfl)]
  exact jO R (AZ ok) ho (dD o m hm) hr λ h' _ r=>h h' _ r
 | cell=>
  obtain ⟨i,hi,e⟩:=Option.map_eq_some_iff.mp hq
  subst e
  obtain ⟨m,hm,e⟩:=Option.map_eq_some_iff.mp hq'
  subst e
  have em:=r9 o m hm
  obtain ⟨a,dx,dt,e1,e2,hd,h2⟩:=R.ow ho
  rw [em] at h2
  obtain ⟨SN,q⟩:=h2.cell
  subst q
  refine cP (lE (env:=c.env W.ρ) hl ok.kind) (Uj (wpAny_cellOf (rU hi e1) (Uj (wpAny_load e2 (wpAny_update e2 (h _ s.toks ?_))))))
  exact R.upd e1 ⟨_,St.at_some ho,congrArg AD.isFro em⟩ (Up (Heap.SameBut.update ..).1.symm) (Heap.SameBut.update ..).extBut (Heap.get?_update_self _ e2 rfl) (.mk _ _ dx _ _ hd (.cell1 v y hr))
 | _=>exact ns hq
theorem bv{A:Around}{c:aw}{x:Str}{v:V}{y:Value}{σ':St}{Q:Unit->Shared->Prop}(R:ae w.params h₀ W σ s)(ok:c.Ok W.ρ.length)
  (hv:aS c x v σ=some σ') (hr:VR W.ρ W.F v y) (h:∀ h' tk,ae w.params h₀ W σ' { s with heap:=h',toks:=tk }->Q () { s with heap:=h',toks:=tk }) :
  wpAny (model prog w) A (storeName (c.env W.ρ) x y) Q ah s:=CQ R ok hr σ' hv Q h
end
inductive HV(h:Heap)(F:List (Addr×Obj)):D->Value->Prop
 | none:HV h F .none .none
 | bool (b:Bool):HV h F (.bool b) (.bool b)
 | int (i:Int) (t:Tok):HV h F (.int i) (.int i t)
 | str (s:Str) (t:Tok):HV h F (.str s) (.str s t)
 | tup (ds:List D) (xs:List Value) (a:Addr) (n:Nat):h.get? a=some (aF "tuple" xs n)->DVs F ds xs->HV h F (.tup ds) (.ref a)
 | lst (ds:List D) (xs:List Value) (a:Addr) (n:Nat):h.get? a=some (aF "list" xs n)->DVs F ds xs->HV h F (.lst ds) (.ref a)
inductive ix(c:String)(h:Heap)(F:List (Addr×Obj))(ds:List D)(x:Value):Prop
 | mk (xs:List Value) (a:Addr) (n:Nat) (g:h.get? a=some (aF c xs n)) (r:DVs F ds xs) (e: .ref a=x)
noncomputable def Sy(h:Heap)(F:List (Addr×Obj)):D->Value->Prop
 | .none,x=> .none=x
 | .bool b,x=> .bool b=x
 | .int i,x=>∃ t,.int i t=x
 | .str s,x=>∃ t,.str s t=x
 | .tup ds,x=>ix "tuple" h F ds x
 | .lst ds,x=>ix "list" h F ds x
 | .var _,_=>False
theorem HV.inv{h F}{d:D}{x:Value}(k:HV h F d x):Sy h F d x:=HV.casesOn (motive:=λ d x _=>Sy h F d x) k rfl (λ _=>rfl) (λ _ t=>⟨t,rfl⟩) (λ _ t=>⟨t,rfl⟩) (λ _ xs a n g r=>⟨xs,a,n,g,r,rfl⟩) (λ _ xs a n g r=>⟨xs,a,n,g,r,rfl⟩)
inductive Op where
 | bin (o:Operator)
 | aug (o:Operator)
 | un (o:UnaryOp)
 | cmp (o:CmpOp)
 | truth
 | item
 | slice
 | rev
 | len
 | push
 | ins
 | rep
 | isL
 | isI
 | isS
 | isT
 | meth (n:Nat)
 | fn (a:Addr)
 deriving DecidableEq
noncomputable def QI(op:Operator)(i j:Int):Option D:=match op with
 | .Add=>some (.int (i+j))
 | .Sub=>some (.int (i-j))
 | .Mod=>if j=0 then none else some (.int (i.fmod j))
 | .FloorDiv=>if j=0 then none else if Builtin.divisionGoesByPylong i j then none else some (.int (i.fdiv j))
 | _=>none
noncomputable def QH(op:Operator)(x y:Str):Option D:=match op with
 | .Add=>if x.length+y.length<=sizeLine then some (.str (x++y)) else none
 | _=>none
noncomputable def EW(op:Operator)(a b:D):Option D:=match a with
 | .int i=>(match b with | .int j=>QI op i j | _=>none)
 | .str x=>(match b with | .str y=>QH op x y | _=>none)
 | _=>none
noncomputable def QK(op:Operator)(i j:Int):Option D:=match op with
 | .Add=>some (.int (i+j))
 | .Sub=>some (.int (i-j))
 | _=>none
noncomputable def Ng(op:Operator)(a b:D):Option D:=match a with
 | .int i=>(match b with | .int j=>QK op i j | _=>none)
 | _=>none
noncomputable def Q8(op:UnaryOp)(a:D):Option D:=match op with
 | .USub=>(match a with | .int i=>some (.int (-i)) | _=>none)
 | _=>none
noncomputable def ml(y x:Str):Bool:=!(Builtin.Str.occurrences x y 0 x.length 1).isEmpty
noncomputable def QE(op:CmpOp)(i j:Int):Option Bool:=match op with
 | .Eq=>some (i==j)
 | .NotEq=>some (i != j)
 | .Lt=>some (decide (i<j))
 | .LtE=>some (decide (i<=j))
 | .Gt=>some (decide (j<i))
 | .GtE=>some (decide (j<=i))
 | _=>none
noncomputable def QD(op:CmpOp)(x y:Str):Option Bool:=match op with
 | .Eq=>some (x==y)
 | .NotEq=>some (x != y)
 | .In=>some (ml x y)
 | .NotIn=>some (!ml x y)
 | _=>none
noncomputable def Ov(op:CmpOp)(b:Bool):Option Bool:=match op with
 | .Is=>some b
 | .IsNot=>some !b
 | _=>none
noncomputable def isNo:D->Bool
 | .none=>true
 | _=>false
noncomputable def MO(op:CmpOp)(a b:D):Option Bool:=match b with
 | .none=>Ov op (isNo a)
 | .int j=>(match a with | .int i=>QE op i j | _=>none)
 | .str y=>(match a with | .str x=>QD op x y | _=>none)
 | .bool d=>(match a with | .bool c=>Ov op (c==d) | _=>none)
 | _=>none
noncomputable def sP:D->Option Bool
 | .none=>some false
 | .bool b=>some b
 | .int i=>some (i != 0)
 | .str x=>if x.length<=sizeLine then some (x.length != 0) else none
 | .lst l=>if l.length<=sizeLine then some (l.length != 0) else none
 | _=>none
noncomputable def jh(i:Int)(n:Nat):Option Nat:=if 0<=i then (if i<n then some i.toNat else none) else if -(n:Int)<=i then some (i+n).toNat else none
noncomputable def d5(i:Int):Bool:=decide (-4611686018427387904<=i)&&decide (i<=4611686018427387904)
noncomputable def Da{α:Type}(n:Nat)(g:Nat->Option α):D->Option α
 | .int i=>if d5 i then (jh i n).bind g else none
 | _=>none
noncomputable def kj(a b:D):Option D:=match a with
 | .lst ds=>Da ds.length (ds[·]?) b
 | .tup ds=>Da ds.length (ds[·]?) b
 | .str x=>Da x.length (λ j=>(x.cps[j]?).map λ c=> .str ⟨#[c]⟩) b
 | _=>none
noncomputable def gD:D->Option (Option Int)
 | .none=>some none
 | .int i=>some (some i)
 | _=>none
noncomputable def nE{α:Type}(ds:List α)(lo hi st:Option Int):List α:=
 (sliceRange (sliceBounds lo hi st ds.length).1 (sliceBounds lo hi st ds.length).2.1 (sliceBounds lo hi st ds.length).2.2).filterMap (ds[·]?)
noncomputable def zj(a lo hi st:D):Option D:=match a with
 | .str x=>(gD lo).bind λ l=>(gD hi).bind λ u=>(gD st).bind λ t=>if t=none∧x.length<=sizeLine then some (.str (Txt.slice x l u)) else none
 | .lst ds=>(gD lo).bind λ l=>(gD hi).bind λ u=>(gD st).bind λ t=>if t≠some 0∧ds.length<=sizeLine then some (.lst (nE ds l u t)) else none
 | _=>none
noncomputable def DN:D->Option Nat
 | .lst ds=>if ds.length<=sizeLine then some ds.length else none
 | .tup ds=>if ds.length<=sizeLine then some ds.length else none
 | .str x=>if x.length<=sizeLine then some x.length else none
 | _=>none
inductive KR(ρ:List Addr)(F:Fz):List (Str×V)->List (Str×Value)->Prop
 | nil:KR ρ F [] []
 | cons (k:Str) (v:V) (x:Value) (m:List (Str×V)) (es:List (Str×Value)):VR ρ F v x->KR ρ F m es->KR ρ F ((k,v)::m) ((k,x)::es)
noncomputable abbrev eI:=Op->List D->Option D
noncomputable def rh(f:D->Option D):List D->Option D
 | [a]=>f a
 | _=>none
noncomputable def w9(f:D->D->Option D):List D->Option D
 | [a,b]=>f a b
 | _=>none
noncomputable def Oe(f:D->D->D->Option D):List D->Option D
 | [a,b,c]=>f a b c
 | _=>none
noncomputable def Od(f:D->D->D->D->Option D):List D->Option D
 | [a,b,c,d]=>f a b c d
 | _=>none
noncomputable def pushD(a x:D):Option D:=match a with
 | .lst ds=>if ds.length<=sizeLine then some (.lst (ds++[x])) else none
 | _=>none
noncomputable def LZ(a b x:D):Option D:=match a with
 | .lst ds=>(match b with
  | .int i=>if 0<=i∧i<=ds.length∧ds.length<=sizeLine then some (.lst (ds.take i.toNat++x::ds.drop i.toNat)) else none
  | _=>none)
 | _=>none
noncomputable def P7:D->Option D
 | .lst _=>some .none
 | _=>none
noncomputable def AJ:D->Option D
 | .int _=>some .none
 | _=>none
noncomputable def Ip:D->Option D
 | .str _=>some .none
 | _=>none
noncomputable def Io(a b:D):Option D:=match a with
 | .tup l=>(match b with
  | .int n=>if (l.length:Int)=n then some .none else none
  | _=>none)
 | _=>none
noncomputable def av(O:eI)(o:Op)(ds:List D):Option D:=match o with
 | .bin p=>w9 (λ a b=>(EW p a b).or (O (.bin p) [a,b])) ds
 | .aug p=>w9 (Ng p) ds
 | .un p=>rh (Q8 p) ds
 | .cmp p=>w9 (λ a b=>((MO p a b).map .bool).or (O (.cmp p) [a,b])) ds
 | .truth=>rh (λ a=>(sP a).map .bool) ds
 | .item=>w9 kj ds
 | .slice=>Od zj ds
 | .len=>rh (λ a=>(DN a).map λ (n:Nat)=> .int n) ds
 | .push=>w9 pushD ds
 | .ins=>Oe LZ ds
 | .isL=>rh P7 ds
 | .isI=>rh AJ ds
 | .isS=>rh Ip ds
 | .isT=>w9 Io ds
 | o=>O o ds
noncomputable abbrev bK:=List (Op×List D×D)
noncomputable def DJ:bK->Op->List D->Option D
 | [],_,_=>none
 | (o,ds,d)::K,p,es=>if decide (o=p)&&beqDs ds es then some d else DJ K p es
noncomputable def kO(K:bK)(O:eI)(o:Op)(ds:List D):Option D:=
 (if grs ds then (av O o ds).bind λ d=>if gr d then some d else none else none).or (DJ K o ds)
noncomputable def cx(K:bK)(O:eI)(ε:Nat->D):Prop:=∀ o ds d,(o,ds,d)∈K->av O o (dens ε ds)=some (den ε d)
theorem Ah{K:bK}{o:Op}{ds:List D}{d:D}(h:DJ K o ds=some d):(o,ds,d)∈K:=by
 induction K with
 | nil=>cases h
 | cons p K ih=>
  obtain ⟨o',ds',d'⟩:=p
  unfold DJ at h
  split at h
  ·rename_i q
   simp only [Bool.and_eq_true,decide_eq_true_eq] at q
   cases h
   rw [q.1,← beqDs_eq _ _ q.2];exact .head _
  ·exact .tail _ (ih h)
theorem cj{K:bK}{O:eI}{ε:Nat->D}(k:cx K O ε){o:Op}{ds:List D}:Ok (kO K O o ds) λ d=>av O o (dens ε ds)=some (den ε d):=
 .or (.ifs λ g=> .bind .self λ d e=> .ifs λ h=> .some (by rw [dens_gr ε _ g,pQ ε _ h];exact e)) λ _ h=>k _ _ _ (Ah h)
noncomputable def jf(e:Expr):Bool:=8<=e.ctorIdx&&e.ctorIdx<=10
structure b5 where
 E:aw->Expr->St->Option (V×St)
 T:aw->Expr->St->Option (Bool×St)
 X:aw->Stmt->St->Option (Fl×St)
 C:V->List V->List (Str×V)->St->Option (V×St)
section
variable{h₀:Heap}{W:Wd}{σ:St}{s:Shared}{A:Around}
theorem PV.here{v:V}{x:Value}{s':Shared}(hv:VR W.ρ W.F v x)(R:ae w.params h₀ W σ s'):PV h₀ W v σ x s':=⟨W,.refl W,hv,R⟩
theorem DV.hv{d:D}{x:Value}(R:ae w.params h₀ W σ s)(h:DV W.F.fs d x):HV s.heap W.F.fs d x:=by
 cases h with
 | none=>exact .none
 | bool b=>exact .bool b
 | int i t=>exact .int i t
 | str x t=>exact .str x t
 | tup ds xs a n h hs=>exact .tup ds xs a n (R.fz _ h).1 hs
 | lst ds xs a n h hs=>exact .lst ds xs a n (R.fz _ h).1 hs
noncomputable def T9:AD->Option D
 | .dseq d=>some d
 | .fro d=>some d
 | _=>none
noncomputable def Al(o:AO):Option D:=if o.cls= .type "list" ∧ o.dict.isNone then T9 o.data else none
noncomputable def fY(σ:St):V->Option D
 | .d d=>some d
 | .ref i=>(σ.at i).bind Al
 | _=>none
inductive oa(P:Params)(W:Wd)(s:Shared)(i:Nat)(ao:AO)(x:Value):Prop
 | mk (a:Addr) (dx:Option Addr) (dt:Data) (e:x= .ref a) (hi:W.ρ[i]?=some a) (ho:s.heap.get? a=some ⟨ao.cls,dx,dt,#[]⟩) (hd:DO W.ρ ao.dict dx) (hr:DR P W.ρ W.F ao.data dt)
theorem ae.at{P:Params}(R:ae P h₀ W σ s){i:Nat}{ao:AO}(h:σ.at i=some ao){a:Addr}(hi:W.ρ[i]?=some a):oa P W s i ao (.ref a):=by
 obtain ⟨b',o,e1,e2,e3⟩:=R.obj i _ (St.at_some h)
 rw [hi] at e1
 cases e1
 cases e3 with
 | mk _ _ dx _ dt h1 h2=>exact ⟨a,dx,dt,rfl,hi,e2,h1,h2⟩
theorem ae.ref{P:Params}(R:ae P h₀ W σ s){i:Nat}{ao:AO}{x:Value}(h:σ.at i=some ao)(ha:VR W.ρ W.F (.ref i) x):oa P W s i ao x:=by
 cases ha with
 | ref _ b hi=>exact R.at h hi
theorem DO.nil{ρ d dx}(h:DO ρ d dx)(e:d.isNone=true):dx=Option.none:=by cases h<;>first | rfl | cases e
inductive GE(W:Wd)(s:Shared)(i:Nat)(d:D)(x:Value):Prop
 | mk (a:Addr) (ds:List D) (xs:List Value) (n:Nat) (e:x= .ref a) (hi:W.ρ[i]?=some a) (ho:s.heap.get? a=some (aF "list" xs n)) (hd:den W.F.en d= .lst ds) (hs:DVs W.F.fs ds xs)
theorem ry{P:Params}{i:Nat}{ao:AO}{x:Value}(h:oa P W s i ao x):Ok (Al ao) λ d=>GE W s i d x:=by
 obtain ⟨a,dx,dt,e,hi,ho,hd,hr⟩:=h
 refine .ifs λ q=>?_
 rw [q.1,hd.nil q.2] at ho
 generalize ao.data=ad at hr
 cases hr with
 | dseq d ds xs n hd hs=>exact .some ⟨a,ds,xs,n,e,hi,ho,hd,hs⟩
 | fro d ds xs n hd hs=>exact .some ⟨a,ds,xs,n,e,hi,ho,hd,hs⟩
 | _=>exact .none
theorem dA{v:V}{x:Value}(R:ae w.params h₀ W σ s)(ha:VR W.ρ W.F v x):Ok (fY σ v) λ d=>HV s.heap W.F.fs (den W.F.en d) x:=by
 cases ha with
 | d d x q=>exact .some (q.hv R)
 | ref i a hi=>
  exact .bind .self λ ao h=>(ry (R.ref h (.ref i a hi))).mono λ d q=>let ⟨a,ds,xs,n,e,_,ho,hd,hs⟩:=q;by rw [hd,e];exact .lst ds xs a n ho hs
 | _=>exact .none
inductive PD(h₀:Heap)(W:Wd)(d:D)(σ':St)(x:Value)(s':Shared):Prop
 | mk (W':Wd) (le:W.le W') (r:DV W'.F.fs d x) (R:ae w.params h₀ W' σ' s')
theorem PD.here{d:D}{x:Value}{s':Shared}(hv:DV W.F.fs d x)(R:ae w.params h₀ W σ s'):PD h₀ W d σ x s':=⟨W,.refl W,hv,R⟩
theorem PD.pv{d:D}{x:Value}{s':Shared}(h:PD h₀ W (den W.F.en d) σ x s'):PV h₀ W (.d d) σ x s':=by
 obtain ⟨W',le,hv,R⟩:=h
 exact ⟨W',le,.d _ _ (by rw [le.fz.en];exact hv),R⟩
theorem CZ(op:Operator){a b:D}{x y:Value}(R:ae w.params h₀ W σ s)(ha:HV s.heap W.F.fs a x)(hb:HV s.heap W.F.fs b y) :
  Ok (EW op a b) λ d=>wpAny (model prog w) A (binaryOp op x y) (PD h₀ W d σ) ah s:=by
 cases ha with
 | int i t=>
  cases hb with
  | int j u=>
   cases op with
   | Add=>exact .some (add_int (.here (.int _ _) (R.toks _)))
   | Sub=>exact .some (sub_int (.here (.int _ _) (R.toks _)))
   | Mod=>exact .ifn λ h=> .some (mod_int' h (.here (.int _ _) (R.toks _)))
   | FloorDiv=>exact .ifn λ h=> .ifn λ p=> .some (floordiv_int h (.here (.int _ _) (R.toks _)) (.inl (Bool.eq_false_iff.mpr p)))
   | _=>exact .none
  | _=>exact .none
 | str i t=>
  cases hb with
  | str j u=>
   cases op with
   | Add=>exact .ifs λ h=> .some (add_str (λ t tk=> .here (.str _ _) (R.toks _)) h)
   | _=>exact .none
  | _=>exact .none
 | _=>exact .none
theorem C0(op:Operator){a b:D}{x y:Value}(R:ae w.params h₀ W σ s)(ha:HV s.heap W.F.fs a x)(hb:HV s.heap W.F.fs b y) :
  Ok (Ng op a b) λ d=>wpAny (model prog w) A (inplaceOp op x y) (PD h₀ W d σ) ah s:=by
 cases ha with
 | int i t=>
  cases hb with
  | int j u=>
   cases op with
   | Add=>exact .some (iadd_int (.here (.int _ _) (R.toks _)))
   | Sub=>exact .some (isub_int (.here (.int _ _) (R.toks _)))
   | _=>exact .none
  | _=>exact .none
 | _=>exact .none
theorem G7(op:UnaryOp){a:D}{x:Value}(R:ae w.params h₀ W σ s)(ha:HV s.heap W.F.fs a x) :
  Ok (Q8 op a) λ d=>wpAny (model prog w) A (unaryOp op x) (PD h₀ W d σ) ah s:=by
 cases op with
 | USub=>cases ha with
  | int i t=>exact .some (neg_int (.here (.int _ _) (R.toks _)))
  | _=>exact .none
 | _=>exact .none
theorem HV.isNo{h F a x}(ha:HV h F a x):isNo a=true∧x= .none∨isNo a=false∧x≠ .none:=by cases ha<;>first | exact .inl ⟨rfl,rfl⟩ | exact .inr ⟨rfl,nofun⟩
theorem CX(op:CmpOp){a b:D}{x y:Value}(R:ae w.params h₀ W σ s)(ha:HV s.heap W.F.fs a x)(hb:HV s.heap W.F.fs b y) :
  Ok (MO op a b) λ v=>wpAny (model prog w) A (compareOp op x y) (PD h₀ W (.bool v) σ) ah s:=by
 cases hb with
 | none=>
  show Ok (Ov op (isNo a)) _
  rcases ha.isNo with ⟨q,rfl⟩ | ⟨q,e⟩<;>rw [q]
  ·cases op with
   | Is=>exact .some (is_none_none (.here (.bool _) R))
   | IsNot=>exact .some (isnot_none_none (.here (.bool _) R))
   | _=>exact .none
  ·cases op with
   | Is=>exact .some (is_none_ne e (.here (.bool _) R))
   | IsNot=>exact .some (isnot_none_ne e (.here (.bool _) R))
   | _=>exact .none
 | int j u=>cases ha with
  | int i t=>cases op with
   | Eq=>exact .some (eq_int (.here (.bool _) R))
   | NotEq=>exact .some (ne_int (.here (.bool _) R))
   | Lt=>exact .some (lt_int (.here (.bool _) R))
   | LtE=>exact .some (le_int (.here (.bool _) R))
   | Gt=>exact .some (gt_int (.here (.bool _) R))
   | GtE=>exact .some (ge_int (.here (.bool _) R))
   | _=>exact .none
  | _=>exact .none
 | str j u=>cases ha with
  | str i t=>cases op with
   | Eq=>exact .some (eq_str (.here (.bool _) R))
   | NotEq=>exact .some (ne_str (.here (.bool _) R))
   | In=>exact .some (in_str (.here (.bool _) R))
   | NotIn=>exact .some (notIn_str (.here (.bool _) R))
   | _=>exact .none
  | _=>exact .none
 | bool d=>cases ha with
  | bool c=>cases op with
   | Is=>exact .some (is_bool (.here (.bool _) R))
   | IsNot=>exact .some (isnot_bool (.here (.bool _) R))
   | _=>exact .none
  | _=>exact .none
 | _=>exact .none
theorem au{h:Heap}{l:Addr}{xs:List Value}{n:Nat}(e:h.get? l=some (aF "list" xs n)):h.IsList l xs.toArray:=⟨_,e,rfl,n,rfl⟩
theorem je{h:Heap}{l:Addr}{xs:List Value}{n:Nat}(e:h.get? l=some (aF "tuple" xs n)):IsTup h l xs.toArray:=⟨_,e,rfl,n,rfl⟩
theorem PB.here{b:Bool}{s':Shared}(R:ae w.params h₀ W σ s'):PB h₀ W b σ b s':=⟨rfl,W,.refl W,R⟩
theorem D7(n:Nat):((n:Int) != 0)=(n != 0):=by rw [Bool.eq_iff_iff,bne_iff_ne,bne_iff_ne];omega
theorem wJ{a:D}{x:Value}(R:ae w.params h₀ W σ s)(ha:HV s.heap W.F.fs a x) :
  Ok (sP a) λ v=>wpAny (model prog w) A (truthy x) (PB h₀ W v σ) ah s:=by
 cases ha with
 | none=>exact .some (Uk (.here R))
 | bool b=>exact .some (wpAny_truthy_bool (.here R))
 | int i t=>exact .some (truthy_int (.here R))
 | str y t=>exact .ifs λ h=> .some (P.truthy_str (by rw [sizeLine_eq] at h;omega) (by rw [D7];exact .here (R.toks _)))
 | lst ds xs b n ho hs=>
  refine .ifs λ h=> .some (wpAny_truthy_list (au ho) (by rw [List.size_toArray,← hs.length];rw [sizeLine_eq] at h;omega) ?_)
  rw [show (!xs.toArray.isEmpty)=(ds.length != 0) by rw [hs.length];cases xs<;>simp]
  exact .here (R.toks _)
 | _=>exact .none
theorem dZ{i:Int}(h:d5 i=true) : -4611686018427387904<=i∧i<=4611686018427387904:=by
 simpa [d5] using h
theorem pE{i:Int}{n j:Nat}(h:jh i n=some j):(0<=i∧i.toNat=j∧j<n)∨(i<0 ∧ -(n:Int)<=i∧j=(i+n).toNat):=by
 unfold jh at h
 split at h
 ·rename_i h0
  split at h
  ·rename_i h1;cases h;exact .inl ⟨h0,rfl,by omega⟩
  ·cases h
 ·rename_i h0
  split at h
  ·rename_i h1;cases h;exact .inr ⟨by omega,h1,rfl⟩
  ·cases h
theorem pC{i:Int}{n j:Nat}(h:jh i n=some j):seqIndex? i n=some j:=by
 rcases pE h with ⟨h0,e,h1⟩ | ⟨h0,h1,e⟩
 ·unfold seqIndex?
  have:¬ i<0:=by omega
  simp only [this,if_false]
  rw [if_pos (by simp only [Bool.and_eq_true,decide_eq_true_eq];omega),e]
 ·rw [seqIndex_neg h0 h1,e]
theorem oP{α:Type}{n:Nat}{g:Nat->Option α}{b:D}{y:Value}{h F}(hb:HV h F b y){P:α->Prop}(k:∀ i t j d,y= .int i t->d5 i=true->jh i n=some j->g j=some d->P d):Ok (Da n g b) P:=by
 cases hb with
 | int i t=>exact .ifs λ q=> .bind .self λ j hj=>λ d hd=>k i t j d rfl q hj hd
 | _=>exact .none
theorem y8{a b:D}{x y:Value}(R:ae w.params h₀ W σ s)(ha:HV s.heap W.F.fs a x)(hb:HV s.heap W.F.fs b y) :
  Ok (kj a b) λ d=>wpAny (model prog w) A (getItem x y) (PD h₀ W d σ) ah s:=by
 cases ha with
 | lst ds xs l n ho hr=>
  refine oP hb λ i t j d e hsm hj hd=>?_
  subst e
  have hs:=dZ hsm
  obtain ⟨z,hz,r⟩:=hr.get hd
  rw [hr.length] at hj
  rcases pE hj with ⟨h0,e,h1⟩ | ⟨h0,h1,e⟩
  ·refine wpAny_getItem_list (au ho) h0 (by omega) ?_ (.here r R)
   rw [e];simpa using hz
  ·refine wpAny_getItem_list_neg (au ho) h0 (by simpa using h1) (by omega) ?_ (.here r R)
   rw [List.size_toArray,← e];simpa using hz
 | tup ds xs l n ho hr=>
  refine oP hb λ i t j d e hsm hj hd=>?_
  subst e
  have hs:=dZ hsm
  obtain ⟨z,hz,r⟩:=hr.get hd
  rw [hr.length] at hj
  exact getItem_tuple (je ho) (by omega) (by omega) (by rw [List.size_toArray];exact pC hj) (by simpa using hz) (.here r R)
 | str u tk=>
  refine oP hb λ i t j d e hsm hj hd=>?_
  subst e
  have hs:=dZ hsm
  obtain ⟨c,hc,rfl⟩:=Option.map_eq_some_iff.mp hd
  refine P.getItem_str ?_ (show (seqIndex? i u.length).bind (u.cps[·]?)=some c by rw [pC hj];exact hc) (.here (.str _ _) (R.toks _))
  rw [Bool.or_eq_false_iff];constructor<;>simp<;>omega
 | _=>exact .none
end
noncomputable def g0{α:Type}(sl:List (Str×α))(p:Str×α):List (Str×α):=if (sl.lookup p.1).isNone then sl++[(p.1,p.2)] else sl
noncomputable def xi{α:Type}(kd:Str->Option α):List Str->List (Str×α)->Option (List (Str×α))
 | [],sl=>some sl
 | n::l,sl=>if (sl.lookup n).isNone=true then (kd n).bind λ v=>xi kd l (sl++[(n,v)]) else xi kd l sl
noncomputable def eF{α:Type}(names kwonly:List Str)(dv:List α)(kd:Str->Option α)(pos:List α):Option (List (Str×α)):=
 if pos.length>names.length then none else
 if (!((names.take (names.length-(dv.drop (dv.length-names.length)).length)).filter λ n=>((names.zip pos).lookup n).isNone).isEmpty)=true then none else
 (xi kd kwonly (((names.drop (names.length-(dv.drop (dv.length-names.length)).length)).zip (dv.drop (dv.length-names.length))).foldl g0 (names.zip pos))).map λ sl=>(names++kwonly).filterMap λ n=>(sl.lookup n).map (n,·)
section
variable{M:Model}{A:Around}{s:Shared}
theorem qh{α:Type}{c:Prop}[Decidable c]{a b:Sem α}{Q:α->Shared->Prop}(hc:¬c)(h:wpAny M A b Q ah s):wpAny M A (if c then a else b) Q ah s:=by rw [if_neg hc];exact h
theorem mR{l:List (Str×Value)}{Q:List (Str×Value)->Shared->Prop}:∀ {sl:List (Str×Value)},Q (l.foldl g0 sl) s ->
  wpAny M A (forIn l sl λ x __s=>if (List.lookup x.fst __s).isNone=true then pure (ForInStep.yield (__s++[(x.fst,x.snd)])) else pure (ForInStep.yield __s)) Q ah s:=by
 induction l with
 | nil=>intro sl h;rw [List.forIn_nil];exact Uk h
 | cons p l ih=>
  intro sl h
  rw [List.forIn_cons]
  unfold g0 at ih h
  simp only [List.foldl_cons] at h
  by_cases q:(List.lookup p.1 sl).isNone=true
  ·rw [if_pos q] at h ⊢;exact Uj (Uk (ih h))
  ·rw [if_neg q] at h ⊢;exact Uj (Uk (ih h))
noncomputable abbrev NB:=List (Str×Value)×List Str
noncomputable def Lz(n:Str)(r:NB)(o:Option Value):Sem (ForInStep NB):=match o with
 | some v=>pure (ForInStep.yield (r.1++[(n,v)],r.2))
 | none=>pure (ForInStep.yield (r.1,r.2++[n]))
theorem fw{kwd:Value}{kd:Str->Option Value}{Q:NB->Shared->Prop}{f:Str->NB->Sem (ForInStep NB)}(h1:∀ n r,¬(List.lookup n r.1).isNone=true->f n r=pure (.yield r))(h2:∀ n r d,kwd= .ref d->(List.lookup n r.1).isNone=true->f n r=nsGet d n>>=Lz n r)
  (hk:∀ n v,kd n=some v->∃ d f,kwd= .ref d∧s.heap.Ns d f∧f n=some v):∀ (l:List Str) (sl:List (Str×Value)),Ok (xi kd l sl) λ sl'=>Q (sl',[]) s->wpAny M A (forIn l (sl,([]:List Str)) f) Q ah s
 | [],sl=> .some λ h=>by rw [List.forIn_nil];exact Uk h
 | n::l,sl=> .ite (λ q=> .bind .self λ v hv=>(fw h1 h2 hk l _).mono λ sl' ih h=>by
   obtain ⟨d,f,e1,e2,e3⟩:=hk n v hv
   rw [List.forIn_cons,h2 n _ d e1 q]
   refine Uj (Uj (wpAny_nsGet e2 ?_))
   rw [e3]
   exact Uk (ih h)) λ q=>(fw h1 h2 hk l sl).mono λ sl' ih h=>by
   rw [List.forIn_cons,h1 n _ q]
   exact Uj (Uk (ih h))
noncomputable def JF(fd:FuncData)(s:Shared)(dv:List Value):Prop:=(fd.defaults= .none∧dv=[])∨∃ T o n,fd.defaults= .ref T∧s.heap.get? T=some o∧o.data= .seq dv.toArray n
theorem EB{fd:FuncData}{dv:List Value}{Q:Option (Array Value)->Shared->Prop}(h:JF fd s dv)(k:∀ a,(a.getD #[]).toList=dv->Q a s):wpAny M A (seqItems? fd.defaults) Q ah s:=by
 rcases h with ⟨a,b⟩ | ⟨T,o,n,a,b,c⟩
 ·rw [a];exact Uk (k _ b.symm)
 ·rw [a];exact wpAny_seqItems b c (k _ rfl)
theorem j5{fd:FuncData}{pos dv:List Value}{kd:Str->Option Value}{b:List (Str×Value)}{Q:List (Str×Value)->Shared->Prop}
  (h1:fd.params.posonlyargs=[]) (h2:fd.params.vararg=none) (h3:fd.params.kwarg=none)
  (hd:JF fd s dv)
  (hk:∀ n v,kd n=some v->∃ d f,fd.kwdefaults= .ref d∧s.heap.Ns d f∧f n=some v)
  (e:eF (fd.params.args.map (·.arg)) (fd.params.kwonlyargs.map (·.arg)) dv kd pos=some b) (h:Q b s) :
  wpAny M A (bindArgs fd ⟨pos,[]⟩) Q ah s:=by
 obtain ⟨nm,qn,⟨po,ar,va,ko,kdl,kw,df⟩,body,sc,gl,cl,dfl,kwd,dc,pm,an,cd,ct,bu⟩:=fd
 dsimp only at h1 h2 h3
 subst h1 h2 h3
 refine Uj (Uk (Uj (EB hd λ dd hdd=>?_)))
 subst hdd
 refine Ok.ifn (P:=λ b=>Q b s->_) (λ h1=> .ifn λ h2=> .map .self λ sl hsl h=>?_) b e h
 refine qh (λ q=>h1 (of_decide_eq_true (Um.mp q).1)) (qh h2 (Uj (mR (Uj ?_))))
 refine fw (λ n r q=>if_neg q) (λ n r d e q=>?_) hk _ _ sl hsl (Uk h)
 subst e
 exact if_pos q
end
section
variable{ρ:List Addr}{F:Fz}
theorem KR.append{a b:List (Str×V)}{a' b':List (Str×Value)}(h:KR ρ F a a')(h':KR ρ F b b'):KR ρ F (a++b) (a'++b'):=by
 induction h with
 | nil=>exact h'
 | cons k v x m es hv _ ih=>exact .cons k v x _ _ hv ih
theorem KR.lookup{a:List (Str×V)}{a':List (Str×Value)}(h:KR ρ F a a')(n:Str):OV ρ F (a.lookup n) (a'.lookup n):=by
 induction h with
 | nil=>exact .none
 | cons k v x m es hv _ ih=>
  rw [List.lookup_cons,List.lookup_cons]
  cases n==k with
  | true=>exact .some v x hv
  | false=>exact ih
theorem OV.isNone{o:Option V}{p:Option Value}(h:OV ρ F o p):p.isNone=o.isNone:=by cases h<;>rfl
theorem KR.isNone{a:List (Str×V)}{a':List (Str×Value)}(h:KR ρ F a a')(n:Str):(a'.lookup n).isNone=(a.lookup n).isNone:=(h.lookup n).isNone
theorem KR.zip{ns:List Str}:∀ {vs:List V} {xs:List Value},VRs ρ F vs xs->KR ρ F (ns.zip vs) (ns.zip xs):=by
 induction ns with
 | nil=>intro vs xs _;exact .nil
 | cons n ns ih=>
  intro vs xs h
  cases h with
  | nil=>exact .nil
  | cons v x vs xs h hs=>exact .cons n v x _ _ h (ih hs)
theorem VRs.drop{vs:List V}{xs:List Value}(h:VRs ρ F vs xs)(n:Nat):VRs ρ F (vs.drop n) (xs.drop n):=by
 induction n generalizing vs xs with
 | zero=>exact h
 | succ n ih=>cases h with
  | nil=>exact .nil
  | cons v x vs xs h hs=>exact ih hs
theorem KR.defs{l:List (Str×V)}{l':List (Str×Value)}(h:KR ρ F l l'):∀ {a:List (Str×V)} {a':List (Str×Value)},KR ρ F a a'->KR ρ F (l.foldl g0 a) (l'.foldl g0 a'):=by
 induction h with
 | nil=>intro a a' h;exact h
 | cons k v x m es hv _ ih=>
  intro a a' h
  simp only [List.foldl_cons]
  refine ih ?_
  unfold g0
  rw [h.isNone]
  split
  ·exact h.append (.cons k v x _ _ hv .nil)
  ·exact h
theorem KR.kws{kd:Str->Option V}{kd':Str->Option Value}(hk:∀ n,Ok (kd n) λ v=>∃ x,kd' n=some x∧VR ρ F v x):∀ (l:List Str) {a:List (Str×V)} {a':List (Str×Value)},KR ρ F a a'->Ok (xi kd l a) λ b=>∃ b',xi kd' l a'=some b'∧KR ρ F b b'
 | [],a,a',h=> .some ⟨a',rfl,h⟩
 | n::l,a,a',h=>by
  have e:=h.isNone n
  refine .ite (λ q=> .bind (hk n) λ v ⟨x,hx,r⟩=>(KR.kws hk l (h.append (.cons n v x _ _ r .nil))).mono λ b ⟨b',eb,rb⟩=>⟨b',(if_pos (e.trans q)).trans ((congrArg (Option.bind · _) hx).trans eb),rb⟩)
   λ q=>(KR.kws hk l h).mono λ b ⟨b',eb,rb⟩=>⟨b',(if_neg λ z=>q (e.symm.trans z)).trans eb,rb⟩
theorem KR.pick{a:List (Str×V)}{a':List (Str×Value)}(h:KR ρ F a a'):∀ l:List Str,KR ρ F (l.filterMap λ n=>(a.lookup n).map (n,·)) (l.filterMap λ n=>(a'.lookup n).map (n,·))
 | []=> .nil
 | n::l=>by
  rw [List.filterMap_cons,List.filterMap_cons]
  have:=h.lookup n
  generalize a.lookup n=x,a'.lookup n=y at this
  cases this with
  | none=>exact KR.pick h l
  | some v x r=>exact .cons n v x _ _ r (KR.pick h l)
theorem xR{names kwonly:List Str}{dv:List V}{dx:List Value}{kd:Str->Option V}{kd':Str->Option Value}{pos:List V}{xs:List Value}
  (hd:VRs ρ F dv dx) (hk:∀ n,Ok (kd n) λ v=>∃ x,kd' n=some x∧VR ρ F v x) (hp:VRs ρ F pos xs):Ok (eF names kwonly dv kd pos) λ b=>∃ b',eF names kwonly dx kd' xs=some b'∧KR ρ F b b':=by
 unfold eF
 have hz:=KR.zip (ns:=names) hp
 rw [← hp.length,← hd.length,← (hd.drop _).length,show (λ n=>((names.zip xs).lookup n).isNone)=λ n=>((names.zip pos).lookup n).isNone from funext hz.isNone]
 refine .ifn λ h1=> .ifn λ h2=> .map (KR.kws hk _ (KR.defs (KR.zip (hd.drop _)) hz)) λ sl ⟨b',hb,hr⟩=>?_
 rw [if_neg h1,if_neg h2,hb]
 exact ⟨_,rfl,hr.pick _⟩
theorem LC{W W':Wd}{a:List (Str×V)}{b:List (Str×Value)}(h:KR W.ρ W.F a b)(le:W.le W'):KR W'.ρ W'.F a b:=by
 induction h with
 | nil=>exact .nil
 | cons k v x m es hv _ ih=>exact .cons k v x m es (hv.le le) ih
end
noncomputable def bU(c:aw):List (Str×V)->St->Option St
 | [],σ=>some σ
 | (x,v)::l,σ=>(aS c x v σ).bind (bU c l)
noncomputable def dq:List (Str×NameKind)->Nat->List (Str×Nat)->List (Str×Nat)
 | [],_,acc=>acc
 | (n,k)::r,i,acc=>if k== .cell then dq r (i+1) ((n,i)::acc) else dq r i acc
noncomputable def dF:List (Str×NameKind)->List (Option AO)
 | []=>[]
 | (_,k)::r=>if k== .cell then some ⟨.type "cell",none,.cell none⟩::dF r else dF r
noncomputable def ck(sc:Scope)(clo:List (Str×Nat))(qual:Str)(func:Option Addr)(code:Value)(around:Option aw)(σ:St):aw×St:=
 (match around with
  | none=>{ sc,fr:=σ.length,cells:=dq sc.names (σ.length+1) clo,qual,func,code,frame:=σ.length }
  | some o=>{ sc,fr:=σ.length,cells:=dq sc.names (σ.length+1) clo,qual,func,code:=o.code,frame:=o.frame },
  σ++(some ⟨.type (if around.isSome then "dict" else "frame"),none,.dict []⟩::dF sc.names))
section
variable{h₀:Heap}{W:Wd}{σ:St}{s:Shared}{A:Around}
theorem ae.new_size(R:ae w.params h₀ W σ s){o:Obj}(hf:o.isFreed=false){ao:AO}(hr:OR w.params (W.ρ++[s.heap.objs.size]) W.F ao o)(tk:Nat)(hnf:ao.data.isFro=false:=by rfl) :
  ae w.params h₀ { W with ρ:=W.ρ++[s.heap.objs.size] } (σ++[some ao]) { s with heap:=s.heap.push o,toks:=tk }:=by
 exact R.new (by rw [Heap.size_push];omega) (Nat.le_refl _) R.new_none (λ b o' e=>Heap.get?_push_of_some _ e) (Heap.get?_push_size _ hf) hr hnf
theorem Wd.le_new(W:Wd)(a:Addr):W.le { W with ρ:=W.ρ++[a] }:=⟨List.prefix_append _ _,.refl _,rfl,rfl,rfl⟩
noncomputable def be(ρ:List Addr)(l:List (Str×Nat)):List (Str×Addr):=l.map λ p=>(p.1,ad ρ p.2)
theorem fL{ρ ρ':List Addr}(h:ρ <+: ρ'){l:List (Str×Nat)}(hl:∀ p∈l,p.2<ρ.length):be ρ' l=be ρ l:=
 List.map_congr_left λ p hp=>by rw [gP h (hl p hp)]
theorem wS{names:List (Str×NameKind)}{f:Str×NameKind->List (Str×Addr)->Sem (ForInStep (List (Str×Addr)))}
  (hf:∀ n k cells,f (n,k) cells=if (k==NameKind.cell)=true then (do let __do_lift ← alloc { cls:= .type "cell",data:= .cell none };pure (ForInStep.yield ((n,__do_lift)::cells))) else pure (ForInStep.yield cells)) :
  ∀ {W:Wd} {σ:St} {s:Shared} {acc:List (Str×Nat)} {Q:List (Str×Addr)->Shared->Prop},ae w.params h₀ W σ s->(∀ p∈acc,p.2<W.ρ.length) ->
   (∀ W' s',W.le W'->ae w.params h₀ W' (σ++dF names) s'->(∀ p∈dq names σ.length acc,p.2<W'.ρ.length)->Q (be W'.ρ (dq names σ.length acc)) s') ->
   wpAny (model prog w) A (forIn names (be W.ρ acc) f) Q ah s:=by
 induction names with
 | nil=>
  intro W σ s acc Q R ha h
  rw [List.forIn_nil]
  exact Uk (h W s (.refl W) (by simpa [dF] using R) ha)
 | cons p names ih=>
  intro W σ s acc Q R ha h
  obtain ⟨n,k⟩:=p
  rw [List.forIn_cons,hf]
  by_cases q:(k==NameKind.cell)=true
  ·rw [if_pos q]
   simp only [dq,dF,q,if_true] at h
   have R':=R.new_size (o:={ cls:= .type "cell",data:= .cell none }) rfl (ao:=⟨.type "cell",none,.cell none⟩) (.mk _ _ _ _ _ .none .cell0) s.toks
   refine Uj (Uj (wpAny_alloc (Uk ?_)))
   have hpre:W.ρ <+: W.ρ++[s.heap.objs.size]:=List.prefix_append _ _
   have hl:=R.len
   have e:(n,s.heap.objs.size)::be W.ρ acc=be (W.ρ++[s.heap.objs.size]) ((n,σ.length)::acc):=by
    show _=(n,ad (W.ρ++[s.heap.objs.size]) σ.length)::be (W.ρ++[s.heap.objs.size]) acc
    rw [fL hpre ha,fm (a:=s.heap.objs.size) (by rw [hl];simp)]
   show wpAny _ _ (forIn names ((n,s.heap.objs.size)::be W.ρ acc) f) Q ah _
   rw [e]
   refine ih (W:={ W with ρ:=W.ρ++[s.heap.objs.size] }) (σ:=σ++[some ⟨.type "cell",none,.cell none⟩]) (acc:=(n,σ.length)::acc) R' (λ p hp=>?_) (λ W' s' le r hb=>?_)
   ·show p.2<(W.ρ++[s.heap.objs.size]).length
    rw [List.length_append,List.length_singleton]
    rcases List.mem_cons.mp hp with rfl | hp
    ·show σ.length<_;omega
    ·have:=ha p hp;omega
   ·have e2:(σ++[some (⟨.type "cell",none,.cell none⟩:AO)]).length=σ.length+1:=by simp
    rw [e2] at hb
    have:=h W' s' ((Wd.le_new W _).trans le) (by simpa using r) hb
    rw [e2];exact this
  ·rw [if_neg q]
   simp only [dq,dF,q,if_false,Bool.false_eq_true] at h
   exact Uj (Uk (ih R ha h))
theorem ti{c:aw}{f:Str×Value->PUnit->Sem (ForInStep PUnit)}:∀ {l:List (Str×V)} {lx:List (Str×Value)} {W:Wd} {σ σ':St} {s:Shared} {Q:PUnit->Shared->Prop}
  (_:∀ p u,f p u=(do storeName (c.env W.ρ) p.1 p.2;pure (.yield ⟨⟩))),
  ae w.params h₀ W σ s->c.Ok W.ρ.length->KR W.ρ W.F l lx->bU c l σ=some σ'->(∀ h' tk,ae w.params h₀ W σ' { s with heap:=h',toks:=tk }->Q ⟨⟩ { s with heap:=h',toks:=tk }) ->
  wpAny (model prog w) A (forIn lx ⟨⟩ f) Q ah s:=by
 intro l
 induction l with
 | nil=>intro lx W σ σ' s Q hf R ok hk e h;cases hk;cases e;rw [List.forIn_nil];exact Uk (h s.heap s.toks R)
 | cons p l ih=>
  intro lx W σ σ' s Q hf R ok hk e h
  cases hk with
  | cons k v x _ es hv hs=>
   rw [List.forIn_cons,hf]
   obtain ⟨σ₁,e1,e2⟩:=cY (show (aS c k v σ).bind (bU c l)=some σ' from e)
   exact Uj (Uj (bv R ok e1 hv λ h' tk r=>Uk (ih hf r ok hs e2 h)))
theorem iz{sc:Scope}{clo:List (Str×Nat)}{qual:Str}{func:Option Addr}{code:Value}{around:Option aw}{l:List (Str×V)}{lx:List (Str×Value)}{σ':St}{Q:Env->Shared->Prop}
  (R:ae w.params h₀ W σ s) (hk:sc.kind= .function) (hco:sc.isCoroutine=false) (hclo:∀ p∈clo,p.2<W.ρ.length) (hkr:KR W.ρ W.F l lx) (har:∀ o,around=some o->o.Ok W.ρ.length)
  (e:bU (ck sc clo qual func code around σ).1 l (ck sc clo qual func code around σ).2=some σ')
  (h:∀ W' s',W.le W'->ae w.params h₀ W' σ' s'->(ck sc clo qual func code around σ).1.Ok W'.ρ.length->W'.ρ[σ.length]?=some s.heap.objs.size->Q ((ck sc clo qual func code around σ).1.env W'.ρ) s') :
  wpAny (model prog w) A (newFunctionEnv sc mainGlobals (be W.ρ clo) lx qual func code (around.map (·.env W.ρ)) builtinsNs) Q ah s:=by
 have hl:=R.len
 have main:∀ (b:Bool),b=around.isSome->wpAny (model prog w) A (do
   let locals ← alloc { cls:= .type (if b then "dict" else "frame"),data:= .dict #[] }
   let mut cells:=be W.ρ clo
   for (name,kind) in sc.names do
    if kind== .cell then cells:=(name,← alloc { cls:= .type "cell",data:= .cell none })::cells
   let env:Env:=match around.map (·.env W.ρ) with
    | some outer=>{ scope:=sc,locals,globals:=mainGlobals,cells,qual,func,code:=outer.code,frame:=outer.frame,builtins:=outer.builtins }
    | none=>{ scope:=sc,locals,globals:=mainGlobals,cells,qual,func,code,frame:=some locals,builtins:=builtinsNs }
   for (name,v) in lx do storeName env name v
   return env) Q ah s:=by
  intro b hb
  have R':=R.new_size (o:={ cls:= .type (if b then "dict" else "frame"),data:= .dict #[] }) rfl (ao:=⟨.type (if b then "dict" else "frame"),none,.dict []⟩) (.mk _ _ _ _ _ .none (.dict [] [] 0 .nil)) s.toks
  refine Uj (wpAny_alloc ?_)
  have hpre:W.ρ <+: W.ρ++[s.heap.objs.size]:=List.prefix_append _ _
  rw [← fL hpre hclo]
  refine Uj (wS (W:={ W with ρ:=W.ρ++[s.heap.objs.size] }) (σ:=σ++[some ⟨.type (if b then "dict" else "frame"),none,.dict []⟩]) (acc:=clo) (λ n k cells=>rfl) R' (λ p hp=>?_) (λ W' s' le r hb'=>?_))
  ·show p.2<(W.ρ++[s.heap.objs.size]).length
   rw [List.length_append];have:=hclo p hp;omega
  ·have e2:(σ++[some (⟨.type (if b then "dict" else "frame"),none,.dict []⟩:AO)]).length=σ.length+1:=by simp
   rw [e2] at hb' ⊢
   have hle:W.le W':=(Wd.le_new W _).trans le
   have hloc:ad W'.ρ σ.length=s.heap.objs.size:=by
    rw [gP le.rho (by show σ.length<(W.ρ++[s.heap.objs.size]).length;rw [List.length_append,List.length_singleton];omega)]
    exact fm (by rw [hl];simp)
   have hlt:σ.length<W'.ρ.length:=Nat.lt_of_lt_of_le (by show σ.length<(W.ρ++[s.heap.objs.size]).length;rw [List.length_append,List.length_singleton];omega) le.rho.length_le
   have r':ae w.params h₀ W' (ck sc clo qual func code around σ).2 s':=by
    show ae w.params h₀ W' (σ++(some ⟨.type (if around.isSome then "dict" else "frame"),none,.dict []⟩::dF sc.names)) s'
    rw [← hb]
    simpa using r
   have ok:(ck sc clo qual func code around σ).1.Ok W'.ρ.length:=by
    cases around with
    | none=>exact ⟨hlt,hlt,hb',hk,hco⟩
    | some o=>exact ⟨hlt,(aw.Ok.le (har o rfl) hle).frame,hb',hk,hco⟩
   have henv:(match around.map (·.env W.ρ) with
    | some outer=>({ scope:=sc,locals:=s.heap.objs.size,globals:=mainGlobals,cells:=be W'.ρ (dq sc.names (σ.length+1) clo),qual,func,code:=outer.code,frame:=outer.frame,builtins:=outer.builtins }:Env)
    | none=>{ scope:=sc,locals:=s.heap.objs.size,globals:=mainGlobals,cells:=be W'.ρ (dq sc.names (σ.length+1) clo),qual,func,code,frame:=some s.heap.objs.size,builtins:=builtinsNs })=(ck sc clo qual func code around σ).1.env W'.ρ:=by
    cases around with
    | none=>simp only [Option.map_none,ck,aw.env,hloc];rfl
    | some o=>simp only [Option.map_some,ck,aw.env,hloc];rw [gP hle.rho (har o rfl).frame];rfl
   dsimp only
   rw [henv]
   refine Uj (ti (c:=(ck sc clo qual func code around σ).1) (λ _ _=>rfl) r' ok ?_ e λ h' tk r''=>Uk (h W' _ hle r'' ok (bF le.rho (by rw [hl];exact List.getElem?_concat_length))))
   exact LC hkr hle
 unfold newFunctionEnv
 cases around with
 | none=>exact main false rfl
 | some o=>exact main true rfl
end
structure Cx where
 glob:Str->Option Value
 fns:Addr->Option FuncData
 dfl:Addr->List V
 kdf:Addr->Str->Option V
 kdx:Addr->Str->Option Value
 K:bK
 O:eI
 cls:Addr
 own:Str->Bool
 mth:Str->Option Addr
 frz:Bool
 need:Nat
 blt:String->List V->St->Option (V×St)
 typ:String->List V->St->Option (V×St)
 cal:Addr->List V->St->Option (V×St)
structure GD(h₀:Heap)(X:Cx):Prop where
 df:∀ a fd,X.fns a=some fd->(fd.defaults= .none∧X.dfl a=[])∨∃ T o n dv,fd.defaults= .ref T∧T≠b8∧h₀.get? T=some o∧o.data= .seq (dv:List Value).toArray n∧∀ ρ F,VRs ρ F (X.dfl a) dv
 kd:∀ a fd,X.fns a=some fd->∀ n x,X.kdx a n=some x->∃ d f,fd.kwdefaults= .ref d∧h₀.Ns d f∧f n=some x
 kv:∀ a n v,X.kdf a n=some v->∃ x,X.kdx a n=some x∧∀ ρ F,VR ρ F v x
noncomputable def TO:Const->Option D
 | .none=>some .none
 | .bool b=>some (.bool b)
 | .int i=>some (.int i)
 | .str s=>some (.str s)
 | _=>none
noncomputable def fF(e:Expr):Bool:=e.ctorIdx==22
noncomputable abbrev fH:=jf
noncomputable def c7(r:b5)(c:aw):List Expr->St->Option (List V×St)
 | [],σ=>some ([],σ)
 | e::es,σ=>if fF e then none else (r.E c e σ).bind λ p=>(c7 r c es p.2).bind λ q=>some (p.1::q.1,q.2)
noncomputable def af(r:b5)(c:aw):List Stmt->St->Option (Fl×St)
 | [],σ=>some (.next,σ)
 | t::ts,σ=>(r.X c t σ).bind λ p=>match p.1 with
  | .next=>af r c ts p.2
  | f=>some (f,p.2)
section
variable{h₀:Heap}{n:Nat}{X:Cx}{r:b5}
theorem aC{α:Type}{M:Model}{A:Around}{t:Sem α}{Q Q':α->Shared->Prop}{s:Shared}(h:wpAny M A t Q ah s)(k:∀ a s',Q a s'->Q' a s'):wpAny M A t Q' ah s:=wpAny_mono h k λ _ _ x=>x
theorem aV{e:Expr}{es:List Expr}{env:Env}(h:fF e=false):starEach (e::es) env=(false,eval e env)::starEach es env:=by
 cases e<;>first | rfl | exact absurd (show true=false from h) (by decide)
theorem gK{K:bK}{O:eI}{W W':Wd}(k:cx K O W.F.en)(le:W.le W'):cx K O W'.F.en:=by rw [le.fz.en];exact k
structure Zx where
 h₀:Heap
 X:Cx
 n:Nat
 r:b5
structure Ht(Z:Zx)(A:Around)(W:Wd)(σ:St)(s:Shared):Prop where
 k:cx Z.X.K Z.X.O W.F.en
 a:bD Z.n A
 R:ae w.params Z.h₀ W σ s
structure At(Z:Zx)(c:aw)(env:Env)(A:Around)(W:Wd)(σ:St)(s:Shared):Prop extends Ht Z A W σ s where
 ok:c.Ok W.ρ.length
 e:c.env W.ρ=env
section
variable{Z:Zx}{c:aw}{env:Env}{A:Around}{W W':Wd}{σ σ':St}{s s':Shared}
theorem Ht.to(a:Ht Z A W σ s)(le:W.le W')(R:ae w.params Z.h₀ W' σ' s'):Ht Z A W' σ' s':=⟨gK a.k le,a.a,R⟩
theorem At.to(a:At Z c env A W σ s)(le:W.le W')(R:ae w.params Z.h₀ W' σ' s'):At Z c env A W' σ' s':=⟨a.toHt.to le R,a.ok.le le,(aw.env_le a.ok le).trans a.e⟩
theorem Ht.tk(a:Ht Z A W σ s)(t:Nat):Ht Z A W σ { s with toks:=t }:=⟨a.k,a.a,a.R.toks t⟩
theorem At.tk(a:At Z c env A W σ s)(t:Nat):At Z c env A W σ { s with toks:=t }:=⟨a.toHt.tk t,a.ok,a.e⟩
noncomputable def SV(Z:Zx)(c:aw)(t:Env->Sem Value)(σ:St)(p:V×St):Prop:=∀ env A W s,At Z c env A W σ s->wpAny (model prog w) A (t env) (PV Z.h₀ W p.1 p.2) ah s
noncomputable def J1(Z:Zx)(c:aw)(t:Env->Sem (List Value))(σ:St)(p:List V×St):Prop:=∀ env A W s,At Z c env A W σ s->wpAny (model prog w) A (t env) (Uc Z.h₀ W p.1 p.2) ah s
noncomputable def SB(Z:Zx)(c:aw)(t:Env->Sem Bool)(σ:St)(p:Bool×St):Prop:=∀ env A W s,At Z c env A W σ s->wpAny (model prog w) A (t env) (PB Z.h₀ W p.1 p.2) ah s
noncomputable def SF(Z:Zx)(c:aw)(t:Env->Sem Flow)(σ:St)(p:Fl×St):Prop:=∀ env A W s,At Z c env A W σ s->wpAny (model prog w) A (t env) (PF Z.h₀ W p.1 p.2) ah s
noncomputable def SU(Z:Zx)(c:aw)(t:Env->Sem Unit)(σ:St)(p:St):Prop:=∀ env A W s,At Z c env A W σ s->wpAny (model prog w) A (t env) (PU Z.h₀ W p) ah s
theorem SV.go{t:Env->Sem Value}{p:V×St}(h:SV Z c t σ p)(a:At Z c env A W σ s){Q:Value->Shared->Prop}
  (k:∀ x s' W',W.le W'->VR W'.ρ W'.F p.1 x->At Z c env A W' p.2 s'->Q x s'):wpAny (model prog w) A (t env) Q ah s:=
 aC (h env A W s a) λ x s' q=>let ⟨W',le,r,R⟩:=q;k x s' W' le r (a.to le R)
theorem J1.go{t:Env->Sem (List Value)}{p:List V×St}(h:J1 Z c t σ p)(a:At Z c env A W σ s){Q:List Value->Shared->Prop}
  (k:∀ x s' W',W.le W'->VRs W'.ρ W'.F p.1 x->At Z c env A W' p.2 s'->Q x s'):wpAny (model prog w) A (t env) Q ah s:=
 aC (h env A W s a) λ x s' q=>let ⟨W',le,r,R⟩:=q;k x s' W' le r (a.to le R)
theorem SB.go{t:Env->Sem Bool}{p:Bool×St}(h:SB Z c t σ p)(a:At Z c env A W σ s){Q:Bool->Shared->Prop}
  (k:∀ s' W',W.le W'->At Z c env A W' p.2 s'->Q p.1 s'):wpAny (model prog w) A (t env) Q ah s:=
 aC (h env A W s a) λ x s' q=>let ⟨e,W',le,R⟩:=q;e▸k s' W' le (a.to le R)
theorem SF.go{t:Env->Sem Flow}{p:Fl×St}(h:SF Z c t σ p)(a:At Z c env A W σ s){Q:Flow->Shared->Prop}
  (k:∀ x s' W',W.le W'->FR W' p.1 x->At Z c env A W' p.2 s'->Q x s'):wpAny (model prog w) A (t env) Q ah s:=
 aC (h env A W s a) λ x s' q=>let ⟨W',le,r,R⟩:=q;k x s' W' le r (a.to le R)
theorem SU.go{t:Env->Sem Unit}{p:St}(h:SU Z c t σ p)(a:At Z c env A W σ s){Q:Unit->Shared->Prop}
  (k:∀ s' W',W.le W'->At Z c env A W' p s'->Q () s'):wpAny (model prog w) A (t env) Q ah s:=
 aC (h env A W s a) λ _ s' q=>let ⟨W',le,R⟩:=q;k s' W' le (a.to le R)
end
structure cO(Z:Zx):Prop where
 E:∀ c e σ,Ok (Z.r.E c e σ) (SV Z c (eval e) σ)
 T:∀ c e σ,Ok (Z.r.T c e σ) (SB Z c (λ env=>isTrue e env (eval e env)) σ)
 X:∀ c t σ,Ok (Z.r.X c t σ) (SF Z c (exec t) σ)
 C:∀ f as ks σ,Ok (Z.r.C f as ks σ) λ p=>∀ A W s fx xs kx,Ht Z A W σ s->VR W.ρ W.F f fx->VRs W.ρ W.F as xs->KR W.ρ W.F ks kx->wpAny (model prog w) A (call fx xs kx) (PV Z.h₀ W p.1 p.2) ah s
 U:∀ c e σ x tp,jf e=true->Ok (Z.r.E c e σ) λ p=>Ok (aS c x p.1 p.2) (SU Z c (λ env=>evalThenUse e env (assign (.Name x tp) env)) σ)
section
variable{Z:Zx}{c:aw}{A:Around}{W:Wd}{σ:St}{s:Shared}
theorem cU(S:cO Z)(pos:Pos):∀ es σ,Ok (c7 Z.r c es σ) (J1 Z c (λ env=>spliced (backTo pos (starEach es env))) σ)
 | [],_=> .some λ _ _ W _ a=>Calls.spliced_nil ⟨W,.refl W,.nil,a.R⟩
 | e::es,σ=> .ifn λ hs=> .bind (S.E c e σ) λ p t=> .bind (cU S pos es p.2) λ q ts=> .some λ env A W s a=>by
  show wpAny _ _ (spliced (backTo pos (starEach (e::es) env))) _ _ _
  rw [aV (Bool.eq_false_iff.mpr hs)]
  exact Calls.spliced_cons (t.go a λ x _ _ l₁ dP a₁=>ts.go a₁ λ _ _ ay l₂ dH bj=>⟨ay,l₁.trans l₂,.cons _ _ _ _ (dP.le l₂) dH,bj.R⟩)
end
theorem aU{A:Around}{M:Model}{f:Value}{env:Env}{pos:Pos}{es:List Expr}{Q:Args->Shared->Prop}{s:Shared}(hes:∀ e∈es.head?,fF e=false)
  (h:wpAny M A (spliced (backTo pos (starEach es env))) (λ vs s'=>Q ⟨vs,[]⟩ s') ah s):wpAny M A (evalArgs f true (backTo pos (starEach es env)) []) Q ah s:=by
 cases es with
 | nil=>
  have h':wpAny M A (spliced []) (λ vs s'=>Q ⟨vs,[]⟩ s') ah s:=h
  show wpAny M A (evalArgs f true [] []) Q ah s
  unfold evalArgs
  show wpAny M A (spliced []>>=_) Q ah s
  refine Uj (aC h' λ vs s' h'=>?_)
  refine Uj (Uk ?_)
  refine Uo ?_
  exact Uj (Uk (Uj (Uk (Uk h'))))
 | cons e es=>
  have hs:=hes e (by rfl)
  rw [aV hs] at h ⊢
  exact Calls.evalArgs_plain h
noncomputable def B5(M:Model)(A:Around)(f:Value)(s:Shared):Prop:=∀ Q:Keeper->Shared->Prop,(∀ k,Q k s)->wpAny M A (keeperOf f) Q ah s
theorem aN{A:Around}{M:Model}{f:Value}{first:List Value}{args:List (Bool×Sem Value)}{kws:List (Option Str×Sem Value)}{pos:Pos}{Q:Value->Shared->Prop}{s:Shared}
  (h:wpAny M A (evalArgs f true args kws) (λ x ac=>B5 M A f ac∧wpAny M A (call f (first++x.pos) x.kw) Q ah ac) ah s) :
  wpAny M A (callWith pos f first args kws) Q ah s:=by
 unfold callWith
 refine Uj (Uo (aC h λ x ac ab=>Uj (wpAny_standAt ?_)))
 have tail:∀ {t:Sem Value},wpAny M A t Q ah ac->wpAny M A (t>>=λ r=>holding [r] point>>=λ _=>pure r) Q ah ac:=
  λ ht=>Uj (aC ht λ r az hr=>Uj (Uo (wpAny_point (Uk hr))))
 refine Uj (ab.1 _ λ k=>?_)
 cases hst:(args.any (·.1)||kws.any (·.1.isNone))<;>cases k<;>dsimp only
 all_goals first
  | exact tail ab.2
  | exact tail (by unfold callMarked;exact wpAny_keep ab.2)
  | exact tail (wpAny_operate' ab.2)
  | (refine wpAny_ite ?_;split<;>first | exact tail ab.2 | exact tail (by unfold callMarked;exact wpAny_keep ab.2))
  | (split<;>first | exact tail ab.2 | exact tail (by unfold callMarked;exact wpAny_keep ab.2))
end
inductive ws(h:Heap)(F:List (Addr×Obj)):List D->List Value->Prop
 | nil:ws h F [] []
 | cons (d:D) (x:Value) (ds:List D) (xs:List Value):HV h F d x->ws h F ds xs->ws h F (d::ds) (x::xs)
noncomputable def NK(h:Heap)(F:List (Addr×Obj)):List D->List Value->Prop
 | [],xs=>[]=xs
 | d::ds,xs=>oh (HV h F d) (ws h F ds) xs
theorem ws.inv{h F}{ds:List D}{xs:List Value}(k:ws h F ds xs):NK h F ds xs:=ws.casesOn (motive:=λ ds xs _=>NK h F ds xs) k rfl λ _ x _ xs h t=>⟨x,xs,h,t,rfl⟩
noncomputable def gE:Nat->List Value->Sem Value
 | 1,xs=>call (.builtin "list.index") xs []
 | 2,xs=>call (.builtin "str.join") xs []
 | 3,xs=>call (.builtin "str.split") xs []
 | 4,xs=>call (.builtin "sorted") xs []
 | 5,xs=>call (.type "str") xs []
 | 6,xs=>call (.builtin "str.replace") xs []
 | _,_=>unsupported ""
noncomputable def ux(Q:Value->Shared->Prop):Result->Shared->Prop:=λ r s'=>match r with
 | .ok (.ret x)=>Q x s'
 | _=>False
noncomputable abbrev CP(h₀:Heap)(W:Wd)(v:V)(σ':St):Result->Shared->Prop:=ux (PV h₀ W v σ')
noncomputable def sH(h₀:Heap)(X:Cx)(n:Nat):Prop:=∀ a as σ,Ok (X.cal a as σ) λ p=>∀ W s A xs,cx X.K X.O W.F.en->bD n A->ae w.params h₀ W σ s->VRs W.ρ W.F as xs->codeAny (model prog w) A (.call (.ref a) ⟨xs,[]⟩) (CP h₀ W p.1 p.2) s
structure j3(h₀:Heap)(X:Cx)(n:Nat):Prop where
 cmp:∀ p a b,Ok (X.O (.cmp p) [a,b]) λ d=>∀ W σ s A x y,bD n A->ae w.params h₀ W σ s->HV s.heap W.F.fs a x->HV s.heap W.F.fs b y->wpAny (model prog w) A (compareOp p x y) (PD h₀ W d σ) ah s
 bin:∀ p a b,Ok (X.O (.bin p) [a,b]) λ d=>∀ W σ s A x y,bD n A->ae w.params h₀ W σ s->HV s.heap W.F.fs a x->HV s.heap W.F.fs b y->wpAny (model prog w) A (binaryOp p x y) (PD h₀ W d σ) ah s
 meth:∀ k ds,k≠6->Ok (X.O (.meth k) ds) λ d=>∀ W σ s A xs,bD 0 A->ae w.params h₀ W σ s->ws s.heap W.F.fs ds xs->wpAny (model prog w) A (gE k xs) (PD h₀ W d σ) ah s
 fn:∀ a ds,Ok (X.O (.fn a) ds) λ d=>∀ W σ s A xs,bD n A->ae w.params h₀ W σ s->DVs W.F.fs ds xs->wpAny (model prog w) A (call (.ref a) xs []) (PD h₀ W d σ) ah s
 cal:sH h₀ X n
noncomputable def nf:List V->Option (List D)
 | []=>some []
 | .d d::vs=>(nf vs).map (d::·)
 | _::_=>none
noncomputable def ot:FuncBody->Option (List Stmt)
 | .stmts b=>some b
 | _=>none
theorem lF:∀ b,Ok (ot b) λ l=>b= .stmts l
 | .stmts _=> .some rfl
 | .expr _=> .none
noncomputable def jL(g:Bool)(fd:FuncData):Bool:=fd.params.posonlyargs.isEmpty&&fd.params.vararg.isNone&&fd.params.kwarg.isNone&&!fd.scope.isCoroutine&&fd.scope.isGenerator==g&&fd.scope.kind== .function&&fd.globals==mainGlobals&&fd.closure.isEmpty&&fd.builtins==builtinsNs
noncomputable abbrev iZ:FuncData->Bool:=jL false
noncomputable def bC(fd:FuncData)(a:Addr)(σ:St):aw×St:=ck fd.scope [] (fd.qualname ++ ".<locals>.") (some a) fd.code none σ
noncomputable def oW:Fl->V
 | .ret v=>v
 | _=> .d .none
noncomputable def lm(X:Cx)(r:b5)(a:Addr)(as:List V)(σ:St):Option (V×St):=
 (X.fns a).bind λ fd=>if iZ fd then (ot fd.body).bind λ body=>
   (eF (fd.params.args.map (·.arg)) (fd.params.kwonlyargs.map (·.arg)) (X.dfl a) (X.kdf a) as).bind λ b=>
   (bU (bC fd a σ).1 b (bC fd a σ).2).bind λ σ₁=>
   (af r (bC fd a σ).1 body σ₁).bind λ p=>some (oW p.1,p.2)
 else none
section
variable{h₀:Heap}{Z:Zx}{c:aw}
theorem lu:∀ vs,Ok (nf vs) λ ds=>vs=ds.map .d
 | []=> .some rfl
 | .d d::vs=> .map (lu vs) λ _ e=>by rw [e];rfl
 | .glob _::_=> .none
 | .ref _::_=> .none
 | .tup _::_=> .none
 | .rcd ..::_=> .none
theorem wk{vs:List V}{ds:List D}(h:nf vs=some ds):vs=ds.map .d:=lu vs ds h
theorem VRs.data{ρ:List Addr}{F:Fz}{ds:List D}{xs:List Value}(h:VRs ρ F (ds.map .d) xs):DVs F.fs (dens F.en ds) xs:=by
 induction ds generalizing xs with
 | nil=>exact (show []=xs from h.inv)▸ .nil
 | cons d ds ih=>exact oh.casesOn h.inv λ x ys a b q=>q▸ .cons _ x _ ys (VR.inv a) (ih b)
theorem FR.nn{W:Wd}{f:Fl}{x:Flow}(h:f≠ .next)(r:FR W f x):x≠ .next:=by
 rintro rfl;cases f<;>first | exact h rfl | exact r
theorem SF.stop{t:Stmt}{ts:List Stmt}{σ σ':St}{f:Fl}(h:SF Z c (exec t) σ (f,σ'))(hf:f≠ .next):SF Z c (execs (t::ts)) σ (f,σ'):=λ _ _ _ _ a=>
 wpAny_execs_cons (h.go a λ x _ W₁ l r a₁=>by cases x with
  | next=>exact absurd rfl (r.nn hf)
  | _=>exact ⟨W₁,l,r,a₁.R⟩)
theorem FR.next{W:Wd}{x:Flow}(r:FR W .next x):x= .next:=by cases x<;>first | rfl | exact r.elim
theorem aE(S:cO Z):∀ ts σ,Ok (af Z.r c ts σ) (SF Z c (execs ts) σ)
 | [],_=> .some λ _ _ W _ a=>wpAny_execs_nil ⟨W,.refl W,trivial,a.R⟩
 | t::ts,σ=> .bind (S.X c t σ) λ p h=>match p,h with
  | (.next,σ₁),h=>(aE S ts σ₁).mono λ q k _ _ _ _ a=>wpAny_execs_cons (h.go a λ x _ W₁ l r a₁=>by
    rw [show x= .next from FR.next r];exact aC (k _ _ _ _ a₁) λ _ _ z=>z.le l)
  | (.brk,_),h=> .some (h.stop nofun)
  | (.cont,_),h=> .some (h.stop nofun)
  | (.ret _,_),h=> .some (h.stop nofun)
theorem ae.code{glob fns}{W:Wd}{σ:St}{s:Shared}(G:GC h₀ glob fns)(R:ae w.params h₀ W σ s){a:Addr}{fd:FuncData}(h:fns a=some fd) :
  (∃ o x,s.heap.get? a=some o∧o.data= .func (F9 fd x))∧s.heap.CodeRec fd.code fd.qualname:=by
 obtain ⟨ha,⟨o,x,ho,_,hd⟩,hc,hct⟩:=G.fn a fd h
 refine ⟨⟨o,x,R.old a o ho ha,hd⟩,?_⟩
 obtain ⟨c,oc,vs,tq,hc',hoc,r⟩:=hc
 exact ⟨c,oc,vs,tq,hc',R.old c oc hoc (λ e=>hct (by rw [hc',e])),r⟩
theorem ca{Q:Value->Shared->Prop}{A:Around}{s:Shared}{f:Value}{xs:List Value}{kx:List (Str×Value)}(h:codeAny (model prog w) A (.call f ⟨xs,kx⟩) (ux Q) s):wpAny (model prog w) A (call f xs kx) Q ah s:=by
 refine wpAny_call (codeAny_mono h λ r s' q=>?_)
 cases r with
 | ok f=>cases f<;>exact q
 | error e=>exact q.elim
structure qa(g:Bool)(fd:FuncData):Prop where
 p1:fd.params.posonlyargs=[]
 p2:fd.params.vararg=none
 p3:fd.params.kwarg=none
 co:fd.scope.isCoroutine=false
 ge:fd.scope.isGenerator=g
 ki:fd.scope.kind= .function
 gl:fd.globals=mainGlobals
 cl:fd.closure=[]
 bu:fd.builtins=builtinsNs
theorem iD{g:Bool}{fd:FuncData}(h:jL g fd=true):qa g fd:=
 have q9:=Um.mp h
 have q8:=Um.mp q9.1
 have q7:=Um.mp q8.1
 have q6:=Um.mp q7.1
 have q5:=Um.mp q6.1
 have q4:=Um.mp q5.1
 have q3:=Um.mp q4.1
 have q2:=Um.mp q3.1
 ⟨List.isEmpty_iff.mp q2.1,Option.isNone_iff_eq_none.mp q2.2,Option.isNone_iff_eq_none.mp q3.2,(Bool.not_eq_true' _).mp q4.2,eq_of_beq q5.2,eq_of_beq q6.2,eq_of_beq q7.2,List.isEmpty_iff.mp q8.2,eq_of_beq q9.2⟩
theorem qa.env{g:Bool}{fd:FuncData}(h:qa g fd){bx:List (Str×Value)}{q:Str}{f:Option Addr}{c:Value}:newFunctionEnv fd.scope fd.globals fd.closure bx q f c none fd.builtins=newFunctionEnv fd.scope mainGlobals [] bx q f c none builtinsNs:=by rw [h.gl,h.cl,h.bu]
theorem ME{X:Cx}{W:Wd}{σ:St}{s:Shared}(D:GD h₀ X)(R:ae w.params h₀ W σ s){a:Addr}{fd:FuncData}(h:X.fns a=some fd):∃ dv,JF fd s dv∧VRs W.ρ W.F (X.dfl a) dv:=by
 rcases D.df a fd h with ⟨q1,q2⟩ | ⟨T,o,m,dv,q1,q2,q3,q4,q5⟩
 ·exact ⟨[],.inl ⟨q1,rfl⟩,by rw [q2];exact .nil⟩
 ·exact ⟨dv,.inr ⟨T,o,m,q1,R.old T o q3 q2,q4⟩,q5 _ _⟩
theorem qL{X:Cx}{W:Wd}{σ:St}{s:Shared}{as:List V}{xs:List Value}(G:GC h₀ X.glob X.fns)(D:GD h₀ X)(R:ae w.params h₀ W σ s){a:Addr}{fd:FuncData}(h:X.fns a=some fd){g:Bool}(hc:jL g fd=true)(hx:VRs W.ρ W.F as xs) :
  Ok (eF (fd.params.args.map (·.arg)) (fd.params.kwonlyargs.map (·.arg)) (X.dfl a) (X.kdf a) as) λ b=>∃ bx,KR W.ρ W.F b bx∧∀ {M:Model} {A:Around} {fx} {Q:List (Str×Value)->Shared->Prop},Q bx s->wpAny M A (bindArgs (F9 fd fx) ⟨xs,[]⟩) Q ah s:=by
 obtain ⟨dv,hdv,hdx⟩:=ME D R h
 have hp:=iD hc
 exact (xR hdx (λ n v q=>let ⟨x,q1,q2⟩:=D.kv a n v q;⟨x,q1,q2 _ _⟩) hx).mono λ b ⟨bx,hbx,hkr⟩=>⟨bx,hkr,λ {M A fx Q} hq=>
  j5 (fd:=F9 fd fx) hp.p1 hp.p2 hp.p3 hdv (λ n x q=>let ⟨d,f,q1,q2,q3⟩:=D.kd a fd h n x q;⟨d,f,q1,R.ns G q2,q3⟩) hbx hq⟩
noncomputable abbrev KQ:Flow->Value
 | .ret v=>v
 | _=> .none
theorem kY{W:Wd}{f:Fl}{x:Flow}(r:FR W f x):VR W.ρ W.F (oW f) (KQ x):=by
 cases f with
 | ret v=>cases x with
  | ret y=>exact r
  | _=>exact False.elim r
 | _=>cases x with
  | ret y=>exact False.elim r
  | _=>exact .mkNone
theorem ia{X:Cx}{n:Nat}{W:Wd}{σ σ₁:St}{s:Shared}{A:Around}{a:Addr}{fd:FuncData}{body:List Stmt}{as:List V}{xs:List Value}{b:List (Str×V)}{Q:Value->Shared->Prop}(G:GC h₀ X.glob X.fns)(D:GD h₀ X)(hfd:X.fns a=some fd)(hc:iZ fd=true)(hb:fd.body= .stmts body)
  (hbind:eF (fd.params.args.map (·.arg)) (fd.params.kwonlyargs.map (·.arg)) (X.dfl a) (X.kdf a) as=some b) (hst:bU (bC fd a σ).1 b (bC fd a σ).2=some σ₁) (ha:bD (n+1) A) (R:ae w.params h₀ W σ s) (hx:VRs W.ρ W.F as xs)
  (h:∀ A' W' s',bD n A'->W.le W'->ae w.params h₀ W' σ₁ s'->(bC fd a σ).1.Ok W'.ρ.length->wpAny (model prog w) A' (execs body ((bC fd a σ).1.env W'.ρ)) (λ x az=>Q (KQ x) az) ah s'):codeAny (model prog w) A (.call (.ref a) ⟨xs,[]⟩) (ux Q) s:=by
 have pf:=iD hc
 obtain ⟨⟨o,fx,ho,hd⟩,hcode⟩:=R.code G hfd
 obtain ⟨bx,hkr,hba⟩:=qL G D R hfd hc hx b hbind
 refine codeAny_call_function ha.room ho hd pf.co pf.ge hb hcode (bn (hba (bn (cP pf.env ?_))))
 exact iz (clo:=[]) (around:=none) R pf.ki pf.co (λ p hp=>nm hp) hkr (λ o q=>ns q) hst λ W' s' le R' ok' _=>⟨R'.nolimit G,codeAny_func (bn (aC (h _ W' s' (ha.deeper _) le R' ok') λ x az ik=>by cases x<;>exact ik))⟩
theorem yR(S:cO Z)(G:GC Z.h₀ Z.X.glob Z.X.fns)(D:GD Z.h₀ Z.X)(a:Addr)(as:List V)(σ:St):Ok (lm Z.X Z.r a as σ) λ p=>∀ W A s xs,cx Z.X.K Z.X.O W.F.en->bD (Z.n+1) A->ae w.params Z.h₀ W σ s->VRs W.ρ W.F as xs ->
  codeAny (model prog w) A (.call (.ref a) ⟨xs,[]⟩) (CP Z.h₀ W p.1 p.2) s:=by
 refine .bind .self λ fd hfd=> .ifs λ hc=> .bind (lF _) λ body hb=> .bind .self λ b hbind=> .bind .self λ σ₁ hst=> .bind (aE S body σ₁) λ p hp=> .some λ W A s xs k ha R hx=>?_
 exact ia G D hfd hc hb hbind hst ha R hx λ A' W' s' ha' le R' ok'=>aC (hp _ _ _ _ ⟨⟨gK k le,ha',R'⟩,ok',rfl⟩) λ x az ⟨ay,aq,qk,aG⟩=>⟨ay,le.trans aq,kY qk,aG⟩
end
noncomputable def f9:V->Option Nat
 | .ref i=>some i
 | _=>none
theorem bh:∀ v,Ok (f9 v) λ i=>v= .ref i
 | .ref _=> .some rfl
 | .d _=> .none
 | .glob _=> .none
 | .tup _=> .none
 | .rcd ..=> .none
noncomputable def sS:V->Option Str
 | .d (.str k)=>some k
 | _=>none
noncomputable def ug(o:AO):Option (List (Str×V)):=if o.cls= .type "dict" ∧ o.dict.isNone=true then kl o else none
noncomputable def Kt:AD->Option (List Str)
 | .sset l=>some l
 | _=>none
noncomputable def tA(o:AO):Option (List Str):=if o.cls= .type "set" ∧ o.dict.isNone=true then Kt o.data else none
inductive sF(W:Wd)(s:Shared)(i:Nat)(m:List (Str×V))(x:Value):Prop
 | mk (a:Addr) (es:List DictEntry) (ep:Nat) (e:x= .ref a) (hi:W.ρ[i]?=some a) (hg:s.heap.get? a=some ⟨.type "dict",none,.dict es.toArray ep,#[]⟩) (hE:ER w.params W.ρ W.F m es)
inductive Gy(W:Wd)(s:Shared)(i:Nat)(l:List Str)(x:Value):Prop
 | mk (a:Addr) (d:Data) (e:x= .ref a) (hi:W.ρ[i]?=some a) (hg:s.heap.get? a=some ⟨.type "set",none,d,#[]⟩) (hd:cF w.params l d)
inductive Ny(W:Wd)(s:Shared)(m:List (Str×V))(x:Value):Prop
 | mk (a:Addr) (f:Str->Option Value) (e:x= .ref a) (h:s.heap.MapOf (strKind prog w) a f) (hf:∀ k,OV W.ρ W.F (jR m k) (f k))
noncomputable def ud(P:Params)(p:Str×Tok):Int×Value:=(cg P p.1,Value.str p.1 p.2)
section
variable{W:Wd}{σ:St}{s:Shared}{i:Nat}{x:Value}
theorem gT{ρ F}{v:V}(h:VR ρ F v x):Ok (sS v) λ k=>∃ t,x= .str k t:=by
 cases v with
 | d d=>cases d with
  | str k=>exact .some h.str
  | _=>exact .none
 | _=>exact .none
theorem pT{o:AO}(h:oa w.params W s i o x):Ok (ug o) λ m=>sF W s i m x:= .ifs λ q=>(dD o).mono λ m em=>by
 obtain ⟨a,dx,dt,e,hi,ho,hd,hr⟩:=h
 rw [em] at hr
 obtain ⟨es,n,hE,ed⟩:=hr.inv
 exact ⟨a,es,n,e,hi,by rw [ho,q.1,hd.nil q.2,← ed],hE⟩
theorem oN{o:AO}(h:oa w.params W s i o x):Ok (tA o) λ l=>Gy W s i l x:= .ifs λ q=>by
 obtain ⟨a,dx,dt,e,hi,ho,hd,hr⟩:=h
 rw [q.1,hd.nil q.2] at ho
 generalize o.data=ad at hr
 cases ad with
 | sset l=>exact .some ⟨a,dt,e,hi,ho,hr.inv⟩
 | _=>exact .none
theorem pz(k n:Str)(t:Tok):(strKind prog w).is k (.str n t)=decide (n=k):=by
 show Value.isStrOf k (.str n t)=_
 unfold Value.isStrOf
 by_cases h:n=k<;>simp [h]
theorem xB(k:Str)(l:List DictEntry)(h:∀ e∈l,∃ n t,e.key= .str n t):l.find? (λ e=>(strKind prog w).is k e.key)=l.find? λ e=>e.key.isStr k:=by
 induction l with
 | nil=>rfl
 | cons e l ih=>
  obtain ⟨⟨n,t,hn⟩,h⟩:=List.forall_mem_cons.mp h
  rw [List.find?_cons,List.find?_cons,ih h,show (strKind prog w).is k e.key=e.key.isStr k by rw [hn,pz];rfl]
theorem pI{es:Array DictEntry}(k:Str)(h:StrKeys es):findBy (strKind prog w).is es k=nsFind es k:=by
 unfold nsFind findBy
 refine congrArg (Option.map _) ?_
 rw [← Array.find?_toList,← Array.find?_toList]
 exact xB k _ λ e he=>h e (Array.mem_toList_iff.mp he)
theorem vR{ρ:List Addr}{F:Fz}{m:List (Str×V)}{es:List DictEntry}(h:ER w.params ρ F m es):∀ e∈es,∃ k,(strKind prog w).is k e.key=true∧e.hash=(strKind prog w).hash k:=by
 induction h with
 | nil=>exact λ e he=>nm he
 | cons k v t x m es _ _ ih=>exact List.forall_mem_cons.mpr ⟨⟨k,strKind_is prog w k t,rfl⟩,ih⟩
theorem sF.map{m:List (Str×V)}(h:sF W s i m x):Ny W s m x:=
 let ⟨a,es,ep,e,_,hg,hE⟩:=h
 ⟨a,nsFind es.toArray,e,⟨_,es.toArray,ep,hg,⟨rfl,rfl,rfl⟩,rfl,λ e he=>vR hE e (List.mem_toArray.mp he),λ k=>pI k hE.keys⟩,λ k=>hE.find k⟩
theorem mu{lt:List (Str×Tok)}:ElemsOf (strKind prog w) (lt.map (ud w.params)):=λ e he=>
 let ⟨p,_,h⟩:=List.mem_map.mp he
 h▸⟨⟨p.1,strKind_is prog w p.1 p.2,rfl⟩,rfl⟩
theorem cF.of{h:Heap}{a:Addr}{l:List Str}{d:Data}(ho:h.get? a=some ⟨.type "set",none,d,#[]⟩)(hS:cF w.params l d):h.SetOf (strKind prog w) a (λ k=>l.contains k) l.length:=by
 obtain ⟨es,ep,tb,lt,rfl,hf,hb,he,hp,hpl⟩:=hS
 have he':es.toList=lt.map (ud w.params):=he
 refine ⟨_,es,ep,tb,ho,⟨rfl,rfl,rfl⟩,rfl,he'▸mu,λ k=>?_,hb,hf,?_⟩
 ·rw [he',List.contains_iff_mem,← hp.mem_iff]
  refine ⟨λ hm=>let ⟨p,hpm,e⟩:=List.mem_map.mp hm;⟨ud w.params p,List.mem_map.mpr ⟨p,hpm,rfl⟩,(pz k p.1 p.2).trans (decide_eq_true e)⟩,λ ⟨e,hm,hk⟩=>?_⟩
  obtain ⟨p,hpm,rfl⟩:=List.mem_map.mp hm
  exact List.mem_map.mpr ⟨p,hpm,of_decide_eq_true ((pz k p.1 p.2).symm.trans hk)⟩
 ·rw [← Array.length_toList,he',List.length_map,← List.length_map (f:=(·.1)) (as:=lt),hp.length_eq]
end
noncomputable def xH(X:Cx)(o:Op)(a b:V)(σ:St):Option D:=(fY σ a).bind λ da=>(fY σ b).bind λ db=>kO X.K X.O o [da,db]
noncomputable def I1(X:Cx)(o:Op)(a:V)(σ:St):Option D:=(fY σ a).bind λ da=>kO X.K X.O o [da]
noncomputable def vB:V->Option Bool
 | .d .none=>some true
 | .d (.var _)=>none
 | .glob _=>none
 | _=>some false
noncomputable def F0:V->Bool
 | .d .none=>true
 | _=>false
noncomputable def Lh:CmpOp->Bool
 | .NotIn=>true
 | _=>false
noncomputable def zY(p:CmpOp)(a b:V)(σ:St):Option D:=if Lh p=true then (sS a).bind λ k=>(f9 b).bind λ i=>(σ.at i).bind λ o=>(tA o).map λ l=> .bool (!l.contains k) else none
noncomputable def ui(X:Cx)(p:CmpOp)(a b:V)(σ:St):Option D:=(((if F0 b then (vB a).bind (Ov p) else none).map .bool).or (xH X (.cmp p) a b σ)).or (zY p a b σ)
noncomputable def wY(o:AO):Option (List V):=if o.cls= .type "list" ∧ o.dict.isNone then (match o.data with | .seq vs=>some vs | _=>none) else none
noncomputable def wd:D->Option Bool
 | .bool b=>some b
 | _=>none
noncomputable def sO(X:Cx)(a:V)(σ:St):Option Bool:=((I1 X .truth a σ).bind wd).or
 ((f9 a).bind λ i=>(σ.at i).bind λ o=>(wY o).bind λ vs=>if vs.length<=1048576 then some (vs.length != 0) else none)
noncomputable def LY:V->Option Int
 | .d (.int k)=>some k
 | _=>none
noncomputable def Fx:V->Option (List V)
 | .tup vs=>some vs
 | _=>none
noncomputable def D0(σ:St)(a b:V):Option V:=(LY b).bind λ k=>if d5 k then
  (((f9 a).bind λ i=>(σ.at i).bind wY).or (Fx a)).bind λ vs=>(jh k vs.length).bind (vs[·]?)
 else none
noncomputable def FY(X:Cx)(a b:V)(σ:St):Option V:=(D0 σ a b).or ((xH X .item a b σ).map .d)
theorem yj:∀ v,Ok (Fx v) λ i=>v= .tup i
 | .tup _=> .some rfl
 | .d _=> .none
 | .glob _=> .none
 | .ref _=> .none
 | .rcd ..=> .none
section
variable{Z:Zx}{h₀:Heap}{X:Cx}{W:Wd}{σ:St}{s:Shared}{A:Around}
theorem lh{o:Op}{a b:V}{x y:Value}{P:D->Prop}(k:cx X.K X.O W.F.en)(R:ae w.params h₀ W σ s)(ha:VR W.ρ W.F a x)(hb:VR W.ρ W.F b y)
  (g:∀ da db,HV s.heap W.F.fs da x->HV s.heap W.F.fs db y->Ok (av X.O o [da,db]) λ e=>∀ d,e=den W.F.en d->P d):Ok (xH X o a b σ) P:=
 .bind (dA R ha) λ _ h1=> .bind (dA R hb) λ _ h2=>(cj k).mono λ d h=>g _ _ h1 h2 _ h d rfl
theorem vV{o:Op}{a:V}{x:Value}{P:D->Prop}(k:cx X.K X.O W.F.en)(R:ae w.params h₀ W σ s)(ha:VR W.ρ W.F a x)
  (g:∀ da,HV s.heap W.F.fs da x->Ok (av X.O o [da]) λ e=>∀ d,e=den W.F.en d->P d):Ok (I1 X o a σ) P:=
 .bind (dA R ha) λ _ h1=>(cj k).mono λ d h=>g _ h1 _ h d rfl
theorem PD.go{t:Sem Value}{e:D}(h:wpAny (model prog w) A t (PD h₀ W e σ) ah s):∀ d,e=den W.F.en d->wpAny (model prog w) A t (PV h₀ W (.d d) σ) ah s:=λ _ q=>aC h λ _ _ z=>PD.pv (q▸z)
theorem tU{ρ F}{a:V}{x:Value}(ha:VR ρ F a x):Ok (vB a) λ r=>r=true∧x= .none∨r=false∧x≠ .none:=by
 cases ha with
 | d d _ q=>cases d with
  | var=>exact .none
  | none=>cases q;exact .some (.inl ⟨rfl,rfl⟩)
  | _=>exact .some (.inr ⟨rfl,by rintro rfl;exact nomatch q⟩)
 | glob _=>exact .none
 | _=>exact .some (.inr ⟨rfl,nofun⟩)
theorem AI{ρ F}{b:V}{y:Value}(hb:VR ρ F b y)(h:F0 b=true):y= .none:=by
 cases b with
 | d d=>cases d with
  | none=>exact hb.none
  | _=>exact ft h
 | _=>exact ft h
theorem Bm(O:j3 Z.h₀ Z.X Z.n)(p:CmpOp){a b:V}{x y:Value}(h:Ht Z A W σ s)(ha:VR W.ρ W.F a x)(hb:VR W.ρ W.F b y):Ok (xH Z.X (.cmp p) a b σ) λ d=>wpAny (model prog w) A (compareOp p x y) (PV Z.h₀ W (.d d) σ) ah s:=
 lh h.k h.R ha hb λ _ _ h1 h2=> .or (.map (CX p h.R h1 h2) λ _=>PD.go) ((O.cmp p _ _).mono λ _ q=>PD.go (q _ _ _ _ _ _ h.a h.R h1 h2))
theorem wM(p:CmpOp){a b:V}{x y:Value}(R:ae w.params h₀ W σ s)(ha:VR W.ρ W.F a x)(hb:VR W.ρ W.F b y):Ok (zY p a b σ) λ d=>wpAny (model prog w) A (compareOp p x y) (PV h₀ W (.d d) σ) ah s:=by
 cases p with
 | NotIn=>exact .ifs λ _=> .bind (gT ha) λ k hk=> .bind (bh b) λ i eb=> .bind .self λ o ho=> .map (oN (R.ref ho (eb▸hb))) λ l hs=>
   let ⟨t,ex⟩:=hk
   let ⟨S,d,ey,_,hg,hd⟩:=hs
   ex▸ey▸wpAny_notInSet_of (knd:=strKind prog w) (strKind_is prog w k t) rfl (hd.of hg) (.here (.mkBool _) (R.toks _))
 | _=>exact .none
theorem iW(O:j3 Z.h₀ Z.X Z.n)(p:CmpOp){a b:V}{x y:Value}(h:Ht Z A W σ s)(ha:VR W.ρ W.F a x)(hb:VR W.ρ W.F b y) :
  Ok (ui Z.X p a b σ) λ d=>wpAny (model prog w) A (compareOp p x y) (PV Z.h₀ W (.d d) σ) ah s:=by
 refine .or (.or (.map (.ifs λ hn=> .bind (tU ha) λ r hr=>?_) λ _ z=>z) (Bm O p h ha hb)) (wM p h.R ha hb)
 cases AI hb hn
 rcases hr with ⟨rfl,rfl⟩ | ⟨rfl,hx⟩<;>cases p<;>first
  | exact .none
  | exact .some (is_none_none (.here (.mkBool _) h.R))
  | exact .some (is_none_ne hx (.here (.mkBool _) h.R))
  | exact .some (isnot_none_none (.here (.mkBool _) h.R))
  | exact .some (isnot_none_ne hx (.here (.mkBool _) h.R))
inductive SeqAt(W:Wd)(s:Shared)(vs:List V)(x:Value):Prop
 | lst (l:Addr) (xs:List Value) (n:Nat) (e:x= .ref l) (ho:s.heap.get? l=some (aF "list" xs n)) (hs:VRs W.ρ W.F vs xs)
 | tup (l:Addr) (xs:List Value) (n:Nat) (e:x= .ref l) (ho:s.heap.get? l=some (aF "tuple" xs n)) (hs:VRs W.ρ W.F vs xs)
inductive NA(W:Wd)(s:Shared)(i:Nat)(vs:List V)(x:Value):Prop
 | mk (l:Addr) (xs:List Value) (n:Nat) (e:x= .ref l) (hi:W.ρ[i]?=some l) (ho:s.heap.get? l=some (aF "list" xs n)) (hs:VRs W.ρ W.F vs xs)
theorem oQ{i:Nat}{o:AO}{x:Value}(h:oa w.params W s i o x):Ok (wY o) λ vs=>NA W s i vs x:=by
 obtain ⟨a,dx,dt,e,hi,ho,hd,hr⟩:=h
 refine .ifs λ q=>?_
 rw [q.1,hd.nil q.2] at ho
 generalize o.data=ad at hr
 cases hr with
 | seq vs xs n hs=>exact .some ⟨a,xs,n,e,hi,ho,hs⟩
 | _=>exact .none
theorem zm{i:Nat}{x:Value}(R:ae w.params h₀ W σ s)(ha:VR W.ρ W.F (.ref i) x):Ok ((σ.at i).bind wY) λ vs=>NA W s i vs x:=
 .bind .self λ _ h=>oQ (R.ref h ha)
theorem th{a:V}{x:Value}(h:Ht Z A W σ s)(ha:VR W.ρ W.F a x):Ok (sO Z.X a σ) λ b=>wpAny (model prog w) A (truthy x) (PB Z.h₀ W b σ) ah s:=by
 refine .or (.bind (vV (P:=λ d=>Ok (wd d) λ b=>wpAny (model prog w) A (truthy x) (PB Z.h₀ W b σ) ah s) h.k h.R ha λ da h1=> .map (wJ (A:=A) h.R h1) λ b z d e=>?_) λ _ z=>z)
  (.bind (bh a) λ i e=>?_)
 ·cases d with
  | bool c=>cases e;exact .some z
  | _=>exact .none
 ·subst e
  refine .bind .self λ o ho=> .bind (oQ (h.R.ref ho ha)) λ vs q=> .ifs λ hz=> .some ?_
  obtain ⟨l,xs,n,rfl,hi,ho,hs⟩:=q
  refine wpAny_truthy_list (au ho) (by rw [List.size_toArray,← hs.length];omega) ?_
  rw [show (!xs.toArray.isEmpty)=(vs.length != 0) by rw [hs.length];cases xs<;>simp]
  exact .here (h.R.toks _)
inductive cm(s:Shared):Value->Prop
 | mk (x:Value) (T id:String):s.TypeIs x T->typeLookup (.type T) "__getitem__" = pure (some (.builtin id))->cm s x
theorem nr{M:Model}{x:Value}{Q:Bool->Shared->Prop}(h:cm s x)(hq:Q false s):wpAny M A (getitemInPython x) Q ah s:=by
 cases h with
 | mk T id hT hl=>
  rw [getitemInPython_of_ne hT.not_modules]
  exact Uj (wpAny_specialOf hT hl (Uk hq))
theorem cm.lst{l:Addr}{xs:List Value}{n:Nat}(ho:s.heap.get? l=some (aF "list" xs n)):cm s (.ref l):= .mk _ _ _ (au ho).typeIs slot_list_getitem.lookup
theorem cm.tup{l:Addr}{xs:List Value}{n:Nat}(ho:s.heap.get? l=some (aF "tuple" xs n)):cm s (.ref l):= .mk _ _ _ (je ho).typeIs slot_tuple_getitem.lookup
theorem cm.str{x:Str}{t:Tok}:cm s (.str x t):= .mk _ _ _ (typeIs_str _ _ _) PySem.F.slot_str_getitem.lookup
noncomputable def sx(h₀:Heap)(A:Around)(W:Wd)(σ:St)(s:Shared)(x y:Value)(v:V):Prop:=cm s x∧wpAny (model prog w) A (getItem x y) (PV h₀ W v σ) ah s
theorem SeqAt.item{vs:List V}{x:Value}{k:Int}{t:Tok}{j:Nat}{v:V}(R:ae w.params h₀ W σ s)(h:SeqAt W s vs x)(hk:d5 k=true)(hj:jh k vs.length=some j)(hv:vs[j]?=some v) :
  sx h₀ A W σ s x (.int k t) v:=by
 have hsm:=dZ hk
 rcases h with ⟨l,xs,n,rfl,ho,hs⟩ | ⟨l,xs,n,rfl,ho,hs⟩<;>obtain ⟨z,hz,rz⟩:=hs.get hv<;>rw [hs.length] at hj
 ·refine ⟨.lst ho,?_⟩
  rcases pE hj with ⟨h0,e,h1⟩ | ⟨h0,h1,e⟩
  ·exact wpAny_getItem_list (au ho) h0 (by omega) (by rw [e];simpa using hz) (.here rz R)
  ·exact wpAny_getItem_list_neg (au ho) h0 (by simpa using h1) (by omega) (by rw [List.size_toArray,← e];simpa using hz) (.here rz R)
 ·exact ⟨.tup ho,getItem_tuple (je ho) (by omega) (by omega) (by rw [List.size_toArray];exact pC hj) (by simpa using hz) (.here rz R)⟩
theorem D8{ρ F}{b:V}{y:Value}(hb:VR ρ F b y):Ok (LY b) λ k=>∃ t,y= .int k t:=by
 cases b with
 | d d=>cases d with
  | int k=>exact .some hb.int
  | _=>exact .none
 | _=>exact .none
theorem HV.plainSub{F}{d e:D}{x:Value}(h:HV s.heap F d x):Ok (kj d e) λ _=>cm s x:=by
 cases h with
 | str t u=>exact .all .str
 | lst ds xs l m ho hs=>exact .all (.lst ho)
 | tup ds xs l m ho hs=>exact .all (.tup ho)
 | _=>exact .none
theorem wQ{a b:V}{x y:Value}(h:Ht Z A W σ s)(ha:VR W.ρ W.F a x)(hb:VR W.ρ W.F b y):Ok (FY Z.X a b σ) (sx Z.h₀ A W σ s x y):=by
 refine .or (.bind (D8 hb) λ k hy=> .ifs λ hk=> .bind (P:=λ vs=>SeqAt W s vs x) (.or (.bind (bh a) λ i e=>?_) ((yj a).mono λ vs e=>?_)) λ vs q=> .bind .self λ j hj v hv=>?_) (.map (lh (P:=λ d=>sx Z.h₀ A W σ s x y (.d d)) h.k h.R ha hb λ da db h1 h2 d hd=>?_) λ _ z=>z)
 ·subst e
  exact (zm h.R ha).mono λ vs q=>let ⟨l,xs,n,e,_,ho,hs⟩:=q;.lst l xs n e ho hs
 ·subst e
  cases ha with
  | tup _ xs l m hm hs=>exact .tup l xs m rfl (h.R.fz _ hm).1 hs
 ·obtain ⟨t,rfl⟩:=hy
  exact q.item h.R hk hj hv
 ·exact λ d e=>⟨h1.plainSub _ hd,PD.go (y8 h.R h1 h2 _ hd) d e⟩
end
noncomputable def iF(vs:List V):AO:=⟨.type "list",none,match nf vs with
 | some ds=> .dseq (.lst ds)
 | none=> .seq vs⟩
noncomputable def GU(vs:List V):V:=match nf vs with
 | some ds=> .d (.tup ds)
 | none=> .tup vs
section
variable{Z:Zx}{h₀:Heap}{W:Wd}{σ:St}{s:Shared}{A:Around}
theorem me{vs:List V}{xs:List Value}{ρ:List Addr}{F:Fz}{P:Params}(h:VRs ρ F vs xs)(m:Nat):OR P ρ F (iF vs) (aF "list" xs m):=by
 unfold iF
 cases q:nf vs with
 | none=>exact .mk _ _ _ _ _ .none (.seq vs xs m h)
 | some ds=>
  have e:=wk q
  subst e
  exact .mk _ _ _ _ _ .none (.dseq _ (dens F.en ds) xs m rfl (VRs.data h))
theorem pn(vs:List V):(iF vs).data.isFro=false:=by
 unfold iF;cases nf vs<;>rfl
theorem j6{vs:List V}{xs:List Value}(R:ae w.params h₀ W σ s)(h:VRs W.ρ W.F vs xs)(tk:Nat) :
  PV h₀ W (.ref σ.length) (σ++[some (iF vs)]) (.ref s.heap.objs.size) { s with heap:=s.heap.push { cls:= .type "list",data:= .seq xs.toArray },toks:=tk }:=by
 have le:W.le { W with ρ:=W.ρ++[s.heap.objs.size] }:=Wd.le_new W _
 refine ⟨_,le,.ref _ _ ?_,R.new_size rfl (me (h.le le) 0) tk (pn vs)⟩
 rw [R.len];simp
theorem ae.frz_size(R:ae w.params h₀ W σ s){o:Obj}(hf:o.isFreed=false)(tk:Nat) :
  ae w.params h₀ { W with F:=⟨W.F.en,(s.heap.objs.size,o)::W.F.fs⟩ } σ { s with heap:=s.heap.push o,toks:=tk }:=
 R.frz (by rw [Heap.size_push];omega) (Nat.le_refl _) (λ b o' e=>Heap.get?_push_of_some _ e) (Heap.get?_push_size _ hf)
theorem Wd.le_frz(W:Wd)(p:Addr×Obj):W.le { W with F:=⟨W.F.en,p::W.F.fs⟩ }:=⟨List.prefix_refl _,⟨rfl,λ _ h=> .tail _ h⟩,rfl,rfl,rfl⟩
theorem tl{vs:List V}{xs:List Value}(R:ae w.params h₀ W σ s)(h:VRs W.ρ W.F vs xs)(tk:Nat) :
  PV h₀ W (GU vs) σ (.ref s.heap.objs.size) { s with heap:=s.heap.push { cls:= .type "tuple",data:= .seq xs.toArray },toks:=tk }:=by
 have le:=Wd.le_frz W (s.heap.objs.size,aF "tuple" xs 0)
 refine ⟨_,le,?_,R.frz_size rfl tk⟩
 have h':=h.le le
 unfold GU
 cases q:nf vs with
 | none=>exact .tup vs xs _ 0 (.head _) h'
 | some ds=>
  have e:=wk q
  subst e
  exact .d _ _ (.tup _ xs _ 0 (.head _) (VRs.data h'))
theorem fA{cl:String}{vs:List V}{xs:List Value}(R:ae w.params h₀ W σ s)(h:VRs W.ρ W.F vs xs)(tk:Nat) :
  PV h₀ W (.rcd cl vs) σ (.ref s.heap.objs.size) { s with heap:=s.heap.push { cls:= .type cl,data:= .fields xs.toArray },toks:=tk }:=by
 have le:=Wd.le_frz W (s.heap.objs.size,cA cl xs)
 exact ⟨_,le,.rcd cl vs xs _ (.head _) (h.le le),R.frz_size rfl tk⟩
theorem PD.newList{ds:List D}{xs:List Value}(R:ae w.params h₀ W σ s)(h:DVs W.F.fs ds xs)(m tk:Nat) :
  PD h₀ W (.lst ds) σ (.ref s.heap.objs.size) { s with heap:=s.heap.push { cls:= .type "list",data:= .seq xs.toArray m },toks:=tk }:=by
 have le:=Wd.le_frz W (s.heap.objs.size,aF "list" xs m)
 exact ⟨_,le,.lst ds xs _ m (.head _) (h.mono le.fz.fs),R.frz_size rfl tk⟩
theorem fb{F:List (Addr×Obj)}{d:D}{x:Value}(hv:DV F d x):Ok (gD d) λ p=>∃ q:Option (Int×Tok),x=partValue q∧p=q.map (·.1)∧IsPart x p:=by
 cases hv with
 | none=>exact .some ⟨none,rfl,rfl,.none⟩
 | int i t=>exact .some ⟨some (i,t),rfl,rfl,.int i t⟩
 | _=>exact .none
theorem lX{F:List (Addr×Obj)}{ds:List D}{xs:List Value}(h:DVs F ds xs):∀ l:List Nat,DVs F (l.filterMap (ds[·]?)) (l.filterMap (xs[·]?))
 | []=> .nil
 | i::l=>by
  simp only [List.filterMap_cons]
  cases q:ds[i]? with
  | none=>
   have:xs[i]?=none:=by
    rw [List.getElem?_eq_none_iff] at q ⊢
    rw [← h.length];exact q
   rw [this];exact lX h l
  | some d=>
   obtain ⟨x,hx,rx⟩:=h.get q
   rw [hx];exact .cons _ _ _ _ rx (lX h l)
theorem w6{F:List (Addr×Obj)}{ds:List D}{xs:List Value}(h:DVs F ds xs)(l v z:Option Int):DVs F (nE ds l v z) (nE xs l v z):=by
 unfold nE
 rw [← h.length]
 exact lX h _
theorem wK{a b c e:D}{x p q t:Value}{sa:Addr}(R:ae w.params h₀ W σ s)(ha:HV s.heap W.F.fs a x)(hp:DV W.F.fs b p)(hq:DV W.F.fs c q)(ht:DV W.F.fs e t)(hs:(sa,cA "slice" [p,q,t])∈W.F.fs) :
  Ok (zj a b c e) λ d=>cm s x∧wpAny (model prog w) A (getItem x (.ref sa)) (PD h₀ W d σ) ah s:=by
 have ho:=(R.fz _ hs).1
 cases ha with
 | str u tk=>
  refine .bind (fb hp) λ l ⟨ql,e1,e2,_⟩=> .bind (fb hq) λ v ⟨qu,e3,e4,_⟩=> .bind (fb ht) λ z ⟨qz,e5,e6,_⟩=> .ifs λ h=> .some ⟨.str,?_⟩
  subst e1 e2 e3 e4 e5 e6
  cases qz with
  | some=>exact nomatch h.1
  | none=>exact wpAny_getItem_str_slice (l:=ql) (u:=qu) (st:=none) ⟨_,ho,rfl,rfl⟩ rfl (post_val_or_str ⟨Ul (Txt.slice_le _ _ _) h.2,λ t' k=> .here (.str _ _) (R.toks _)⟩)
 | lst ds xs la m ho' hs'=>
  refine .bind (fb hp) λ l ⟨_,_,_,pl⟩=> .bind (fb hq) λ v ⟨_,_,_,pu⟩=> .bind (fb ht) λ z ⟨_,_,_,pt⟩=> .ifs λ h=> .some ⟨.lst ho',?_⟩
  refine wpAny_getItem_list_slice (au ho') ⟨_,ho,rfl,rfl⟩ pl pu pt h.1 ?_ (by rw [List.size_toArray,← hs'.length];exact h.2)
  rw [show slicePick xs.toArray l v z=(nE xs l v z).toArray by unfold slicePick nE;simp]
  exact PD.newList R (w6 hs' l v z) 0 s.toks
 | _=>exact .none
noncomputable def tI(v:V):Option (D×D×D):=match v with
 | .rcd n vs=>if n = "slice" then (nf vs).bind λ l=>(match l with | [a,b,c]=>some (a,b,c) | _=>none) else none
 | _=>none
inductive wm(F:List (Addr×Obj))(a b c:D):List Value->Prop
 | mk (x y z:Value) (ab:DV F a x) (ik:DV F b y) (xo:DV F c z):wm F a b c [x,y,z]
theorem DVs.three{F a b c xs}(h:DVs F [a,b,c] xs):wm F a b c xs:=by
 cases h with
 | cons _ x _ xs ab h=>cases h with
  | cons _ y _ xs ik h=>cases h with
   | cons _ z _ xs xo h=>cases h;exact ⟨x,y,z,ab,ik,xo⟩
theorem nH{v:V}{y:Value}(hb:VR W.ρ W.F v y):Ok (tI v) λ q=>∃ sa xs,y= .ref sa∧(sa,cA "slice" xs)∈W.F.fs∧wm W.F.fs (den W.F.en q.1) (den W.F.en q.2.1) (den W.F.en q.2.2) xs:=by
 cases hb with
 | rcd n vs xs sa hm hs=>
  refine .ifs λ e=> .bind (lu vs) λ l h=>?_
  subst e h
  have hv:=VRs.data hs
  cases l with
  | nil=>exact .none
  | cons a l=>cases l with
   | nil=>exact .none
   | cons b l=>cases l with
    | nil=>exact .none
    | cons c l=>cases l with
     | nil=>exact .some ⟨sa,xs,rfl,hm,hv.three⟩
     | cons=>exact .none
 | _=>exact .none
noncomputable def Hm(X:Cx)(a:V)(q:D×D×D)(σ:St):Option D:=(fY σ a).bind λ da=>kO X.K X.O .slice [da,q.1,q.2.1,q.2.2]
noncomputable def ED(σ:St)(v:V):Option (List (Str×V)):=(f9 v).bind λ i=>(σ.at i).bind ug
noncomputable def LH(a b:V)(σ:St):Option V:=(sS b).bind λ k=>(ED σ a).bind λ m=>jR m k
noncomputable def CJ(X:Cx)(o i:V)(σ:St):Option V:=(((tI i).bind λ q=>(Hm X o q σ).map .d).or (FY X o i σ)).or (LH o i σ)
theorem pR{v:V}{x:Value}(R:ae w.params h₀ W σ s)(hx:VR W.ρ W.F v x):Ok (ED σ v) λ m=>∃ i,sF W s i m x:= .bind (bh v) λ i e=> .bind .self λ o ho=>(pT (R.ref ho (e▸hx))).mono λ m h=>⟨i,h⟩
theorem CU{o i:V}{x y:Value}(R:ae w.params h₀ W σ s)(ha:VR W.ρ W.F o x)(hb:VR W.ρ W.F i y):Ok (LH o i σ) (sx h₀ A W σ s x y):= .bind (gT hb) λ k hk=> .bind (pR R ha) λ m hm u hu=>
 let ⟨t,ey⟩:=hk
 let ⟨j,hd⟩:=hm
 let ⟨a,f,ex,hM,hf⟩:=hd.map
 let ⟨z,hz,rz⟩:=(hf k).get _ hu
 ex▸ey▸⟨.mk _ _ _ hM.typeIs slot_dict_getitem.lookup,wpAny_getItem_of (knd:=strKind prog w) (strKind_is prog w k t) hM hz (.here rz (R.toks _))⟩
theorem qG{o i:V}{x y:Value}(h:Ht Z A W σ s)(ha:VR W.ρ W.F o x)(hb:VR W.ρ W.F i y):Ok (CJ Z.X o i σ) (sx Z.h₀ A W σ s x y):=
 .or (.or (.bind (nH hb) λ q ⟨sa,_,e,hm,⟨_,_,_,ab,ik,xo⟩⟩=> .map (.bind (dA h.R ha) λ da hd=>(cj h.k).mono λ d hp=>wK h.R hd ab ik xo hm _ hp) λ d z=>⟨z.1,e▸PD.go z.2 d rfl⟩) (wQ h ha hb)) (CU h.R ha hb)
end
theorem kG:isSubtype (.type "list") (.type "module")=pure false:=by rw [isSubtype_type];kernel_rfl
theorem lC:isSubtype (.type "str") (.type "module")=pure false:=by rw [isSubtype_type];kernel_rfl
theorem uo(l:Addr)(y:Value):(match Manifest.signature? "list.append" with
  | some sig=>Bind.checkArgs "list.append" { sig with full:=s!"{Bind.lastOf "list"}.{Bind.lastOf "list.append"}" } ⟨[.ref l,y],[]⟩
  | none=>pure ())=pure ():=by
 rw [signature?_of (id := "list.append") (n:=['d','n','e','p','p','a']) (o:=['t','s','i','l']) (by kernel_rfl) F.owner_list];kernel_rfl
theorem BD(x:Str)(t:Tok)(y:Value):(match Manifest.signature? "str.join" with
  | some sig=>Bind.checkArgs "str.join" { sig with full:=s!"{Bind.lastOf "str"}.{Bind.lastOf "str.join"}" } ⟨[.str x t,y],[]⟩
  | none=>pure ())=pure ():=by
 rw [signature?_of (id := "str.join") (n:=['n','i','o','j']) (o:=['r','t','s']) (by kernel_rfl) F.owner_str];kernel_rfl
section
variable{A:Around}{s:Shared}
theorem pY{l:Addr}{y:Value}{Q:Unit->Shared->Prop}{E:Value->Shared->Prop}{xs:Array Value}{m:Nat}(ho:s.heap.get? l=some { cls:= .type "list",data:= .seq xs m })(h:Q () s):wpAny (model prog w) A (checkBoundCall "list.append" ⟨[.ref l,y],[]⟩) Q E s:=by
 unfold checkBoundCall
 have hb:=uo l y
 have hT:s.TypeIs (.ref l) "list" := ⟨_,ho,rfl⟩
 cases hsig:Manifest.signature? "list.append" with
 | none=>exact Uk h
 | some sig=>
  rw [hsig] at hb
  have hk:builtinKind "list.append" = some .method:=by kernel_rfl
  simp only [hk]
  refine Uj (wpAny_isInstance hT kG ?_)
  have hv:Manifest.varargsMethods.contains "list.append" = false:=by kernel_rfl
  rw [hv]
  simp only [Bool.or_false,Bool.false_eq_true,if_false]
  have hty:wpAny (model prog w) A (isType (.ref l)) (λ b s'=>b=false∧s'=s) E s:=by
   unfold isType
   refine Uj (wpAny_loadPart (s:=s) ho ?_)
   exact Uk ⟨rfl,rfl⟩
  refine Uj (wpAny_mono hty (λ b s' q=>?_) λ _ _ e=>e)
  obtain ⟨rfl,rfl⟩:=q
  simp only [Bool.false_eq_true,if_false]
  refine Uj (wpAny_typeOf hT ?_)
  exact wpAny_of_eq hb h
theorem uk{x:Str}{t:Tok}{y:Value}{Q:Unit->Shared->Prop}{E:Value->Shared->Prop}(h:Q () s):wpAny (model prog w) A (checkBoundCall "str.join" ⟨[.str x t,y],[]⟩) Q E s:=by
 unfold checkBoundCall
 have hb:=BD x t y
 have hT:s.TypeIs (.str x t) "str" := typeIs_str _ _ _
 cases hsig:Manifest.signature? "str.join" with
 | none=>exact Uk h
 | some sig=>
  rw [hsig] at hb
  have hk:builtinKind "str.join" = some .method:=by kernel_rfl
  simp only [hk]
  refine Uj (wpAny_isInstance hT lC ?_)
  have hv:Manifest.varargsMethods.contains "str.join" = false:=by kernel_rfl
  rw [hv]
  simp only [Bool.or_false,Bool.false_eq_true,if_false]
  have hty:wpAny (model prog w) A (isType (.str x t)) (λ b s'=>b=false∧s'=s) E s:=by
   unfold isType
   exact Uj (Uk (Uk ⟨rfl,rfl⟩))
  refine Uj (wpAny_mono hty (λ b s' q=>?_) λ _ _ e=>e)
  obtain ⟨rfl,rfl⟩:=q
  simp only [Bool.false_eq_true,if_false]
  refine Uj (wpAny_typeOf hT ?_)
  exact wpAny_of_eq hb h
theorem mF{b:Addr}{id:String}{self y:Value}{B:Builtin}{S:PySem.Spec}{Q:Value->Shared->Prop}{E:Value->Shared->Prop}(hb:s.heap.get? b=some { cls:= .type "builtin_function_or_method",data:= .fields #[.builtin id,self] })
  (hc:∀ {Q':Unit->Shared->Prop},Q' () s->wpAny (model prog w) A.in1 (checkBoundCall id ⟨[self,y],[]⟩) Q' (λ x s'=>wants Q E (.error x) s') s) (hp:plainId id=true) (entry:entryFor table id=some B) (g:Meets (B ⟨[self,y],[]⟩) S) (h:S A (wants Q E) s) :
  wpAny (model prog w) A (call (.ref b) [y]) Q E s:=by
 refine wpAny_call (codeAny_of_tree ?_)
 show wpAny _ A.in1 (callAny (.ref b) _) _ _ _
 unfold callAny
 refine Uj (wpAny_load hb ?_)
 show wpAny _ _ (checkBoundCall id ⟨[self,y],[]⟩>>=λ _=>again (.builtin id ⟨[self,y],[]⟩)) _ _ s
 refine Uj (hc ?_)
 refine Uk ⟨plainId_quiet hp _,codeAny_builtin entry ?_⟩
 rw [Around.under_plainId hp _]
 exact g prog w A (wants Q E) s h
end
noncomputable def Kh:AD->Option AD
 | .dseq d=>some (.dseq d)
 | .seq vs=>some (.seq vs)
 | _=>none
noncomputable def jM(σ:St)(i:Nat):Option AD:=(σ.at i).bind λ o=>if o.cls= .type "list" ∧ o.dict.isNone then Kh o.data else none
noncomputable def ig(σ:St)(i:Nat)(a:AD):St:=σ.set i (some ⟨.type "list",none,a⟩)
noncomputable def vU:AD->Option D
 | .dseq d=>some d
 | _=>none
noncomputable def Br:D->Option (List D)
 | .lst ds=>some ds
 | _=>none
inductive x4(W:Wd)(σ:St)(s:Shared)(i:Nat)(a:AD)(x:Value):Prop
 | mk (l:Addr) (xs:List Value) (m:Nat) (e:x= .ref l) (hi:W.ρ[i]?=some l) (ho:s.heap.get? l=some (aF "list" xs m)) (hr:DR w.params W.ρ W.F a (.seq xs.toArray m)) (hl:∃ cM,σ[i]?=some (some cM)∧cM.data.isFro=false)
section
variable{h₀:Heap}{X:Cx}{W:Wd}{σ:St}{s:Shared}{A:Around}
theorem d7{i:Nat}{x:Value}(R:ae w.params h₀ W σ s)(hx:VR W.ρ W.F (.ref i) x):Ok (jM σ i) λ a=>x4 W σ s i a x:=by
 refine .bind .self λ o h=> .ifs λ q=>?_
 have hl:=St.at_some h
 obtain ⟨l,dx,dt,e,hi,ho,hd,hr⟩:=R.ref h hx
 rw [q.1,hd.nil q.2] at ho
 obtain ⟨c,d,ad⟩:=o
 replace hr:DR w.params W.ρ W.F ad dt:=hr
 cases hr with
 | dseq d ds xs m e' hs=>exact .some ⟨l,xs,m,e,hi,ho,.dseq d ds xs m e' hs,_,hl,rfl⟩
 | seq vs xs m hs=>exact .some ⟨l,xs,m,e,hi,ho,.seq vs xs m hs,_,hl,rfl⟩
 | _=>exact .none
theorem xc(f:Array Value->Array Value)(xs ys:List Value)(m:Nat)(e:f xs.toArray=ys.toArray):∃ m',Obj.mapSeq f (aF "list" xs m)=aF "list" ys m':=by
 refine ⟨(if ys.toArray.size==xs.toArray.size then m else m+1),?_⟩
 show (⟨.type "list",none,.seq (f xs.toArray) (if (f xs.toArray).size==xs.toArray.size then m else m+1),#[]⟩:Obj)=_
 rw [e]
theorem ae.updL(R:ae w.params h₀ W σ s){i:Nat}{l:Addr}{xs ys:List Value}{m:Nat}{f:Array Value->Array Value}{a:AD}(hi:W.ρ[i]?=some l)(hl:∃ cM,σ[i]?=some (some cM)∧cM.data.isFro=false)
  (ho:s.heap.get? l=some (aF "list" xs m)) (e:f xs.toArray=ys.toArray) (hr:∀ m',DR w.params W.ρ W.F a (.seq ys.toArray m')) (tk:Nat) (hnf:a.isFro=false:=by rfl) :
  ae w.params h₀ W (ig σ i a) { s with heap:=s.heap.update l (Obj.mapSeq f),toks:=tk }:=by
 obtain ⟨m',hm⟩:=xc f xs ys m e
 refine R.upd hi hl (Up (Heap.SameBut.update ..).1.symm) (Heap.SameBut.update ..).extBut (o:=aF "list" ys m') ?_ (.mk _ _ _ _ _ .none (hr m')) hnf
 have:=Heap.get?_update_self (h:=s.heap) (Obj.mapSeq f) ho (by rw [hm];rfl)
 rw [hm] at this;exact this
noncomputable def HE(X:Cx)(frz:Bool)(i:Nat)(d:D)(v:V)(σ:St):Option St:=match v with
 | .d x=>(kO X.K X.O .push [d,x]).map λ d'=>ig σ i (.dseq d')
 | .ref j=>if frz then (if i=j then none else (jM σ j).bind λ b=>(vU b).bind λ e=>(kO X.K X.O .push [d,e]).map λ d'=>ig (ig σ j (.fro e)) i (.dseq d'))
  else (Br d).bind λ ds=>if ds.length<=1048576 then some (ig σ i (.seq (ds.map .d++[.ref j]))) else none
 | _=>none
noncomputable def lU(X:Cx)(frz:Bool)(i:Nat)(v:V)(σ:St):Option St:=(jM σ i).bind λ a=>match a with
 | .dseq d=>HE X frz i d v σ
 | .seq vs=>if vs.length<=1048576 then some (ig σ i (.seq (vs++[v]))) else none
 | _=>none
theorem u2{a b:D}:Ok (pushD a b) λ c=>∃ ds,a= .lst ds∧ds.length<=sizeLine∧c= .lst (ds++[b]):=by
 cases a with
 | lst ds=>exact .ifs λ h=> .some ⟨ds,rfl,h,rfl⟩
 | _=>exact .none
theorem Dt{i:Nat}:Ok (jM σ i) λ a=>a.isFro=false∧σ.at i=some ⟨.type "list",none,a⟩:=by
 refine .bind .self λ o h=> .ifs λ q=>?_
 obtain ⟨c,d,ad⟩:=o
 obtain ⟨q1,q2⟩:c= .type "list" ∧ d.isNone=true:=q
 subst q1
 cases d with
 | some=>exact ft q2
 | none=>cases ad with
  | seq=>exact .some ⟨rfl,h⟩
  | dseq=>exact .some ⟨rfl,h⟩
  | _=>exact .none
theorem zQ{i j:Nat}{b:AD}(hij:i≠j):jM (ig σ j b) i=jM σ i:=by
 unfold jM St.at ig
 rw [List.getElem?_set_ne (λ e=>hij e.symm)]
theorem mw(a:AD):Ok (vU a) λ d=>a= .dseq d:=by cases a<;>first | exact .some rfl | exact .none
theorem lj(a:D):Ok (Br a) λ d=>a= .lst d:=by cases a<;>first | exact .some rfl | exact .none
noncomputable abbrev BX(A:Around)(t:Sem Value)(s:Shared)(x y:Value):Prop:=∀ {l:Addr} {xs:List Value} {m:Nat} {Q:Value->Shared->Prop},x= .ref l->s.heap.get? l=some (aF "list" xs m)->xs.length<=sizeLine ->
 Q .none { s with heap:=s.heap.update l (Obj.mapSeq λ z=>z.push y),toks:=s.toks }->wpAny (model prog w) A t Q ah s
theorem x4.push{W₁:Wd}{t:Sem Value}{i:Nat}{a a':AD}{x y:Value}(h:x4 W₁ σ s i a x)(hc:BX A t s x y)(R:ae w.params h₀ W₁ σ s)(le:W.le W₁)(hnf:a'.isFro=false)
  (k:∀ xs m,DR w.params W₁.ρ W₁.F a (.seq (xs:List Value).toArray m)->xs.length<=sizeLine∧∀ m',DR w.params W₁.ρ W₁.F a' (.seq (xs++[y]).toArray m')):wpAny (model prog w) A t (PV h₀ W (.d .none) (ig σ i a')) ah s:=by
 obtain ⟨l,xs,m,e,hi,ho,hr,hl⟩:=h
 have q:=k xs m hr
 exact hc e ho q.1 ⟨W₁,le,.mkNone,R.updL hi hl ho (by simp) q.2 _ hnf⟩
theorem DR.dseq_inv{P ρ F d xs m}(h:DR P ρ F (.dseq d) (.seq (xs:List Value).toArray m)):∃ ds,den F.en d= .lst ds∧DVs F.fs ds xs:=by
 generalize e:Data.seq xs.toArray m=z at h
 cases h with
 | dseq _ ds ys _ h1 h2=>cases e;exact ⟨ds,h1,h2⟩
theorem DR.seq_inv{P ρ F vs xs m}(h:DR P ρ F (.seq vs) (.seq (xs:List Value).toArray m)):VRs ρ F vs xs:=by
 generalize e:Data.seq xs.toArray m=z at h
 cases h with
 | seq _ ys _ h2=>cases e;exact h2
theorem DR.pushD{W:Wd}{d d' b:D}{y:Value}(hy:DV W.F.fs b y)(h:∃ ds,den W.F.en d= .lst ds∧ds.length<=sizeLine∧den W.F.en d'= .lst (ds++[b])):∀ xs m,DR w.params W.ρ W.F (.dseq d) (.seq (xs:List Value).toArray m) ->
  xs.length<=sizeLine∧∀ m',DR w.params W.ρ W.F (.dseq d') (.seq (xs++[y]).toArray m'):=λ xs m hr=>by
 obtain ⟨ds,h1,h2,h3⟩:=h
 obtain ⟨es,e1,e2⟩:=hr.dseq_inv
 cases h1.symm.trans e1
 exact ⟨e2.length▸h2,λ m'=> .dseq _ _ _ m' h3 (e2.append (.cons _ _ _ _ hy .nil))⟩
theorem nk{t:Sem Value}{frz:Bool}{i:Nat}{v:V}{x y:Value}(k:cx X.K X.O W.F.en)(R:ae w.params h₀ W σ s)(hx:VR W.ρ W.F (.ref i) x)(hy:VR W.ρ W.F v y)(hc:BX A t s x y) :
  Ok (lU X frz i v σ) λ σ'=>wpAny (model prog w) A t (PV h₀ W (.d .none) σ') ah s:=by
 refine .bind .self λ a ha=>?_
 have o:=d7 R hx a ha
 have le:=λ n (h:n<=1048576)=>Ul h (show 1048576<=sizeLine by rw [sizeLine_eq];decide)
 cases a with
 | seq vs=>exact .ifs λ h=> .some (o.push hc R (.refl W) rfl λ xs m hr=>⟨hr.seq_inv.length▸le _ h,λ m'=> .seq _ _ m' (hr.seq_inv.append (.cons _ _ _ _ hy .nil))⟩)
 | dseq d=>cases hy with
  | d b _ hz=>exact .map (cj k) λ d' hp=>o.push hc R (.refl W) rfl (DR.pushD hz (u2 _ hp))
  | ref j l hj=>
   refine .ite (λ hf=> .ifn λ hij=> .bind Dt λ b hb=> .bind (mw b) λ e he=> .map (cj k) λ d' hp=>?_) λ hf=> .bind (lj d) λ ds hd=> .ifs λ h=> .some ?_
   ·subst he
    obtain ⟨a',es,o',ha',hes,le',hdv,R'⟩:=R.freeze (St.at_some hb.2)
    cases ha'.symm.trans hj
    exact (d7 R' (hx.le le') _ (by rw [show σ.set j _=ig σ j (.fro e) from rfl,zQ hij];exact ha)).push hc R' le' rfl (DR.pushD hdv (by obtain ⟨ds,h1,h2,h3⟩:=u2 _ hp;exact ⟨ds,h1,h2,hes▸h3⟩))
   ·subst hd
    refine o.push hc R (.refl W) rfl λ xs m hr=>?_
    obtain ⟨es,e1,e2⟩:=hr.dseq_inv
    cases e1
    exact ⟨e2.length▸(by rw [dE,List.length_map];exact le _ h),λ m'=> .seq _ _ m' (e2.toVRs.append (.cons _ _ _ _ (.ref j l hj) .nil))⟩
  | _=>exact .none
 | _=>exact .none
theorem lI{frz:Bool}{i:Nat}{v:V}{x y:Value}(k:cx X.K X.O W.F.en)(R:ae w.params h₀ W σ s)(hx:VR W.ρ W.F (.ref i) x)(hy:VR W.ρ W.F v y) :
  Ok (lU X frz i v σ) λ σ'=>wpAny (model prog w) A (call (.builtin "list.append") [x,y]) (PV h₀ W (.d .none) σ') ah s:=
 nk k R hx hy λ {l xs m _} e ho hz hq=>e▸call_meets slot_list_append (au ho).typeIs entry_list_append (args_list_append _ _) (PySem.AutoListH.list_append_list_val_0 l xs.toArray m y (by rw [List.size_toArray];exact hz)) ⟨ho,hq⟩
theorem wL{frz:Bool}{i:Nat}{v:V}{b l:Addr}{y:Value}(k:cx X.K X.O W.F.en)(R:ae w.params h₀ W σ s)(hb:s.heap.get? b=some (cA "builtin_function_or_method" [.builtin "list.append",.ref l]))(hx:VR W.ρ W.F (.ref i) (.ref l))(hy:VR W.ρ W.F v y) :
  Ok (lU X frz i v σ) λ σ'=>wpAny (model prog w) A (call (.ref b) [y]) (PV h₀ W (.d .none) σ') ah s:=
 nk k R hx hy λ {l' xs m _} e ho hz hq=>by
  cases e
  exact mF hb (λ hq'=>pY ho hq') (by decide +kernel) entry_list_append (PySem.AutoListH.list_append_list_val_0 l xs.toArray m y (by rw [List.size_toArray];exact hz)) ⟨ho,hq⟩
end
noncomputable def iC(e:Expr):Bool:=let i:=e.ctorIdx;i==16||(19<=i&&i<=21)||i==23||i==24
noncomputable def Jn(r:b5)(c:aw)(op:BoolOp):List Expr->St->Option (Bool×St)
 | [],σ=>some (op== .And,σ)
 | e::es,σ=>(r.T c e σ).bind λ p=>if (op== .And)==p.1 then Jn r c op es p.2 else some (p.1,p.2)
noncomputable def Sa(X:Cx)(r:b5)(c:aw)(e:Expr)(σ:St):Option (Bool×St):=match e with
 | .UnaryOp .Not x _=>(r.T c x σ).map λ p=>(!p.1,p.2)
 | .BoolOp op vs _=>Jn r c op vs σ
 | .Compare l [op] [rt] _=>if behindInMarks op rt then none else (r.E c l σ).bind λ p=>(r.E c rt p.2).bind λ q=>(ui X op p.1 q.1 q.2).bind λ d=>(wd d).map λ b=>(b,q.2)
 | e=>if iC e then (r.E c e σ).bind λ p=>(sO X p.1 p.2).map λ b=>(b,p.2) else none
section
variable{Z:Zx}{W fo:Wd}{σ σ':St}{s:Shared}{c:aw}
theorem PB.le{h₀:Heap}{b y:Bool}(h:PB h₀ W b σ' y s)(le:fo.le W):PB h₀ fo b σ' y s:=let ⟨e,W',a,R⟩:=h;⟨e,W',le.trans a,R⟩
theorem BC(d:D):Ok (wd d) λ b=>d= .bool b:=by cases d<;>first | exact .some rfl | exact .none
theorem oJ(S:cO Z)(op:BoolOp):∀ es σ,Ok (Jn Z.r c op es σ) (SB Z c (allTrue op es) σ)
 | [],_=> .some λ _ _ W _ a=>Uk ⟨rfl,W,.refl W,a.R⟩
 | t::ts,σ=> .bind (S.T c t σ) λ p h=>by
  obtain ⟨b,σ₁⟩:=p
  have ih:SB Z c (λ env=>isTrue t env (eval t env)) σ (b,σ₁):=h
  cases op<;>cases b
  ·exact .some λ _ _ _ _ a=>wpAny_allTrue_And_cons (ih.go a λ _ W' le a'=>⟨rfl,W',le,a'.R⟩)
  ·exact (oJ S _ ts σ₁).mono λ q k _ _ _ _ a=>wpAny_allTrue_And_cons (ih.go a λ _ W' le a'=>aC (k _ _ _ _ a') λ _ _ z=>z.le le)
  ·exact (oJ S _ ts σ₁).mono λ q k _ _ _ _ a=>wpAny_allTrue_Or_cons (ih.go a λ _ W' le a'=>aC (k _ _ _ _ a') λ _ _ z=>z.le le)
  ·exact .some λ _ _ _ _ a=>wpAny_allTrue_Or_cons (ih.go a λ _ W' le a'=>⟨rfl,W',le,a'.R⟩)
theorem gU(S:cO Z)(e:Expr)(he:∀ env,isTrue e env (eval e env)=(do let v ← eval e env;standAt e.pos;holding [v] (truthy v)))(σ:St) :
  Ok ((Z.r.E c e σ).bind λ p=>(sO Z.X p.1 p.2).map λ b=>(b,p.2)) (SB Z c (λ env=>isTrue e env (eval e env)) σ):=
 .bind (S.E c e σ) λ p t=> .map .self λ b hb _ _ _ _ a=>wpAny_isTrue_value (t.go a λ _ _ _ l r a₁=>aC (th a₁.toHt r b hb) λ _ _ z=>z.le l) (he _)
theorem Kx(S:cO Z)(O:j3 Z.h₀ Z.X Z.n)(e:Expr)(σ:St):Ok (Sa Z.X Z.r c e σ) (SB Z c (λ env=>isTrue e env (eval e env)) σ):=by
 cases e with
 | UnaryOp op x p=>cases op with
  | Not=>exact .map (S.T c x σ) λ q t _ _ _ _ a=>wpAny_isTrue_Not (t.go a λ _ W' le a'=>⟨rfl,W',le,a'.R⟩)
  | _=>exact .none
 | BoolOp op vs p=>exact (oJ S op vs σ).mono λ q t _ _ _ _ a=>wpAny_isTrue_BoolOp (t _ _ _ _ a)
 | Compare l ops rts p=>cases ops with
  | nil=>exact .none
  | cons op ops=>cases ops with
   | cons=>exact .none
   | nil=>cases rts with
    | nil=>exact .none
    | cons rt rts=>cases rts with
     | cons=>exact .none
     | nil=>exact .ifn λ hb=> .bind (S.E c l σ) λ _ dY=> .bind (S.E c rt _) λ _ jB=> .bind .self λ d hd=> .map (BC d) λ b e _ _ _ _ a=>
       wpAny_isTrue_Compare1 (dY.go a λ _ _ _ l₁ dP a₁=>jB.go a₁ λ _ _ _ l₂ dH bj=>aC (iW O op bj.toHt (dP.le l₂) dH d hd) λ z _ q=>by
        obtain ⟨aP,bb,qO,bf⟩:=q
        subst e
        rw [qO.bool]
        exact wpAny_truthy_bool ⟨rfl,aP,(l₁.trans l₂).trans bb,bf⟩) (Bool.eq_false_iff.mpr hb)
 | Name x p=>exact gU S (.Name x p) (λ _=>rfl) σ
 | Call f a k p=>exact gU S (.Call f a k p) (λ _=>rfl) σ
 | Attribute v x p=>exact gU S (.Attribute v x p) (λ _=>rfl) σ
 | Subscript v i p=>exact gU S (.Subscript v i p) (λ _=>rfl) σ
 | Constant k n p=>exact gU S (.Constant k n p) (λ _=>rfl) σ
 | List es p=>exact gU S (.List es p) (λ _=>rfl) σ
 | _=>exact .none
end
section
variable{P:Params}{h₀:Heap}{W:Wd}{objs:List (Option AO)}{s:Shared}
theorem ae.pvNew(R:ae P h₀ W objs s){o:Obj}(hf:o.isFreed=false)(tk:Nat) :
  ae P h₀ { W with pv:=(s.heap.objs.size,o)::W.pv } objs { s with heap:=s.heap.push o,toks:=tk }:=by
 have R':=R.ext (h':=s.heap.push o) (tk:=tk) (by rw [Heap.size_push];omega) λ b o' e=>Heap.get?_push_of_some _ e
 refine ⟨R'.len,R'.nod,R'.fr,R'.lt,R'.fz,λ p hp=>?_,R'.gg,R'.slot,R'.old,R'.tab⟩
 cases hp with
 | head=>exact ⟨Heap.get?_push_size _ hf,R.new_rho,R.new_none,λ q hq e=>absurd (Heap.lt_size ((show q.1=s.heap.objs.size from e)▸(R.fz q hq).1)) (Nat.lt_irrefl _)⟩
 | tail _ hp=>exact R'.pv p hp
theorem ae.pvTurn{it:Addr}{o:Obj}{pv pv':List (Addr×Obj)}(R:ae P h₀ W objs s)(hp:W.pv=(it,o)::pv)(hd:∀ p∈pv,p.1≠it){h':Heap}{tk:Nat}(hz:s.heap.objs.size<=h'.objs.size)(k:Heap.ExtBut it s.heap h')(hn:∀ p∈pv',p∈pv∨p.1=it∧h'.get? it=some p.2) :
  ae P h₀ { W with pv:=pv' } objs { s with heap:=h',toks:=tk }:=by
 obtain ⟨q1,q2,q3,q4⟩:=R.pv (it,o) (hp▸ .head _)
 refine ⟨R.len,R.nod,R.fr,λ a ha=>Nat.lt_of_lt_of_le (R.lt a ha) hz,λ p h=>⟨k _ _ (q4 p h) (R.fz p h).1,(R.fz p h).2⟩,λ p h=>?_,R.gg,λ i ao a hi ha=>(R.slot i ao a hi ha).in λ o=>k _ _ λ e=>q2 (e▸List.mem_of_getElem? ha),
  λ b o e hb=>k _ _ (λ q=>M.Internal.ns (q3.symm.trans ((show b=it from q)▸e))) (R.old b o e hb),k _ _ (λ q=>?_) R.tab.1,R.tab.2⟩
 ·rcases hn p h with h | ⟨e,h⟩
  ·have:=R.pv p (hp▸ .tail _ h)
   exact ⟨k _ _ (hd p h) this.1,this.2⟩
  ·obtain ⟨a,b⟩:=p
   cases e
   exact ⟨h,q2,q3,q4⟩
 ·obtain ⟨o',e⟩:=R.tab.2.1
  exact M.Internal.ns (q3.symm.trans ((show b8=it from q)▸e))
theorem ae.pvSet{it:Addr}{o o':Obj}{pv:List (Addr×Obj)}(R:ae P h₀ W objs s)(hp:W.pv=(it,o)::pv)(hd:∀ p∈pv,p.1≠it){h':Heap}{tk:Nat}(hz:s.heap.objs.size<=h'.objs.size)(k:Heap.ExtBut it s.heap h')(ho:h'.get? it=some o') :
  ae P h₀ { W with pv:=(it,o')::pv } objs { s with heap:=h',toks:=tk }:=R.pvTurn hp hd hz k λ p h=>by
 cases h with
 | head=>exact .inr ⟨rfl,ho⟩
 | tail _ h=>exact .inl h
theorem ae.pvDrop{it:Addr}{o:Obj}{pv:List (Addr×Obj)}(R:ae P h₀ W objs s)(hp:W.pv=(it,o)::pv):ae P h₀ { W with pv:=pv } objs s:=
 ⟨R.len,R.nod,R.fr,R.lt,R.fz,λ p h=>R.pv p (hp▸ .tail _ h),R.gg,R.slot,R.old,R.tab⟩
theorem ae.pvLose{it:Addr}{o:Obj}{pv:List (Addr×Obj)}(R:ae P h₀ W objs s)(hp:W.pv=(it,o)::pv)(hd:∀ p∈pv,p.1≠it){h':Heap}{tk:Nat}(hz:s.heap.objs.size<=h'.objs.size)(k:Heap.ExtBut it s.heap h') :
  ae P h₀ { W with pv:=pv } objs { s with heap:=h',toks:=tk }:=R.pvTurn hp hd hz k λ _ h=> .inl h
end
inductive iK where
 | lst (v:V)
 | str (x:Str)
 | rng (a:Int) (n:Nat)
noncomputable def lz(σ:St)(v:V):Option (List V):=(((fY σ v).bind Br).map λ ds=>ds.map .d).or ((f9 v).bind λ i=>(σ.at i).bind wY)
noncomputable def lH(σ:St)(src:iK)(k:Nat):Option (Option V):=match src with
 | .lst v=>(lz σ v).map λ vs=>vs[k]?
 | .str x=>some ((x.cps[k]?).map λ c=> .d (.str ⟨#[c]⟩))
 | .rng a n=>some (if k<n then some (.d (.int (a+k))) else none)
noncomputable def aR(x:Str):Bool:=x.cps.all (·<128)
noncomputable def G3:V->Option Str
 | .d (.str x)=>some x
 | _=>none
noncomputable def KN(a b c:D):Option (Int×Nat):=match a with
 | .int i=>(match b with
  | .int j=>(match c with
   | .int k=>if (k==1&&Builtin.Range.small i j k&&decide (i<=j))=true then some (i,(j-i).toNat) else none
   | _=>none)
  | _=>none)
 | _=>none
noncomputable def lP:List D->Option (Int×Nat)
 | [a,b,c]=>KN a b c
 | _=>none
noncomputable def Hz(f:List D->List D)(v:V):Option (Int×Nat):=match v with
 | .rcd n vs=>if n = "range" then (nf vs).bind λ l=>lP (f l) else none
 | _=>none
noncomputable def qE(σ:St)(v:V):Option iK:=((G3 v).bind λ x=>if aR x then some (.str x) else none).or (((Hz id v).map λ p=> .rng p.1 p.2).or ((lz σ v).map λ _=> .lst v))
inductive aY(W:Wd):iK->Nat->Obj->Prop
 | lst (v:V) (l:Addr) (k:Nat) (o:Obj):VR W.ρ W.F v (.ref l)->o.cls= .type "list_iterator" -> o.data= .fields #[.ref l,.int k 0]->aY W (.lst v) k o
 | str (x:Str) (t:Tok) (k:Nat) (o:Obj):o.cls= .type "str_ascii_iterator" -> o.data= .fields #[.str x t,.int k 0]->aY W (.str x) k o
 | rng (a:Int) (n k:Nat):aY W (.rng a n) k { cls:= .type "range_iterator",dict:=none,data:= .fields #[rawInt (a+k),rawInt ((n:Int)-k),rawInt 1],slots:=#[] }
theorem aY.le{W W':Wd}{src:iK}{k:Nat}{o:Obj}(h:aY W src k o)(le:W.le W'):aY W' src k o:=by
 cases h with
 | lst v l k o a b c=>exact .lst v l k o (a.le le) b c
 | str x t k o a b=>exact .str x t k o a b
 | rng a n k=>exact .rng a n k
theorem aY.pv{W:Wd}{pv}{src:iK}{k:Nat}{o:Obj}(h:aY W src k o):aY { W with pv:=pv } src k o:=by
 cases h with
 | lst v l k o a b c=>exact .lst v l k o a b c
 | str x t k o a b=>exact .str x t k o a b
 | rng a n k=>exact .rng a n k
section
variable{h₀:Heap}{W:Wd}{σ:St}{s:Shared}{A:Around}
inductive BR(W:Wd)(s:Shared)(vs:List V)(x:Value):Prop
 | mk (l:Addr) (xs:List Value) (m:Nat) (e:x= .ref l) (ho:s.heap.get? l=some (aF "list" xs m)) (hs:VRs W.ρ W.F vs xs)
theorem jG{v:V}{x:Value}(R:ae w.params h₀ W σ s)(ha:VR W.ρ W.F v x):Ok (lz σ v) λ vs=>BR W s vs x:=by
 refine .or (.map (P:=λ ds=>BR W s (ds.map .d) x) (.bind (dA R ha) λ d hv=>(lj d).mono λ ds e=>?_) λ _ z=>z) (.bind (bh v) λ i e=>?_)
 ·subst e
  cases hv with
  | lst _ xs l m ho hs=>exact ⟨l,xs,m,rfl,ho,hs.toVRs⟩
 ·subst e
  exact (zm R ha).mono λ vs ⟨l,xs,n,e,_,ho,hs⟩=>⟨l,xs,n,e,ho,hs⟩
theorem uJ{ρ F}{v:V}{x:Value}(h:VR ρ F v x):Ok (G3 v) λ y=>∃ t,x= .str y t:=by
 cases v with
 | d d=>cases d with
  | str y=>exact .some h.str
  | _=>exact .none
 | _=>exact .none
theorem tF{a b:Int}(h:a<=b):Builtin.Range.rangeSize a b 1=(((b-a).toNat:Nat):Int):=by
 unfold Builtin.Range.rangeSize
 simp
 omega
inductive BV(s:Shared)(x:Value)(p:Int×Nat):Prop
 | mk (l:Addr) (b:Int) (t u v:Tok) (e:x= .ref l) (h:IsRange s.heap l p.1 b 1 t u v) (hs:Builtin.Range.small p.1 b 1=true) (hn:Builtin.Range.rangeSize p.1 b 1=(p.2:Int))
theorem Dl{F a b c xs l}(h:wm F a b c xs)(hl:s.heap.get? l=some (cA "range" xs)):Ok (KN a b c) (BV s (.ref l)):=by
 obtain ⟨x,y,z,ab,ik,xo⟩:=h
 cases ab with
 | int i t=>cases ik with
  | int j u=>cases xo with
   | int k v=>
    refine .ifs λ q=>?_
    simp only [Bool.and_eq_true,beq_iff_eq,decide_eq_true_eq] at q
    obtain ⟨⟨rfl,hs⟩,hab⟩:=q
    exact .some ⟨l,j,t,u,v,rfl,hl,hs,tF hab⟩
   | _=>exact .none
  | _=>exact .none
 | _=>exact .none
theorem uX{v:V}{x:Value}{f:List D->List D}(R:ae w.params h₀ W σ s)(ha:VR W.ρ W.F v x)(he:∀ ds p,lP (f ds)=some p->lP (dens W.F.en ds)=some p):Ok (Hz f v) (BV s x):=by
 cases ha with
 | rcd n vs xs l hm hs=>
  refine .ifs λ e=> .bind (lu vs) λ ds h p q=>?_
  subst e h
  have q:=he _ _ q
  have hv:=VRs.data hs
  cases ds with
  | nil=>exact ns q
  | cons a ds=>cases ds with
   | nil=>exact ns q
   | cons b ds=>cases ds with
    | nil=>exact ns q
    | cons c ds=>cases ds with
     | nil=>exact Dl hv.three (R.fz _ hm).1 p q
     | cons=>exact ns q
 | _=>exact .none
theorem Hy(en:Nat->D)(ds:List D):∀ p,lP ds=some p->lP (dens en ds)=some p:=by
 show Ok (lP ds) λ p=>lP (dens en ds)=some p
 cases ds with
 | nil=>exact .none
 | cons a ds=>cases ds with
  | nil=>exact .none
  | cons b ds=>cases ds with
   | nil=>exact .none
   | cons c ds=>cases ds with
    | cons=>exact .none
    | nil=>cases a with
     | int=>cases b with
      | int=>cases c with
       | int=>exact .self
       | _=>exact .none
      | _=>exact .none
     | _=>exact .none
theorem jd(R:ae w.params h₀ W σ s):∀ p∈W.pv,p.1≠s.heap.objs.size:=λ p hp e=>by
 have:=(R.pv p hp).1
 rw [e] at this
 exact absurd (Heap.lt_size this) (Nat.lt_irrefl _)
inductive B7(h₀:Heap)(W:Wd)(σ:St)(P:Obj->Prop)(y:Value)(s':Shared):Prop
 | mk (it:Addr) (o:Obj) (e:y= .ref it) (h:P o) (R:ae w.params h₀ { W with pv:=(it,o)::W.pv } σ s') (ne:∀ p∈W.pv,p.1≠it)
theorem rI{x:Str}{t:Tok}{P:Obj->Prop}(R:ae w.params h₀ W σ s)(hx:aR x=true)(h:∀ o,o.cls= .type "str_ascii_iterator" -> o.data= .fields #[.str x t,.int 0 0]->P o):wpAny (model prog w) A (pyIter (.str x t)) (B7 h₀ W σ P) ah s:=
 wpAny_pyIter_ascii hx ⟨_,_,rfl,h _ rfl rfl,R.pvNew rfl _,jd R⟩
theorem rM{l:Addr}{xs:List Value}{m:Nat}{P:Obj->Prop}(R:ae w.params h₀ W σ s)(ho:s.heap.get? l=some (aF "list" xs m))(h:∀ o,o.cls= .type "list_iterator" -> o.data= .fields #[.ref l,.int 0 0]->P o):wpAny (model prog w) A (pyIter (.ref l)) (B7 h₀ W σ P) ah s:=
 wpAny_pyIter_list (au ho) ⟨_,_,rfl,h _ rfl rfl,R.pvNew rfl _,jd R⟩
noncomputable abbrev Dj(a:Int)(n k:Nat):Obj:={ cls:= .type "range_iterator",dict:=none,data:= .fields #[rawInt (a+k),rawInt ((n:Int)-k),rawInt 1],slots:=#[] }
theorem rK{x:Value}{p:Int×Nat}{P:Obj->Prop}(R:ae w.params h₀ W σ s)(hx:BV s x p)(h:P (Dj p.1 p.2 0)):wpAny (model prog w) A (pyIter x) (B7 h₀ W σ P) ah s:=by
 obtain ⟨l,b,t,u,v,rfl,hi,hs,hn⟩:=hx
 refine wpAny_pyIter_range hi hs ⟨_,_,rfl,?_,R.pvNew rfl _,jd R⟩
 rw [hn]
 simpa only [Dj,Int.natCast_zero,Int.add_zero,Int.sub_zero] using h
theorem lK{v:V}{x:Value}(R:ae w.params h₀ W σ s)(ha:VR W.ρ W.F v x):Ok (qE σ v) λ src=>wpAny (model prog w) A (pyIter x) (B7 h₀ W σ (aY W src 0)) ah s:=by
 refine .or (.bind (uJ ha) λ y ⟨t,e⟩=> .ifs λ hx=> .some (e▸rI R hx λ o a b=> .str y t 0 o a b)) (.or (.map (uX R ha (Hy _)) λ p h=>rK R h (.rng p.1 p.2 0)) (.map (jG R ha) λ vs h=>?_))
 obtain ⟨l,xs,m,rfl,ho,hs⟩:=h
 exact rM R ho λ o a b=> .lst v l 0 o ha a b
inductive f7(h₀:Heap)(W:Wd)(σ:St)(it:Addr)(pv:List (Addr×Obj))(I:Obj->Prop):Option (Value->Prop)->Option Value->Shared->Prop
 | none {s'} (R:ae w.params h₀ { W with pv:=pv } σ s'):f7 h₀ W σ it pv I none none s'
 | some {s'} (P:Value->Prop) (x:Value) (h:P x) (o':Obj) (i:I o') (R:ae w.params h₀ { W with pv:=(it,o')::pv } σ s'):f7 h₀ W σ it pv I (some P) (some x) s'
inductive NQ(h₀:Heap)(W:Wd)(σ:St)(it:Addr)(pv:List (Addr×Obj))(I:Obj->Prop)(P:Value->Prop)(y:Option Value)(s':Shared):Prop
 | mk (x:Value) (e:y=some x) (h:P x) (o':Obj) (i:I o') (R:ae w.params h₀ { W with pv:=(it,o')::pv } σ s')
noncomputable def Cd(h₀:Heap)(W:Wd)(σ:St)(it:Addr)(pv:List (Addr×Obj))(I:Obj->Prop):Option (Value->Prop)->Option Value->Shared->Prop
 | none=>λ y s'=>y=none∧ae w.params h₀ { W with pv:=pv } σ s'
 | some P=>NQ h₀ W σ it pv I P
theorem f7.inv{it pv I f y s'}(h:f7 h₀ W σ it pv I f y s'):Cd h₀ W σ it pv I f y s':=f7.casesOn (motive:=λ f y s' _=>Cd h₀ W σ it pv I f y s') h (λ R=>⟨rfl,R⟩) λ _ x h o' i R=>⟨x,rfl,h,o',i,R⟩
section
variable{it:Addr}{o:Obj}{pv:List (Addr×Obj)}{I:Obj->Prop}{k:Nat}
theorem z6{l:Addr}{xs:List Value}{m:Nat}(hA:A.handled=none)(R:ae w.params h₀ { W with pv:=(it,o)::pv } σ s)(hd:∀ p∈pv,p.1≠it)(ho:s.heap.get? l=some (aF "list" xs m))(hc:o.cls= .type "list_iterator")(hdt:o.data= .fields #[.ref l,.int k 0])
  (hI:∀ o',o'.cls= .type "list_iterator" -> o'.data= .fields #[.ref l,.int ((k+1:Nat):Int) 0]->I o'):wpAny (model prog w) A (pyNext (.ref it)) (f7 h₀ W σ it pv I ((xs[k]?).map λ x y=>y=x)) ah s:=by
 have hg:=(R.pv (it,o) (.head _)).1
 refine b7 ?_
 cases hx:xs[k]? with
 | none=>exact wpAny_pyNext_list_end hA ⟨o,hg,hc,hdt⟩ (au ho) (by simpa using hx) λ h' ke hz=> .none (R.pvLose rfl hd hz ke)
 | some x=>exact wpAny_pyNext_list_item ⟨o,hg,hc,hdt⟩ (au ho) (by simpa using hx) λ h' ⟨o',ho',hc',hd'⟩ ks hz=> .some _ _ rfl o' (hI o' hc' hd') (R.pvSet rfl hd hz ks.extBut ho')
theorem z4{x:Str}{t:Tok}(hA:A.handled=none)(R:ae w.params h₀ { W with pv:=(it,o)::pv } σ s)(hd:∀ p∈pv,p.1≠it)(hc:o.cls= .type "str_ascii_iterator")(hdt:o.data= .fields #[.str x t,.int k 0])
  (hI:∀ o',o'.cls= .type "str_ascii_iterator" -> o'.data= .fields #[.str x t,.int ((k+1:Nat):Int) 0]->I o'):wpAny (model prog w) A (pyNext (.ref it)) (f7 h₀ W σ it pv I ((x.cps[k]?).map λ c y=>∃ t,y= .str ⟨#[c]⟩ t)) ah s:=by
 have hg:=(R.pv (it,o) (.head _)).1
 refine b7 ?_
 cases hx:x.cps[k]? with
 | none=>exact wpAny_pyNext_ascii_end hA ⟨o,hg,hc,hdt⟩ hx λ h' ke hz=> .none (R.pvLose rfl hd hz ke)
 | some c=>exact wpAny_pyNext_ascii_item ⟨o,hg,hc,hdt⟩ hx λ h' ⟨o',ho',hc',hd'⟩ ks hz=> .some _ _ ⟨_,rfl⟩ o' (hI o' hc' hd') (R.pvSet rfl hd hz ks.extBut ho')
theorem z5{a:Int}{n:Nat}(hA:A.handled=none)(R:ae w.params h₀ { W with pv:=(it,Dj a n k)::pv } σ s)(hd:∀ p∈pv,p.1≠it)(hI:I (Dj a n (k+1))) :
  wpAny (model prog w) A (pyNext (.ref it)) (f7 h₀ W σ it pv I (if k<n then some λ y=>∃ t,y= .int (a+k) t else none)) ah s:=by
 have hg:=(R.pv (it,_) (.head _)).1
 refine b7 ?_
 by_cases hk:k<n
 ·rw [if_pos hk]
  refine wpAny_pyNext_range_item hg (by omega) λ h' ht ks hz=> .some _ _ ⟨_,rfl⟩ _ hI (R.pvSet rfl hd hz ks.extBut ?_)
  unfold IsRangeIter at ht
  rw [show a+(k:Int)+1=a+((k+1:Nat):Int) by omega,show (n:Int)-k-1=(n:Int)-((k+1:Nat):Int) by omega] at ht
  exact ht
 ·rw [if_neg hk]
  exact wpAny_pyNext_range_end hA hg (by omega) λ h' ke hz=> .none (R.pvLose rfl hd hz ke)
end
theorem VRs.at{ρ F vs xs}(h:VRs ρ F vs xs)(k:Nat):(vs[k]?=none∧xs[k]?=none)∨∃ v x,vs[k]?=some v∧xs[k]?=some x∧VR ρ F v x:=by
 cases q:vs[k]? with
 | none=>exact .inl ⟨rfl,by rw [List.getElem?_eq_none_iff] at q ⊢;rw [← h.length];exact q⟩
 | some v=>obtain ⟨x,hx,r⟩:=h.get q;exact .inr ⟨v,x,rfl,hx,r⟩
noncomputable def NR(h₀:Heap)(W:Wd)(σ:St)(src:iK)(k:Nat)(it:Addr)(pv:List (Addr×Obj))(rv:Option V):Option Value->Shared->Prop:=f7 h₀ W σ it pv (aY W src (k+1)) (rv.map λ v x=>VR W.ρ W.F v x)
theorem f7.mono{it pv I f g a s'}(h:f7 h₀ W σ it pv I f a s')(k:(f=Option.none∧g=Option.none)∨∃ P Q,f=Option.some P∧g=Option.some Q∧∀ x,P x->Q x):f7 h₀ W σ it pv I g a s':=by
 rcases k with ⟨rfl,rfl⟩ | ⟨P,Q,rfl,rfl,h'⟩
 ·exact h
 ·cases h with
  | some _ x hx o' i R=>exact .some _ x (h' x hx) o' i R
theorem cS{src:iK}{k:Nat}{it:Addr}{o:Obj}{pv:List (Addr×Obj)}(hA:A.handled=none)(R:ae w.params h₀ { W with pv:=(it,o)::pv } σ s)(hd:∀ p∈pv,p.1≠it)(hi:aY W src k o) :
  Ok (lH σ src k) λ rv=>wpAny (model prog w) A (pyNext (.ref it)) (NR h₀ W σ src k it pv rv) ah s:=by
 cases hi with
 | lst v l _ _ hv hc hdt=>
  refine .map (jG (W:={ W with pv:=(it,o)::pv }) R hv) λ vs q=>?_
  obtain ⟨l',xs,m,e,ho,hs⟩:=q
  cases e
  refine aC (z6 hA R hd ho hc hdt λ o' a b=> .lst v l _ o' hv a b) λ a s' q=>q.mono ?_
  rcases hs.at k with ⟨e1,e2⟩ | ⟨v,x,e1,e2,r⟩<;>rw [e1,e2]
  ·exact .inl ⟨rfl,rfl⟩
  ·exact .inr ⟨_,_,rfl,rfl,λ y e=>e▸r⟩
 | str x t _ _ hc hdt=>
  refine .some (aC (z4 hA R hd hc hdt λ o' a b=> .str x t _ o' a b) λ a s' q=>q.mono ?_)
  cases x.cps[k]? with
  | none=>exact .inl ⟨rfl,rfl⟩
  | some c=>exact .inr ⟨_,_,rfl,rfl,λ y ⟨t,e⟩=>e▸ .mkStr _ _⟩
 | rng a m _=>
  refine .some (aC (z5 hA R hd (.rng a m _)) λ a s' q=>q.mono ?_)
  split
  ·exact .inr ⟨_,_,rfl,rfl,λ y ⟨t,e⟩=>e▸ .mkInt _ _⟩
  ·exact .inl ⟨rfl,rfl⟩
end
noncomputable def FM:Expr->Option (Str×Pos)
 | .Name x p=>some (x,p)
 | _=>none
theorem z7(e:Expr):Ok (FM e) λ q=>e= .Name q.1 q.2:=by cases e<;>first | exact .none | exact .some rfl
noncomputable def pd:List Expr->Option (List (Str×Pos))
 | []=>some []
 | e::es=>(FM e).bind λ q=>(pd es).map (q::·)
noncomputable def tT(X:Cx)(d:D):Nat->Nat->Option (List D)
 | 0,_=>some []
 | n+1,k=>(kO X.K X.O .item [d,.int k]).bind λ x=>(tT X d n (k+1)).map (x::·)
noncomputable def zN:V->Option (List V)
 | .d (.tup ds)=>some (ds.map .d)
 | .tup vs=>some vs
 | _=>none
noncomputable def Kb:V->Option Nat
 | .d (.var i)=>some i
 | _=>none
noncomputable def Ao(n:Nat)(vs:List V):Option (List V):=if vs.length=n then some vs else none
noncomputable def uD(X:Cx)(v:V)(n:Nat)(σ:St):Option (List V):=((zN v).bind (Ao n)).or
 (((Kb v).bind λ i=>(kO X.K X.O .isT [.var i,.int n]).bind λ _=>if n<=1048576 then (tT X (.var i) n 0).map λ ds=>ds.map .d else none).or
 ((lz σ v).bind (Ao n)))
noncomputable def fG(e:Expr):Bool:=e.ctorIdx==24||e.ctorIdx==25
section
variable{h₀:Heap}{n:Nat}{X:Cx}{W:Wd}{σ:St}{s:Shared}{A:Around}
theorem nj{v:V}{vs:List V}(h:lz σ v=some vs)(k:Nat):lH σ (.lst v) k=some vs[k]?:=by
 show (lz σ v).map _=_;rw [h];rfl
inductive Fq(h₀:Heap)(W:Wd)(σ:St)(v:V)(it:Addr)(pv:List (Addr×Obj))(vs us:List V)(xs:List Value)(s':Shared):Prop
 | mk (hr:VRs W.ρ W.F us xs) (o':Obj) (hi:aY W (.lst v) vs.length o') (R:ae w.params h₀ { W with pv:=(it,o')::pv } σ s')
theorem qI{v:V}{vs:List V}{it:Addr}{pv:List (Addr×Obj)}(hA:A.handled=none)(hd:∀ p∈pv,p.1≠it)(hv:lz σ v=some vs) :
  ∀ (m k:Nat) {s:Shared} {o:Obj},k+m=vs.length->ae w.params h₀ { W with pv:=(it,o)::pv } σ s->aY W (.lst v) k o ->
   wpAny (model prog w) A (draw (.ref it) m) (Fq h₀ W σ v it pv vs (vs.drop k)) ah s
 | 0,k,s,o,hk,R,hi=>by
  rw [List.drop_eq_nil_iff.mpr (by omega)]
  exact Uk ⟨.nil,o,(show k=vs.length by omega)▸hi,R⟩
 | m+1,k,s,o,hk,R,hi=>by
  have hlt:k<vs.length:=by omega
  refine Uj (aC (cS hA R hd hi _ (nj hv k)) λ y ac q=>?_)
  rw [List.getElem?_eq_getElem hlt] at q
  rw [List.drop_eq_getElem_cons hlt]
  cases q with
  | some _ x rx o' hi' R'=>exact Uj (Uo (aC (qI hA hd hv m (k+1) (by omega) R' hi') λ xs az jK=>let ⟨r,o,i,R⟩:=jK;Uk ⟨.cons _ _ _ _ rx r,o,i,R⟩))
theorem AE{es:List D}{j:Nat}(h:j<es.length):Ok (kj (.tup es) (.int j)) λ d=>d=es[j]:= .ifs λ _=>by
 show Ok ((jh j es.length).bind _) _
 rw [show jh j es.length=some j by unfold jh;rw [if_pos (by omega),if_pos (by omega)];rfl]
 show Ok es[j]? _
 rw [List.getElem?_eq_getElem h]
 exact .some rfl
theorem nN(k:cx X.K X.O W.F.en){d:D}{es:List D}(hd:den W.F.en d= .tup es):∀ m j,Ok (tT X d m j) λ ds=>j+m=es.length->dens W.F.en ds=es.drop j
 | 0,j=> .some λ hj=>by rw [List.drop_eq_nil_iff.mpr (by omega)];rfl
 | m+1,j=> .bind (cj k) λ x hx=> .map (nN k hd m (j+1)) λ ds h hj=>by
  have hlt:j<es.length:=by omega
  have hx:kj (den W.F.en d) (.int j)=some (den W.F.en x):=hx
  rw [hd] at hx
  rw [List.drop_eq_getElem_cons hlt,← h (by omega),← AE hlt _ hx]
  rfl
inductive Gw(h₀:Heap)(W:Wd)(σ:St)(n:Nat)(vs:List V)(xs:List Value)(s':Shared):Prop
 | mk (hr:VRs W.ρ W.F vs xs) (hn:vs.length=n) (R:ae w.params h₀ W σ s')
inductive wl(W:Wd)(s:Shared)(vs:List V)(x:Value):Prop
 | mk (l:Addr) (xs:List Value) (m:Nat) (e:x= .ref l) (ho:s.heap.get? l=some (aF "tuple" xs m)) (hs:VRs W.ρ W.F vs xs)
theorem wl.unp{vs:List V}{x:Value}(h:wl W s vs x)(hA:A.handled=none)(R:ae w.params h₀ W σ s)(hn:vs.length=n):wpAny (model prog w) A (unpackItems x n none) (Gw h₀ W σ n vs) ah s:=by
 obtain ⟨l,xs,m,rfl,ho,hs⟩:=h
 have e:xs.toArray.size=n:=by rw [List.size_toArray,← hs.length,hn]
 rw [← e]
 exact b7 (wpAny_unpackItems_tuple hA ⟨_,ho,rfl,m,rfl⟩ λ h' ke hz=>⟨hs,by rw [e,hn],R.ext (h':=h') (tk:=s.toks) hz λ b o e=>ke b o (λ q=>absurd (Heap.lt_size (q▸e)) (Nat.lt_irrefl _)) e⟩)
theorem DV.tupAt{ds:List D}{x:Value}(R:ae w.params h₀ W σ s)(h:DV W.F.fs (.tup (dens W.F.en ds)) x):wl W s (ds.map .d) x:=by
 cases h with
 | tup _ xs l m hm hs=>exact ⟨l,xs,m,rfl,(R.fz _ hm).1,hs.toVRs⟩
theorem w7{v:V}{x:Value}(R:ae w.params h₀ W σ s)(hx:VR W.ρ W.F v x):Ok (zN v) λ vs=>wl W s vs x:=by
 cases hx with
 | d d _ q=>cases d with
  | tup ds=>exact .some (DV.tupAt R q)
  | _=>exact .none
 | tup vs xs l m hm hs=>exact .some ⟨l,xs,m,rfl,(R.fz _ hm).1,hs⟩
 | _=>exact .none
theorem Cs(v:V):Ok (Kb v) λ i=>v= .d (.var i):=by
 cases v with
 | d d=>cases d<;>first | exact .some rfl | exact .none
 | _=>exact .none
theorem D2{a b:D}:Ok (Io a b) λ _=>∃ es n,a= .tup es∧b= .int n∧(es.length:Int)=n:=by
 cases a with
 | tup es=>cases b with
  | int n=>exact .ifs λ h=> .some ⟨es,n,rfl,rfl,h⟩
  | _=>exact .none
 | _=>exact .none
theorem rA{vs:List V}:Ok (Ao n vs) λ us=>us=vs∧vs.length=n:= .ifs λ h=> .some ⟨rfl,h⟩
theorem s4{v:V}{x:Value}(k:cx X.K X.O W.F.en)(hA:A.handled=none)(R:ae w.params h₀ W σ s)(hx:VR W.ρ W.F v x) :
  Ok (uD X v n σ) λ vs=>wpAny (model prog w) A (unpackItems x n none) (Gw h₀ W σ n vs) ah s:=by
 refine .or (.bind (w7 R hx) λ vs h=>rA.mono λ _ ⟨e,hn⟩=>e▸h.unp hA R hn) (.or (.bind (Cs v) λ i e=> .bind (cj k) λ z hz=> .ifs λ hn=> .map .self λ ds hds=>?_) (.bind .self λ u hu=>rA.mono λ us ⟨e,hn⟩=>?_))
 ·subst e
  obtain ⟨es,n',e1,e2,e3⟩:=D2 _ (show Io (den W.F.en (.var i)) (.int n)=some (den W.F.en z) from hz)
  cases e2
  have hd:=nN k e1 n 0 ds hds (by omega)
  rw [List.drop_zero] at hd
  cases hx with
  | d _ _ q=>
   rw [e1,← hd] at q
   refine (DV.tupAt R q).unp hA R ?_
   rw [List.length_map,← List.length_map (f:=den W.F.en),← dE,hd];omega
 ·subst e
  obtain ⟨l,xs,m,rfl,ho,hs⟩:=jG R hx _ hu
  unfold unpackItems
  refine Uj ?_
  unfold notIterableAtAll
  refine Uj (wpAny_specialOf (au ho).typeIs PySem.F.slot_list_iter.lookup (Uk ?_))
  refine Uj (Uo (wpAny_pyIter_list (au ho) (Uj (Uo (aC (qI (v:=v) (vs:=us) hA (jd R) hu n 0 (by omega) (R.pvNew rfl _) (.lst v l 0 _ hx rfl rfl)) λ ys ac q=>?_)))))
  obtain ⟨rs,o',hi',R'⟩:=q
  rw [List.drop_zero] at rs
  have hl:=rs.length
  rw [if_neg (by omega)]
  refine Uj (Uo (aC (cS hA R' (jd R) hi' _ (nj hu _)) λ y az q=>?_))
  rw [List.getElem?_eq_none (Nat.le_refl _)] at q
  cases q with
  | none R''=>exact Uk ⟨rs,hn,R''⟩
end
structure ClsOk(h₀:Heap)(X:Cx):Prop where
 get:∀ {W σ s A x dx f name y ex} {Q:Value->Shared->Prop},ae w.params h₀ W σ s->s.heap.get? x=some ⟨.ref X.cls,some dx,.plain,#[]⟩->s.heap.Ns dx f->f name=some y->handedIn y=true->X.own name=true->(∀ tk,Q y { s with toks:=tk })->wpAny (model prog w) A (getAttr (.ref x) name ex) Q ah s
 meth:∀ {W σ s A x dx f name fa pl} {Q:Value×List Value->Shared->Prop},ae w.params h₀ W σ s->s.heap.get? x=some ⟨.ref X.cls,some dx,.plain,#[]⟩->s.heap.Ns dx f->f name=none->X.mth name=some fa->Q (.ref fa,[.ref x]) s->wpAny (model prog w) A (getMethod (.ref x) name pl) Q ah s
 bound:∀ {W σ s A x dx f name fa ex} {Q:Value->Shared->Prop},ae w.params h₀ W σ s->s.heap.get? x=some ⟨.ref X.cls,some dx,.plain,#[]⟩->s.heap.Ns dx f->f name=none->X.mth name=some fa ->
  (∀ tk,Q (.ref s.heap.objs.size) { s with heap:=s.heap.push { cls:= .type "method",data:= .fields #[.ref fa,.ref x] },toks:=tk })->wpAny (model prog w) A (getAttr (.ref x) name ex) Q ah s
 set:∀ {W} {σ:St} {s A} {i d:Nat} {x:Addr} {name:Str} {v:V} {y k:Value} {dd:Option Nat} {m:List (Str×V)} {Q:Unit->Shared->Prop},ae w.params h₀ W σ s->W.ρ[i]?=some x->σ.at i=some ⟨.ref X.cls,some d,.plain⟩->σ.at d=some ⟨k,dd,.dict m⟩->m.length<=1000->VR W.ρ W.F v y->X.own name=true ->
  (∀ h' tk,ae w.params h₀ W (σ.set d (some ⟨k,dd,.dict (jJ m name v)⟩)) { s with heap:=h',toks:=tk }->Q () { s with heap:=h',toks:=tk })->wpAny (model prog w) A (setAttr (.ref x) name y) Q ah s
noncomputable def Jc(X:Cx)(o:AO):Option Nat:=if o.cls= .ref X.cls then (match o.data with | .plain=>o.dict | _=>none) else none
theorem v6{X:Cx}(o:AO):Ok (Jc X o) λ d=>o=⟨.ref X.cls,some d,.plain⟩:=by
 obtain ⟨c,d,ad⟩:=o
 refine .ifs λ h=>?_
 cases ad with
 | plain=>exact λ a e=>by rw [show c=_ from h,show d=_ from e]
 | _=>exact .none
noncomputable def KB(X:Cx)(i:Nat)(name:Str)(v:V)(σ:St):Option St:=if X.own name=true then
  (σ.at i).bind λ o=>(Jc X o).bind λ d=>(σ.at d).bind λ q=>(kl q).bind λ m=>if m.length<=1000 then some (σ.set d (some ⟨q.cls,q.dict,.dict (jJ m name v)⟩)) else none
 else none
noncomputable def cW(X:Cx)(r:b5)(c:aw)(t:Expr)(v:V)(σ:St):Option St:=match t with
 | .Name x _=>aS c x v σ
 | .Tuple es _ _=>(pd es).bind λ ns=>(uD X v ns.length σ).bind λ vs=>bU c ((ns.map (·.1)).zip vs) σ
 | .Attribute o a _=>(r.E c o σ).bind λ p=>(f9 p.1).bind λ i=>KB X i a v p.2
 | _=>none
section
variable{Z:Zx}{h₀:Heap}{X:Cx}{W:Wd}{σ σ':St}{s:Shared}{A:Around}{c:aw}
theorem l9{env:Env}:∀ es,Ok (pd es) λ ns=>assignEach es env=ns.map λ p=>(false,assign (.Name p.1 p.2) env)
 | []=> .some rfl
 | e::es=> .bind (z7 e) λ q hq=> .map (l9 es) λ ns h=>by subst hq;show _::assignEach es env=_;rw [h];rfl
theorem j7(ok:c.Ok W.ρ.length):∀ {ns:List (Str×Pos)} {vs:List V} {xs:List Value} {σ σ':St} {s:Shared},bU c ((ns.map (·.1)).zip vs) σ=some σ'->ae w.params h₀ W σ s->VRs W.ρ W.F vs xs ->
  wpAny (model prog w) A (assignInOrder (ns.map λ p=>assign (.Name p.1 p.2) (c.env W.ρ)) xs) (λ _ s'=>ae w.params h₀ W σ' s') ah s
 | [],vs,xs,σ,σ',s,h,R,hv=>by
  cases h
  exact Uk R
 | p::ns,[],xs,σ,σ',s,h,R,hv=>by
  cases hv;cases h
  exact Uk R
 | p::ns,v::vs,xs,σ,σ',s,h,R,hv=>by
  cases hv with
  | cons _ x _ xs h1 h2=>
   obtain ⟨σ₁,e1,e2⟩:=cY (show (aS c p.1 v σ).bind (bU c ((ns.map (·.1)).zip vs))=some σ' from h)
   show wpAny _ A (do holding xs (assign (.Name p.1 p.2) (c.env W.ρ) x);assignInOrder (ns.map λ p=>assign (.Name p.1 p.2) (c.env W.ρ)) xs) _ ah s
   refine Uj (Uo (wpAny_assign_Name (bv R ok e1 h1 λ h' tk R'=>?_)))
   exact j7 ok e2 R' h2
theorem yX(CO:ClsOk h₀ X){i:Nat}{name:Str}{v:V}{x y:Value}(R:ae w.params h₀ W σ s)(hx:VR W.ρ W.F (.ref i) x)(hy:VR W.ρ W.F v y) :
  Ok (KB X i name v σ) λ σ'=>wpAny (model prog w) A (setAttr x name y) (λ _ s'=>ae w.params h₀ W σ' s') ah s:=by
 refine .ifs λ hown=> .bind .self λ o ho=> .bind (v6 o) λ d e=> .bind .self λ q hq=> .bind (dD q) λ m e2=> .ifs λ hlen=> .some ?_
 cases hx with
 | ref _ a hi=>exact CO.set R hi (e▸ho) (e2▸hq) hlen hy hown λ h' tk R'=>R'
theorem dl(S:cO Z)(CO:ClsOk Z.h₀ Z.X)(t:Expr)(v:V)(σ:St):Ok (cW Z.X Z.r c t v σ) λ σ'=>∀ env A W s x,At Z c env A W σ s->VR W.ρ W.F v x->wpAny (model prog w) A (assign t env x) (PU Z.h₀ W σ') ah s:=by
 cases t with
 | Name x p=>exact λ σ' h env A W s y a hx=>a.e▸wpAny_assign_Name (bv a.R a.ok h hx λ h' tk R'=>⟨W,.refl W,R'⟩)
 | Tuple es kk p=>
  refine .bind .self λ ns hns=> .bind .self λ vs hvs σ' h env A W s y a hx=>?_
  rw [arm_assign_Tuple]
  refine Uj (wpAny_standAt ?_)
  unfold unpack
  rw [l9 es ns hns,List.length_map,show (ns.map λ p=>(false,assign (.Name p.1 p.2) env)).findIdx? (·.1)=none by rw [List.findIdx?_eq_none_iff];intro q hq;simp at hq;obtain ⟨_,_,_,rfl⟩:=hq;rfl,
   show (ns.map λ p=>(false,assign (.Name p.1 p.2) env)).map (·.2)=ns.map λ p=>assign (.Name p.1 p.2) env by simp,← a.e]
  exact Uj (Uo (aC (s4 a.k a.a.handled a.R hx vs hvs) λ xs ac ⟨hr,hl,ax⟩=>aC (j7 a.ok h ax hr) λ _ az aG=>⟨W,.refl W,aG⟩))
 | Attribute o at' p=>
  refine .bind (S.E c o σ) λ q t=> .bind (bh q.1) λ i e σ' h env A W s y a hx=>?_
  rw [arm_assign_Attribute]
  exact Uj (Uo (t.go a λ z ac W₁ le hz a₁=>Uj (wpAny_standAt (Uj (Uo (aC (yX CO a₁.R (e▸hz) (hx.le le) _ h) λ _ az aG=>wpAny_release ⟨W₁,le,aG⟩))))))
 | _=>exact .none
end
noncomputable def Ev(f:Fl×St->Option (Fl×St))(q:Fl×St):Option (Fl×St):=match q.1 with
 | .next=>f q
 | .cont=>f q
 | .brk=>some (.next,q.2)
 | .ret u=>some (.ret u,q.2)
noncomputable def vt(X:Cx)(r:b5)(c:aw)(t:Expr)(body:List Stmt)(src:iK):Nat->Nat->St->Option (Fl×St)
 | 0,_,_=>none
 | m+1,k,σ=>(lH σ src k).bind λ rv=>match rv with
  | none=>some (.next,σ)
  | some v=>(cW X r c t v σ).bind λ σ₁=>(af r c body σ₁).bind λ p=>Ev (λ p=>vt X r c t body src m (k+1) p.2) p
noncomputable def ly(r:b5)(c:aw)(t:Expr)(body:List Stmt):Nat->St->Option (Fl×St)
 | 0,_=>none
 | m+1,σ=>(r.T c t σ).bind λ q=>if q.1 then (af r c body q.2).bind λ p=>Ev (λ p=>ly r c t body m p.2) p
  else some (.next,q.2)
noncomputable def a6(t:Expr)(src:iK):Bool:=t.ctorIdx==23||(t.ctorIdx==25&&(match src with | .lst _=>true | _=>false))
noncomputable def Cc(Go:Shared->Prop)(R:Flow->Shared->Prop):Flow->Shared->Prop:=λ g s=>match g with
 | .next=>Go s
 | .cont=>Go s
 | .brk=>R .next s
 | .ret v=>R (.ret v) s
noncomputable def NN(A:Around)(t:Expr)(it:Value)(body:List Stmt)(env:Env)(I:Nat->Shared->Prop)(m:Nat)(R:Flow->Shared->Prop):Option Value->Shared->Prop:=λ r s=>match r with
 | none=>R .next s
 | some v=>wpAny (model prog w) A (letOwnedTupleGo t it v) (λ _ ac=>wpAny (model prog w) A (assign t env v) (λ _ az=>wpAny (model prog w) A (execs body env) (Cc (λ s=>∃ m',m'<m∧I m' s) R) ah az) ah ac) ah s
noncomputable def J3(R:Flow->Shared->Prop):Result->Shared->Prop:=λ r s=>match r with
 | .ok x=>R x s
 | .error _=>False
theorem t0{A:Around}{t:Expr}{it:Value}{body:List Stmt}{env:Env}(I:Nat->Shared->Prop){R:Flow->Shared->Prop}(turn:∀ m s,I m s->wpAny (model prog w) A (pyNext it) (NN A t it body env I m R) ah s)(m:Nat){s:Shared}(h:I m s) :
  codeAny (model prog w) A (.forLoop t it body [] env) (J3 R) s:=
 codeAny_forLoop_any I (λ m s hI=>wpAny_mono (turn m s hI) (λ r ac q=>by
  cases r with
  | none=>exact wpAny_execs_nil q
  | some v=>exact bn (aC q λ _ _ q=>bn (aC q λ _ _ q=>bn (aC q λ g a8 q=>by cases g<;>exact q)))) λ _ _ x=>x.elim) m h
theorem qj{A:Around}{t:Expr}{body:List Stmt}{env:Env}(I:Nat->Shared->Prop){R:Flow->Shared->Prop}(turn:∀ m s,I m s->wpAny (model prog w) A (isTrue t env (eval t env)) (λ b az=>if b then wpAny (model prog w) A (execs body env) (Cc (λ s=>∃ m',m'<m∧I m' s) R) ah az else R .next az) ah s)(m:Nat){s:Shared}(h:I m s) :
  codeAny (model prog w) A (.whileLoop t body [] env) (J3 R) s:=
 codeAny_whileLoop I (λ m s hI=>wpAny_mono (turn m s hI) (λ b ac q=>by
  cases b with
  | false=>exact wpAny_execs_nil q
  | true=>exact bn (aC q λ g a8 q=>by cases g<;>exact q)) λ _ _ x=>x.elim) m h
section
variable{Z:Zx}{W:Wd}{σ:St}{s:Shared}{A:Around}{c:aw}{env:Env}
theorem i1{t:Expr}{src:iK}{k:Nat}{it:Addr}{o:Obj}{v:Value}{Q:Unit->Shared->Prop}(ht:a6 t src=true)(hi:aY W src k o)(hg:s.heap.get? it=some o)(h:Q () s) :
  wpAny (model prog w) A (letOwnedTupleGo t (.ref it) v) Q ah s:=by
 cases t with
 | Name=>exact Uk h
 | Tuple=>cases hi with
  | lst u l _ _ hu hc hd=>cases v with
   | ref T=>exact wpAny_letOwnedTupleGo_listiter ⟨o,hg,hc,hd⟩ h
   | _=>exact Uk h
  | _=>exact ft ht
 | _=>exact ft ht
theorem pP{h₀:Heap}{f:Fl×St->Option (Fl×St)}{Go:Fl×St->Prop}{q:Fl×St}{W₁:Wd}{g:Flow}(le:W.le W₁)(fr:FR W₁ q.1 g)(R:ae w.params h₀ W₁ q.2 s)(h:Ok (f q) Go):Ok (Ev f q) λ p=>Cc (λ _=>Go p) (PF h₀ W p.1 p.2) g s:=by
 obtain ⟨x,σ⟩:=q
 cases x with
 | next=>exact h.mono λ p k=>by cases g<;>first | exact fr.elim | exact k
 | cont=>exact h.mono λ p k=>by cases g<;>first | exact fr.elim | exact k
 | brk=>exact .some (by cases g<;>first | exact fr.elim | exact ⟨W₁,le,trivial,R⟩)
 | ret u=>exact .some (by cases g<;>first | exact fr.elim | exact ⟨W₁,le,fr,R⟩)
theorem Wd.le_pv{W W₁ ay:Wd}{pv pv':List (Addr×Obj)}(h:W.le { W₁ with pv:=pv })(h':({ W₁ with pv:=pv' }:Wd).le ay):W.le { ay with pv:=pv }:=⟨h.rho.trans h'.rho,h.fz.trans h'.fz,h.pv,h'.gg.trans h.gg,h'.tb.trans h.tb⟩
theorem ae.pvTo{h₀:Heap}{W W₁:Wd}{pv':List (Addr×Obj)}(R:ae w.params h₀ W₁ σ s)(h:({ W with pv:=pv' }:Wd).le W₁):ae w.params h₀ { W₁ with pv:=pv' } σ s:=by
 have:=h.pv;cases W₁;cases this;exact R
inductive B1(Z:Zx)(c:aw)(t:Expr)(body:List Stmt)(src:iK)(it:Addr)(pv:List (Addr×Obj))(W:Wd)(p:Fl×St)(m:Nat)(s:Shared):Prop
 | mk (k:Nat) (σ:St) (o:Obj) (W₁:Wd) (h:vt Z.X Z.r c t body src m k σ=some p) (le:W.le { W₁ with pv:=pv }) (R:ae w.params Z.h₀ { W₁ with pv:=(it,o)::pv } σ s) (hi:aY W₁ src k o)
theorem At.of{W₁:Wd}{pv pv':List (Addr×Obj)}(eX:cx Z.X.K Z.X.O W.F.en)(ok:c.Ok W.ρ.length)(a:bD Z.n A)(le:W.le { W₁ with pv:=pv })(R:ae w.params Z.h₀ { W₁ with pv:=pv' } σ s):At Z c (c.env W.ρ) A { W₁ with pv:=pv' } σ s:=
 ⟨⟨by show cx _ _ W₁.F.en;rw [le.fz.en];exact eX,a,R⟩,ok.mono le.rho.length_le,aw.env_pre le.rho ok⟩
theorem y5(S:cO Z)(CO:ClsOk Z.h₀ Z.X){t:Expr}{body:List Stmt}{src:iK}{it:Addr}{pv:List (Addr×Obj)}(ht:a6 t src=true)(hd:∀ q∈pv,q.1≠it)(a:bD Z.n A)(eX:cx Z.X.K Z.X.O W.F.en)(ok:c.Ok W.ρ.length)(m k:Nat)(σ:St) :
  Ok (vt Z.X Z.r c t body src (m+1) k σ) λ p=>∀ W₁ o s,W.le { W₁ with pv:=pv }->ae w.params Z.h₀ { W₁ with pv:=(it,o)::pv } σ s->aY W₁ src k o ->
   wpAny (model prog w) A (pyNext (.ref it)) (NN A t (.ref it) body (c.env W.ρ) (B1 Z c t body src it pv W p) (m+1) (PF Z.h₀ W p.1 p.2)) ah s:=by
 refine .bind .self λ rv hrv=>?_
 cases rv with
 | none=>exact .some λ W₁ o s le R hi=>aC (cS a.handled R hd hi _ hrv) λ y ac q=>by cases q with | none R'=>exact ⟨_,le,trivial,R'⟩
 | some v=>
  refine .bind (dl S CO t v σ) λ σ₁ ha=> .bind (aE S body σ₁) λ q hb p hp W₁ o s le R hi=>aC (cS a.handled R hd hi _ hrv) λ y ac q'=>?_
  cases q' with
  | some _ x rx o' hi' R'=>
   have a₁:=At.of eX ok a le R'
   refine i1 ht hi' (R'.pv (it,o') (.head _)).1 (aC (ha _ _ _ _ _ a₁ rx) λ _ az ⟨ay,aq,aG⟩=>aC (hb _ _ _ _ (a₁.to aq aG)) λ g a8 ⟨aP,br,fr,bf⟩=>?_)
   have bb:=aq.trans br
   have lx:W.le { aP with pv:=pv }:=Wd.le_pv le bb
   exact pP (W₁:={ aP with pv:=pv }) (Go:=λ p=>∃ m',m'<m+1∧B1 Z c t body src it pv W p m' a8) lx fr (bf.pvDrop bb.pv)
    (λ p hp=>⟨m,Nat.lt_succ_self _,k+1,_,o',aP,hp,lx,bf.pvTo bb,((hi'.pv (pv:=(it,o')::pv)).le bb)⟩) p hp
theorem zb(S:cO Z)(CO:ClsOk Z.h₀ Z.X){t:Expr}{body:List Stmt}{src:iK}{it:Addr}{pv:List (Addr×Obj)}{p:Fl×St}(ht:a6 t src=true)(hd:∀ q∈pv,q.1≠it)(a:bD Z.n A)(eX:cx Z.X.K Z.X.O W.F.en)(ok:c.Ok W.ρ.length){m:Nat}(h:B1 Z c t body src it pv W p m s) :
  codeAny (model prog w) A (.forLoop t (.ref it) body [] (c.env W.ρ)) (J3 (PF Z.h₀ W p.1 p.2)) s:=
 t0 _ (λ m s ⟨k,σ,o,W₁,h,le,R,hi⟩=>by
  cases m with
  | zero=>exact ns h
  | succ m=>exact y5 S CO ht hd a eX ok m k σ p h W₁ o s le R hi) m h
inductive uw(Z:Zx)(c:aw)(t:Expr)(body:List Stmt)(W:Wd)(p:Fl×St)(m:Nat)(s:Shared):Prop
 | mk (σ:St) (W₁:Wd) (h:ly Z.r c t body m σ=some p) (le:W.le W₁) (R:ae w.params Z.h₀ W₁ σ s)
theorem wH(S:cO Z){t:Expr}{body:List Stmt}(m:Nat)(σ:St):Ok (ly Z.r c t body (m+1) σ) λ p=>∀ W₁ s,W.le W₁->At Z c env A W₁ σ s ->
   wpAny (model prog w) A (isTrue t env (eval t env)) (λ b az=>if b then wpAny (model prog w) A (execs body env) (Cc (λ s=>∃ m',m'<m+1∧uw Z c t body W p m' s) (PF Z.h₀ W p.1 p.2)) ah az else PF Z.h₀ W p.1 p.2 .next az) ah s:=
 .bind (S.T c t σ) λ q ht=>by
  obtain ⟨b,σ₁⟩:=q
  have ht:SB Z c (λ env=>isTrue t env (eval t env)) σ (b,σ₁):=ht
  cases b with
  | false=>exact .some λ W₁ s le a=>ht.go a λ az ay aq bj=>⟨ay,le.trans aq,trivial,bj.R⟩
  | true=>
   refine .bind (aE S body σ₁) λ q hb p hp W₁ s le a=>ht.go a λ az ay aq bj=>hb.go bj λ g a8 aP br fr fP=>?_
   have lx:=(le.trans aq).trans br
   exact pP (Go:=λ p=>∃ m',m'<m+1∧uw Z c t body W p m' a8) lx fr fP.R (λ p hp=>⟨m,Nat.lt_succ_self _,_,aP,hp,lx,fP.R⟩) p hp
theorem s0(S:cO Z){t:Expr}{body:List Stmt}{p:Fl×St}(a:At Z c env A W σ s){m:Nat}(h:ly Z.r c t body m σ=some p):codeAny (model prog w) A (.whileLoop t body [] env) (J3 (PF Z.h₀ W p.1 p.2)) s:=
 qj (uw Z c t body W p) (λ m s ⟨σ,W₁,h,le,R⟩=>by
  cases m with
  | zero=>exact ns h
  | succ m=>exact wH S m σ p h W₁ s le ⟨⟨gK a.k le,a.a,R⟩,a.ok.le le,(aw.env_le a.ok le).trans a.e⟩) m ⟨σ,W,h,.refl W,a.R⟩
end
noncomputable def yD(c:aw)(x:Str)(tp:Pos)(p:Pos)(s:Scope):Bool:=c.sc.names.lookup x==some .local&&tp.line==p.line&&!(s.names.any λ (n,k)=>n==x&&(k== .local||k== .cell))
noncomputable def oq(c:aw)(x:Str)(tp:Pos)(v:Expr):Bool:=match v with
 | .ListComp _ _ s _=>yD c x tp v.pos s
 | .SetComp _ _ s _=>yD c x tp v.pos s
 | .DictComp _ _ _ s _=>yD c x tp v.pos s
 | _=>false
section
variable{Z:Zx}{W:Wd}{σ:St}{s:Shared}{A:Around}{c:aw}{env:Env}
theorem aw.blk{ρ:List Addr}{n:Nat}(ok:c.Ok n):(c.env ρ).blockKind= .function:=by
 have h:(c.env ρ).scope.kind= .function:=ok.kind
 unfold Env.blockKind
 rw [h];rfl
theorem gw{n:Nat}{ρ:List Addr}(ok:c.Ok n)(x:Str)(tp:Pos)(v:Expr)(line:Nat):swapsWith v (some (.Name x tp)) line (c.env ρ)=pure (oq c x tp v):=by
 have hk:=aw.blk (ρ:=ρ) ok
 have e:∀ y,(c.env ρ).kindOf y=c.sc.names.lookup y:=λ y=>rfl
 cases v with
 | ListComp=>unfold swapsWith;simp only [hk,e];rfl
 | SetComp=>unfold swapsWith;simp only [hk,e];rfl
 | DictComp=>unfold swapsWith;simp only [hk,e];rfl
 | _=>rfl
end
noncomputable def Ni(X:Cx)(r:b5)(c:aw)(t v:Expr)(σ:St):Option (Fl×St):=match t with
 | .Name x _=>(r.E c v σ).bind λ p=>(aS c x p.1 p.2).map λ σ₁=>(.next,σ₁)
 | .Tuple ..=>if (fH v||fG v)=true then none else (r.E c v σ).bind λ p=>(cW X r c t p.1 p.2).map λ σ₁=>(.next,σ₁)
 | .Attribute ..=>if fH v=true then none else (r.E c v σ).bind λ p=>(cW X r c t p.1 p.2).map λ σ₁=>(.next,σ₁)
 | _=>none
noncomputable def Nh(X:Cx)(r:b5)(c:aw)(t:Expr)(op:Operator)(v:Expr)(σ:St):Option (Fl×St):=match t with
 | .Name x _=>(aX X.glob c x σ).bind λ old=>(r.E c v σ).bind λ p=>(xH X (.aug op) old p.1 p.2).bind λ d=>(aS c x (.d d) p.2).map λ σ₁=>(.next,σ₁)
 | _=>none
noncomputable def kg{α β:Type}(l:List α)(o:Option β):Option β:=match l with
 | []=>o
 | _=>none
noncomputable def IG(X:Cx)(r:b5)(c:aw)(t:Expr)(body:List Stmt)(p:V×St):Option (Fl×St):=(qE p.2 p.1).bind λ src=>if a6 t src=true then vt X r c t body src 4096 0 p.2 else none
noncomputable def R9(X:Cx)(r:b5)(c:aw)(t:Stmt)(σ:St):Option (Fl×St):=match t with
 | .Expr v _=>if fH v=true then none else (r.E c v σ).map λ p=>(.next,p.2)
 | .Pass _=>some (.next,σ)
 | .Break _=>some (.brk,σ)
 | .Continue _=>some (.cont,σ)
 | .Return e _=>(match e with
  | some e=>(r.E c e σ).map λ p=>(.ret p.1,p.2)
  | none=>some (.ret (.d .none),σ))
 | .Assign ts v _=>(match ts with
  | []=>none
  | t::ts=>kg ts (Ni X r c t v σ))
 | .AugAssign t op v _=>Nh X r c t op v σ
 | .If t b o _=>(r.T c t σ).bind λ p=>af r c (if p.1 then b else o) p.2
 | .While t b o _=>kg o (ly r c t b 4096 σ)
 | .For t e b o _=>kg o (if iC e=true then (r.E c e σ).bind λ p=>IG X r c t b p else none)
 | .Try b hs o f _=>kg o (kg f (if hs.isEmpty=true then none else af r c b σ))
 | _=>none
section
variable{Z:Zx}{W:Wd}{σ:St}{s:Shared}{A:Around}{c:aw}{env:Env}
theorem At.notI(a:At Z c env A W σ s):interactive env=false:=by
 rw [← a.e]
 unfold interactive
 have h:(c.env W.ρ).scope.kind= .function:=a.ok.kind
 rw [h];rfl
theorem bq{v:Expr}{t:Option Expr}{line:Nat}{env:Env}(h:fH v=false):swapsWith v t line env=pure false:=by
 cases v<;>first | rfl | exact ft h.symm
theorem l8{v:Expr}{es:List Expr}{k:Nat}{tp:Pos}{env:Env}(h:fG v=false):swappedStores [.Tuple es k tp] v env=pure none:=by
 cases v<;>first | rfl | exact ft h.symm
theorem sm{t v:Expr}{p:Pos}{Q:Flow->Shared->Prop}(hc:fH v=false)(hs:swappedStores [t] v env=pure none)(ht:∀ z,assignStores env z none ((assignEach [t] env).map (·.2))=(assign t env z>>=λ _=>(pure Flow.next:Sem Flow)))
  (h:wpAny (model prog w) A (eval v env) (λ z ac=>wpAny (model prog w) A (assign t env z) (λ _ az=>Q .next az) ah ac) ah s):wpAny (model prog w) A (exec (.Assign [t] v p) env) Q ah s:=by
 rw [arm_exec_Assign]
 exact Uj (wpAny_standAt (Uj (wpAny_of_eq (bq (env:=env) (t:=some t) (line:=p.line) hc) (Uj (aC h λ z ac h=>Uj (wpAny_of_eq hs (cP (ht z) (Uj (aC h λ _ az q=>Uk q)))))))))
theorem SV.asg{t v:Expr}{p:Pos}{q:V×St}{σ₁:St}(tv:SV Z c (eval v) σ q)(ha:∀ env A W s x,At Z c env A W q.2 s->VR W.ρ W.F q.1 x->wpAny (model prog w) A (assign t env x) (PU Z.h₀ W σ₁) ah s)(hc:fH v=false)(hs:∀ env,swappedStores [t] v env=pure none)(ht:∀ env z,assignStores env z none ((assignEach [t] env).map (·.2))=(assign t env z>>=λ _=>(pure Flow.next:Sem Flow))) :
  SF Z c (exec (.Assign [t] v p)) σ (.next,σ₁):=λ env A W s a=>
 sm hc (hs env) (ht env) (tv.go a λ z ac W₁ le r a₁=>aC (ha _ _ _ _ _ a₁ r) λ _ az ⟨ay,aq,aG⟩=>⟨ay,le.trans aq,trivial,aG⟩)
theorem BK(S:cO Z){x:Str}{tp p:Pos}{v:Expr}:Ok ((Z.r.E c v σ).bind λ p=>(aS c x p.1 p.2).map λ σ₁=>(Fl.next,σ₁)) (SF Z c (exec (.Assign [.Name x tp] v p)) σ):=by
 cases hb:oq c x tp v with
 | false=>exact .bind (S.E c v σ) λ q t=> .map .self λ σ₁ h env A W s a=>wpAny_Assign_Name (t.go a λ z ac W₁ le r a₁=>a₁.e▸bv a₁.R a₁.ok h r λ h' tk aG=>⟨W₁,le,trivial,aG⟩) (by rw [← a.e,gw a.ok,hb])
 | true=>
  have hv:jf v=true:=by cases v<;>first | rfl | exact ft hb
  refine .bind (S.U c v σ x tp hv) λ q t=> .map t λ σ₁ h env A W s a=>?_
  rw [exec_Assign_Name_used _ _ _ _ (by rw [← a.e,gw a.ok,hb])]
  exact Uj (wpAny_standAt (Uj (h.go a λ ac W₁ le a₁=>Uk ⟨W₁,le,trivial,a₁.R⟩)))
theorem zh(S:cO Z)(CO:ClsOk Z.h₀ Z.X)(t v:Expr)(p:Pos):Ok (Ni Z.X Z.r c t v σ) (SF Z c (exec (.Assign [t] v p)) σ):=by
 cases t with
 | Name x tp=>exact BK S
 | Tuple es k tp=>exact .ifn λ hc=> .bind (S.E c v σ) λ q tv=> .map (dl S CO _ _ _) λ σ₁ ha=>tv.asg ha (Bool.eq_false_iff.mpr λ h=>hc (by rw [h];rfl)) (λ _=>l8 (Bool.eq_false_iff.mpr λ h=>hc (by rw [h,Bool.or_true]))) λ _ _=>rfl
 | Attribute o a tp=>exact .ifn λ hc=> .bind (S.E c v σ) λ q tv=> .map (dl S CO _ _ _) λ σ₁ ha=>tv.asg ha (Bool.eq_false_iff.mpr hc) (λ _=>rfl) λ _ _=>rfl
 | _=>exact .none
theorem zg(S:cO Z)(G:GC Z.h₀ Z.X.glob Z.X.fns)(t v:Expr)(op:Operator)(p:Pos):Ok (Nh Z.X Z.r c t op v σ) (SF Z c (exec (.AugAssign t op v p)) σ):=by
 cases t with
 | Name x tp=>
  exact .bind .self λ old ho=> .bind (S.E c v σ) λ q tv=> .bind .self λ d hd=> .map .self λ σ₁ hst env A W s a=>wpAny_AugAssign_Name (a.e▸aT G a.R a.ok ho λ z hz=>a.e▸tv.go a λ u ac W₁ le r a₁=>
   aC ((lh (o:= .aug op) (P:=λ d=>wpAny (model prog w) A (inplaceOp op z u) (PV Z.h₀ W₁ (.d d) q.2) ah ac) a₁.k a₁.R (hz.le le) r λ da db h1 h2=>(C0 op a₁.R h1 h2).mono λ _=>PD.go) d hd) λ y az ⟨ay,aq,dH,aG⟩=>(a₁.to aq aG).e▸bv aG (a₁.ok.le aq) hst dH λ h' tk bf=>⟨ay,le.trans aq,trivial,bf⟩)
 | _=>exact .none
theorem ew{α β:Type}{l:List α}{o:Option β}{P:β->Prop}(h:l=[]->Ok o P):Ok (kg l o) P:=by
 cases l with
 | nil=>exact h rfl
 | cons=>exact .none
theorem vi{e:Expr}{z:Value}(h:iC e=true):foldedSetIterable e env z=pure z:=by cases e<;>first | rfl | exact ft h
theorem ym{b:List Stmt}{hs:List ExceptHandler}{p:Pos}{q:Fl×St}(h:¬ hs.isEmpty=true)(t:SF Z c (execs b) σ q):SF Z c (exec (.Try b hs [] [] p)) σ q:=by
 cases hs with
 | nil=>exact absurd rfl h
 | cons hh hs=>exact λ env A W s a=>wpAny_Try_except (bn (t.go a λ x ac W₁ le fr a₁=>by
   cases x with
   | next=>exact wpAny_execs_nil ⟨W₁,le,fr,a₁.R⟩
   | _=>exact ⟨W₁,le,fr,a₁.R⟩))
theorem CN(S:cO Z){b:List Stmt}{hs:List ExceptHandler}{p:Pos}:Ok (if hs.isEmpty=true then none else af Z.r c b σ) (SF Z c (exec (.Try b hs [] [] p)) σ):= .ifn λ h=>(aE S b σ).mono λ q t=>ym h t
theorem uQ(S:cO Z)(CO:ClsOk Z.h₀ Z.X){t e:Expr}{b:List Stmt}{p:Pos}{q:V×St}(hp:iC e=true)(te:SV Z c (eval e) σ q):Ok (IG Z.X Z.r c t b q) (SF Z c (exec (.For t e b [] p)) σ):=by
 refine .bind .self λ src hs=> .ifs λ ht u h env A W s a=>?_
 rw [exec_For]
 refine Uj (wpAny_standAt (Uj (te.go a λ z ac W₁ le r a₁=>?_)))
 refine Uj (wpAny_of_eq (vi hp) (Uj (wpAny_standAt (Uj (Uo (aC (lK a₁.R r _ hs) λ y az ⟨it,o,e,hi,aG,hd⟩=>?_))))))
 subst e
 refine wpAny_runOwn ?_
 rw [show A.mark none=A from a.a.mark,← a₁.e]
 refine codeAny_mono (zb (W:=W₁) S CO ht hd a₁.a a₁.k a₁.ok ⟨0,_,o,W₁,h,.refl W₁,aG,hi⟩) λ r s' z=>?_
 cases r with
 | ok x=>exact PF.le z le
 | error _=>exact z.elim
theorem Kw(S:cO Z)(G:GC Z.h₀ Z.X.glob Z.X.fns)(CO:ClsOk Z.h₀ Z.X)(t:Stmt)(σ:St):Ok (R9 Z.X Z.r c t σ) (SF Z c (exec t) σ):=by
 cases t with
 | Expr v p=>exact .ifn λ hc=> .map (S.E c v σ) λ q t env A W s a=>wpAny_Expr_any (t.go a λ _ _ W₁ le _ a₁=>⟨W₁,le,trivial,a₁.R⟩) a.notI (bq (Bool.eq_false_iff.mpr hc))
 | Pass p=>exact .some λ _ _ W _ a=>wpAny_Pass ⟨W,.refl W,trivial,a.R⟩
 | Break p=>exact .some λ _ _ W _ a=>wpAny_Break ⟨W,.refl W,trivial,a.R⟩
 | Continue p=>exact .some λ _ _ W _ a=>wpAny_Continue ⟨W,.refl W,trivial,a.R⟩
 | Return e p=>cases e with
  | some e=>exact .map (S.E c e σ) λ q t env A W s a=>wpAny_Return_some (t.go a λ _ _ W₁ le r a₁=>⟨W₁,le,r,a₁.R⟩)
  | none=>exact .some λ _ _ W _ a=>wpAny_Return_none ⟨W,.refl W,.mkNone,a.R⟩
 | Assign ts v p=>cases ts with
  | nil=>exact .none
  | cons t ts=>exact ew λ e=>e▸zh S CO t v p
 | AugAssign t op v p=>exact zg S G t v op p
 | If t b o p=>exact .bind (S.T c t σ) λ q ht=>(aE S _ q.2).mono λ u hx env A W s a=>wpAny_If (ht.go a λ ac W₁ le a₁=>by
   have:=aC (hx _ _ _ _ a₁) λ _ _ z=>PF.le z le
   generalize q.1=y at this ⊢
   cases y<;>exact this)
 | While t b o p=>exact ew λ e q h env A W s a=>e▸wpAny_While (codeAny_mono (s0 S a h) λ r s' z=>by cases r<;>first | exact z.elim | exact z)
 | For t e b o p=>exact ew λ eo=> .ifs λ hp=> .bind (S.E c e σ) λ q te=>eo▸uQ S CO hp te
 | Try b hs o f p=>exact ew λ e=>ew λ e'=>by subst e e';exact CN S
 | _=>exact .none
end
inductive B0 where
 | fld (v:V)
 | fn (a:Addr)
 | blt (id:String)
inductive Kd where
 | lst
 | str
 | dct
 | set
noncomputable def pick(name:Str):List (Str×String)->Option String
 | []=>none
 | p::l=>if (name==p.1)=true then some p.2 else pick name l
noncomputable def FQ:Kd->List (Str×String)
 | .lst=>[("append", "list.append"),("pop", "list.pop"),("insert", "list.insert"),("index", "list.index")]
 | .str=>[("join", "str.join"),("replace", "str.replace"),("split", "str.split")]
 | .dct=>[("get", "dict.get"),("items", "dict.items")]
 | .set=>[("add", "set.add")]
noncomputable def H2(k:Kd)(name:Str):Option String:=pick name (FQ k)
noncomputable def LG(X:Cx)(d:D):Option Kd:=match d with
 | .str _=>some .str
 | .lst _=>some .lst
 | d=>(kO X.K X.O .isS [d]).map λ _=> .str
noncomputable def LF(o:AO):Option Kd:=if o.dict.isNone=true then (match o.data with
 | .dseq _=>if o.cls= .type "list" then some .lst else none
 | .fro _=>if o.cls= .type "list" then some .lst else none
 | .seq _=>if o.cls= .type "list" then some .lst else none
 | .dict _=>if o.cls= .type "dict" then some .dct else none
 | .sset _=>if o.cls= .type "set" then some .set else none
 | _=>none) else none
noncomputable def FV(X:Cx)(σ:St)(v:V):Option Kd:=match v with
 | .d d=>LG X d
 | .ref i=>(σ.at i).bind LF
 | _=>none
noncomputable def F1(X:Cx)(σ:St)(v:V):Option (List (Str×V)):=(f9 v).bind λ i=>(σ.at i).bind λ o=>(Jc X o).bind λ d=>(σ.at d).bind kl
noncomputable def PO:V->Bool
 | .glob _=>false
 | _=>true
noncomputable def Mu(X:Cx)(m:List (Str×V))(name:Str):Option B0:=match jR m name with
 | some u=>if (X.own name&&PO u)=true then some (.fld u) else none
 | none=>(X.mth name).map .fn
noncomputable def rl(X:Cx)(σ:St)(v:V)(name:Str):Option B0:=((F1 X σ v).bind λ m=>Mu X m name).or (((FV X σ v).bind λ k=>H2 k name).map .blt)
structure cI(h₀:Heap)(X:Cx):Prop extends ClsOk h₀ X where
 fld:∀ {W σ s A x dx f name y pl} {Q:Value×List Value->Shared->Prop},ae w.params h₀ W σ s->s.heap.get? x=some ⟨.ref X.cls,some dx,.plain,#[]⟩->s.heap.Ns dx f->f name=some y->handedIn y=true->X.own name=true->(∀ tk,Q (y,[]) { s with toks:=tk })->wpAny (model prog w) A (getMethod (.ref x) name pl) Q ah s
section
variable{h₀:Heap}{X:Cx}{W:Wd}{σ:St}{s:Shared}{A:Around}
inductive InstAt(X:Cx)(W:Wd)(s:Shared)(m:List (Str×V))(x:Value):Prop
 | mk (a dx:Addr) (f:Str->Option Value) (e:x= .ref a) (ho:s.heap.get? a=some ⟨.ref X.cls,some dx,.plain,#[]⟩) (hn:s.heap.Ns dx f) (hf:∀ k,OV W.ρ W.F (jR m k) (f k))
theorem y9{v:V}{x:Value}(R:ae w.params h₀ W σ s)(hx:VR W.ρ W.F v x):Ok (F1 X σ v) λ m=>InstAt X W s m x:=by
 refine .bind (bh v) λ i e=> .bind .self λ o ho=> .bind (v6 o) λ d e2=> .bind .self λ q hq=>(dD q).mono λ m e3=>?_
 subst e e2
 obtain ⟨a,dx,dt,e,hi,hg,hd,hr⟩:=R.ref ho hx
 cases hd with
 | some _ da hda=>cases hr with
  | plain=>
   obtain ⟨f,hn,hf⟩:=l5 R hda hq e3
   exact ⟨a,da,f,e,hg,hn,hf⟩
inductive sD(s:Shared):Kd->Value->Prop
 | lst (l:Addr) (xs:List Value) (m:Nat):s.heap.get? l=some (aF "list" xs m)->sD s .lst (.ref l)
 | str (x:Str) (t:Tok):sD s .str (.str x t)
 | dct (l:Addr) (o:Obj):s.heap.get? l=some o->o.cls= .type "dict" -> o.dict=none->sD s .dct (.ref l)
 | set (l:Addr) (o:Obj):s.heap.get? l=some o->o.cls= .type "set" -> o.dict=none->sD s .set (.ref l)
theorem D3{a:D}:Ok (Ip a) λ _=>∃ y,a= .str y:=by cases a<;>first | exact .none | exact .some ⟨_,rfl⟩
theorem y7{v:V}{x:Value}(k:cx X.K X.O W.F.en)(R:ae w.params h₀ W σ s)(hx:VR W.ρ W.F v x):Ok (FV X σ v) λ kd=>sD s kd x:=by
 cases hx with
 | d d _ q=>
  have gen:Ok ((kO X.K X.O .isS [d]).map λ _=>Kd.str) λ kd=>sD s kd x:= .map (cj k) λ z hz=>by
   obtain ⟨y,e⟩:=D3 _ (show Ip (den W.F.en d)=some (den W.F.en z) from hz)
   rw [e] at q
   cases q with
   | str y t=>exact .str _ _
  cases d with
  | str y=>cases q with
   | str y t=>exact .some (.str _ _)
  | lst l=>cases q with
   | lst _ xs l m hm hs=>exact .some (.lst l xs m (R.fz _ hm).1)
  | _=>exact gen
 | ref i l hi=>
  refine .bind .self λ o h=> .ifs λ hd=>?_
  obtain ⟨a,dx,dt,e,hi,ho,hd',hr⟩:=R.at h hi
  rw [hd'.nil hd] at ho
  cases e
  obtain ⟨c,d,ad⟩:=o
  replace hr:DR w.params W.ρ W.F ad dt:=hr
  have lst:∀ {xs:List Value} {n:Nat},s.heap.get? l=some ⟨c,none,.seq xs.toArray n,#[]⟩->Ok (if c= .type "list" then some Kd.lst else none) λ kd=>sD s kd (.ref l):=λ h=> .ifs λ e=> .some (.lst _ _ _ (by rw [h,e]))
  cases hr with
  | dseq=>exact lst ho
  | fro=>exact lst ho
  | seq=>exact lst ho
  | dict=>exact .ifs λ e=> .some (.dct _ _ ho e rfl)
  | sset=>exact .ifs λ e=> .some (.set _ _ ho e rfl)
  | _=>exact .none
 | _=>exact .none
inductive Ft(P:Str->String->Prop):List (Str×String)->Prop
 | nil:Ft P []
 | cons {a:Str} {b:String} {l:List (Str×String)} (h:P a b) (k:Ft P l):Ft P ((a,b)::l)
theorem kZ{name:Str}{P:Str->String->Prop}{l:List (Str×String)}(h:Ft P l):Ok (pick name l) (P name):=by
 induction h with
 | nil=>exact .none
 | cons h _ ih=>exact .ite (λ e=> .some (eq_of_beq e▸h)) λ _=>ih
noncomputable def iI(s:Shared)(A:Around)(x:Value)(name:Str)(id:String):Prop:=∀ (pl:Sem Bool) (Q:Value×List Value->Shared->Prop),Q (.builtin id,[x]) s->wpAny (model prog w) A (getMethod x name pl) Q ah s
theorem k4{x:Value}{T id:String}{nm:Str}(hT:s.TypeIs x T)(pa:PlainAttrs T)(hd:∀ a,x= .ref a->∃ o,s.heap.get? a=some o∧o.dict=none)(sl:Slot T nm id)(ty:typeOf (.builtin id)=pure (.type "method_descriptor")):iI s A x nm id:=λ _ _ h=>getMethod_builtin hT pa sl ty hd h
set_option maxHeartbeats 2000000 in
theorem iA{kd:Kd}{name:Str}{x:Value}(hk:sD s kd x):Ok (pick name (FQ kd)) (iI s A x name):=by
 cases hk with
 | lst l xs m ho=>
  have m:∀ {nm:Str} {id:String},Slot "list" nm id->typeOf (.builtin id)=pure (.type "method_descriptor")->iI s A (.ref l) nm id:=k4 (au ho).typeIs PySem.F.plainAttrs_list (λ a e=>by cases e;exact ⟨_,ho,rfl⟩)
  exact kZ (.cons (m PySem.F.slot_list_append PySem.F.type_list_append) (.cons (m PySem.F.slot_list_pop PySem.F.type_list_pop)
   (.cons (m PySem.F.slot_list_insert PySem.F.type_list_insert) (.cons (m PySem.F.slot_list_index PySem.F.type_list_index) .nil))))
 | str y t=>
  have m:∀ {nm:Str} {id:String},Slot "str" nm id->typeOf (.builtin id)=pure (.type "method_descriptor")->iI s A (.str y t) nm id:=k4 (typeIs_str _ y t) PySem.F.plainAttrs_str nofun
  exact kZ (.cons (m PySem.F.slot_str_join PySem.F.type_str_join) (.cons (m PySem.F.slot_str_replace PySem.F.type_str_replace) (.cons (m PySem.F.slot_str_split PySem.F.type_str_split) .nil)))
 | dct l o ho hc hdn=>
  have m:∀ {nm:Str} {id:String},Slot "dict" nm id->typeOf (.builtin id)=pure (.type "method_descriptor")->iI s A (.ref l) nm id:=k4 ⟨_,ho,hc⟩ PySem.F.plainAttrs_dict (λ a e=>by cases e;exact ⟨_,ho,hdn⟩)
  exact kZ (.cons (m PySem.F.slot_dict_get PySem.F.type_dict_get) (.cons (m PySem.F.slot_dict_items PySem.F.type_dict_items) .nil))
 | set l o ho hc hdn=>
  have m:∀ {nm:Str} {id:String},Slot "set" nm id->typeOf (.builtin id)=pure (.type "method_descriptor")->iI s A (.ref l) nm id:=k4 ⟨_,ho,hc⟩ PySem.F.plainAttrs_set (λ a e=>by cases e;exact ⟨_,ho,hdn⟩)
  exact kZ (.cons (m PySem.F.slot_set_add PySem.F.type_set_add) .nil)
inductive mJ(X:Cx)(W:Wd)(s:Shared)(A:Around)(name:Str)(x:Value):B0->Prop
 | fld (u:V) (a dx:Addr) (f:Str->Option Value) (y:Value) (e:x= .ref a) (ho:s.heap.get? a=some ⟨.ref X.cls,some dx,.plain,#[]⟩) (hn:s.heap.Ns dx f) (hy:f name=some y) (r:VR W.ρ W.F u y) (ok:PO u=true) (own:X.own name=true):mJ X W s A name x (.fld u)
 | fn (fa a dx:Addr) (f:Str->Option Value) (e:x= .ref a) (ho:s.heap.get? a=some ⟨.ref X.cls,some dx,.plain,#[]⟩) (hn:s.heap.Ns dx f) (h0:f name=none) (hm:X.mth name=some fa):mJ X W s A name x (.fn fa)
 | blt (id:String) (h:iI s A x name id):mJ X W s A name x (.blt id)
theorem oD{v:V}{x:Value}(name:Str)(k:cx X.K X.O W.F.en)(R:ae w.params h₀ W σ s)(hx:VR W.ρ W.F v x):Ok (rl X σ v name) (mJ X W s A name x):=by
 refine .or (.bind (y9 R hx) λ m ⟨a,dx,f,e,ho,hn,hf⟩=>?_) (.map (.bind (y7 k R hx) λ kd h=>iA h) λ id h=> .blt id h)
 unfold Mu
 cases hg:jR m name with
 | some u=>
  obtain ⟨y,hy,r⟩:=(hf _).get _ hg
  exact .and λ h1 h2=> .some (.fld u a dx f y e ho hn hy r h2 h1)
 | none=>exact .map .self λ fa h=> .fn fa a dx f e ho hn ((hf _).no hg) h
end
noncomputable def zR(ρ:List Addr)(σ:St)(h:Heap)(i:Nat):Option (Addr×Obj):=
 (σ.at i).bind λ ao=>(ρ[i]?).bind λ a=>if ao.data.isFro=true then none else (h.get? a).map λ o=>(a,o)
noncomputable def kN(ρ:List Addr)(σ:St)(h:Heap):List (Addr×Obj):=(List.range σ.length).filterMap (zR ρ σ h)
section
variable{P:Params}{h₀:Heap}{W:Wd}{σ:St}{s s':Shared}
inductive Jz(ρ:List Addr)(σ:St)(h:Heap)(p:Addr×Obj):Prop
 | mk (i:Nat) (ao:AO) (h1:σ.at i=some ao) (h2:ρ[i]?=some p.1) (hf:ao.data.isFro=false) (h4:h.get? p.1=some p.2)
theorem lY{ρ:List Addr}{h:Heap}{p:Addr×Obj}(hp:p∈kN ρ σ h):Jz ρ σ h p:=by
 obtain ⟨i,_,e⟩:=List.mem_filterMap.mp hp
 exact (show Ok (zR ρ σ h i) (Jz ρ σ h) from .bind .self λ ao h1=> .bind .self λ a h2=> .ifn λ hf=> .map .self λ o h4=>⟨i,ao,h1,h2,Bool.eq_false_iff.mpr hf,h4⟩) p e
theorem o6{ρ:List Addr}{h:Heap}{p:Addr×Obj}(hp:Jz ρ σ h p):p∈kN ρ σ h:=by
 obtain ⟨i,ao,h1,h2,h3,h4⟩:=hp
 refine List.mem_filterMap.mpr ⟨i,List.mem_range.mpr (List.getElem?_eq_some_iff.mp (St.at_some h1)).1,?_⟩
 unfold zR
 rw [h1,h2]
 exact (if_neg (Bool.eq_false_iff.mp h3)).trans (congrArg (Option.map λ o=>(p.1,o)) h4)
theorem zZ{n j:Nat}{x:AO}{G:Prop}(h:(List.replicate n (none:Option AO))[j]?=some (some x)):G:=by
 obtain ⟨l,e⟩:=List.getElem?_eq_some_iff.mp h
 exact ns ((List.getElem_replicate l).symm.trans e)
theorem ae.enterF(R:ae P h₀ W σ s)(en:Nat->D):ae P h₀ { W with F:=⟨en,kN W.ρ σ s.heap++W.F.fs⟩ } (List.replicate σ.length none) s:=by
 refine ⟨List.length_replicate.trans R.len,R.nod,R.fr,R.lt,λ p hp=>(List.mem_append.mp hp).elim (λ hp=>?_) (R.fz p),λ p hp=>⟨(R.pv p hp).1,(R.pv p hp).2.1,(R.pv p hp).2.2.1,λ q hq=>(List.mem_append.mp hq).elim (λ hq e=>?_) ((R.pv p hp).2.2.2 q)⟩,R.gg,λ i ao a hi=>zZ hi,R.old,R.tab⟩
 ·obtain ⟨i,ao,h1,h2,h3,h4⟩:=lY hp
  exact ⟨h4,R.fr _ (List.mem_of_getElem? h2)⟩
 ·obtain ⟨i,ao,h1,h2,h3,h4⟩:=lY hq
  exact (R.pv p hp).2.1 (e▸List.mem_of_getElem? h2)
theorem ae.clear(R:ae P h₀ W σ s):ae P h₀ { W with ρ:=[] } [] s:=
 ⟨rfl,List.nodup_nil,λ _ h=>nm h,λ _ h=>nm h,R.fz,λ p hp=>⟨(R.pv p hp).1,λ h=>nm h,(R.pv p hp).2.2⟩,R.gg,λ _ _ _ h=>M.Internal.ns h,R.old,R.tab⟩
theorem ae.leaveF(R:ae P h₀ W σ s){W₁:Wd}{σ₁:St}(ax:ae P h₀ W₁ σ₁ s')(hF:kN W.ρ σ s.heap++W.F.fs⊆W₁.F.fs)(hpv:W₁.pv=W.pv)(hgg:W₁.gg=W.gg)(hz:s.heap.objs.size<=s'.heap.objs.size):ae P h₀ { W with tb:=W₁.tb } σ s':=by
 have hfs:W.F.fs⊆W₁.F.fs:=λ _ h=>hF (List.mem_append.mpr (.inr h))
 refine ⟨R.len,R.nod,R.fr,λ a ha=>Nat.lt_of_lt_of_le (R.lt a ha) hz,λ p hp=>⟨(ax.fz p (hfs hp)).1,(R.fz p hp).2⟩,λ p hp=>⟨(ax.pv p (hpv▸hp)).1,(R.pv p hp).2⟩,λ x hx=>ax.gg x (hgg▸hx),λ i ao a hi ha=>?_,ax.old,ax.tab⟩
 refine (R.slot i ao a hi ha).in λ o ho=>?_
 cases hf:ao.data.isFro with
 | false=>exact (ax.fz (a,o) (hF (List.mem_append.mpr (.inl (o6 ⟨i,ao,St.at_of hi,ha,hf,ho⟩))))).1
 | true=>
  obtain ⟨_,_,_,f,_⟩:=R.slot i ao a hi ha
  obtain ⟨o',hm⟩:=f hf
  cases ho.symm.trans (R.fz _ hm).1
  exact (ax.fz _ (hfs hm)).1
end
noncomputable def fK(σ:St):List V->Option (List D)
 | []=>some []
 | v::vs=>(fY σ v).bind λ d=>(fK σ vs).map (d::·)
noncomputable def Qj(o:AO):Option D:=if o.cls= .type "list" ∧ o.dict.isNone then (match o.data with | .fro d=>some d | _=>none) else none
noncomputable def Mn(σ:St):V->Option D
 | .d d=>some d
 | .ref i=>(σ.at i).bind Qj
 | _=>none
noncomputable def rR(σ:St):List V->Option (List D)
 | []=>some []
 | v::vs=>(Mn σ v).bind λ d=>(rR σ vs).map (d::·)
noncomputable def lM:D->Bool
 | .none=>true
 | .bool _=>true
 | .int _=>true
 | .str _=>true
 | _=>false
theorem DV.scalar{F F':List (Addr×Obj)}{d:D}{x:Value}(h:DV F d x)(hs:lM d=true):DV F' d x:=by
 cases h with
 | none=>exact .none
 | bool b=>exact .bool b
 | int i t=>exact .int i t
 | str s t=>exact .str s t
 | tup=>cases hs
 | lst=>cases hs
section
variable{h₀:Heap}{W:Wd}{σ σ':St}{s:Shared}
theorem vN(R:ae w.params h₀ W σ s){i:Nat}{d:D}{l:Addr}{c:Value}(ho:σ.at i=some ⟨c,none,.fro d⟩)(hl:W.ρ[i]?=some l){o:Obj}(hg:s.heap.get? l=some o):(l,o)∈W.F.fs:=by
 obtain ⟨_,_,_,f,_⟩:=R.slot i _ l (St.at_some ho) hl
 obtain ⟨o',hm⟩:=f rfl
 exact Option.some.inj ((R.fz _ hm).1.symm.trans hg)▸hm
theorem vX(R:ae w.params h₀ W σ s){v:V}{x:Value}(hx:VR W.ρ W.F v x):Ok (fY σ v) λ d=>DV (kN W.ρ σ s.heap++W.F.fs) (den W.F.en d) x:=by
 cases hx with
 | d d x q=>exact .some (q.mono λ _ h=>List.mem_append.mpr (.inr h))
 | ref i l hl=>
  refine .bind .self λ o ho=> .ifs λ q=>?_
  obtain ⟨a,dx,dt,e,hi,hg,hd,hr⟩:=R.at ho hl
  cases e
  rw [q.1,hd.nil q.2] at hg
  obtain ⟨c,dd,ad⟩:=o
  replace hr:DR w.params W.ρ W.F ad dt:=hr
  obtain ⟨q1,q2⟩:c= .type "list" ∧ dd.isNone=true:=q
  cases dd with
  | some=>exact ft q2
  | none=>cases hr with
   | dseq d ds ys n ed hs=>exact .some (by rw [ed];exact .lst ds ys l n (List.mem_append.mpr (.inl (o6 ⟨i,_,ho,hl,rfl,hg⟩))) (hs.mono λ _ h=>List.mem_append.mpr (.inr h)))
   | fro d ds ys n ed hs=>exact .some (by rw [ed];exact .lst ds ys l n (List.mem_append.mpr (.inr (vN R ho hl hg))) (hs.mono λ _ h=>List.mem_append.mpr (.inr h)))
   | _=>exact .none
 | _=>exact .none
theorem Bp(R:ae w.params h₀ W σ s){v:V}{x:Value}(hx:VR W.ρ W.F v x):Ok (Mn σ v) λ d=>DV W.F.fs (den W.F.en d) x:=by
 cases hx with
 | d d x q=>exact .some q
 | ref i l hl=>
  refine .bind .self λ o ho=> .ifs λ q=>?_
  obtain ⟨a,dx,dt,e,hi,hg,hd,hr⟩:=R.at ho hl
  cases e
  rw [q.1,hd.nil q.2] at hg
  obtain ⟨c,dd,ad⟩:=o
  replace hr:DR w.params W.ρ W.F ad dt:=hr
  obtain ⟨q1,q2⟩:c= .type "list" ∧ dd.isNone=true:=q
  cases dd with
  | some=>exact ft q2
  | none=>cases hr with
   | fro d ds ys n ed hs=>exact .some (by rw [ed];exact .lst ds ys l n (vN R ho hl hg) hs)
   | _=>exact .none
 | _=>exact .none
theorem r7(R:ae w.params h₀ W σ s){vs:List V}{xs:List Value}(h:VRs W.ρ W.F vs xs):Ok (fK σ vs) λ ds=>DVs (kN W.ρ σ s.heap++W.F.fs) (dens W.F.en ds) xs:=
 h.ind (P:=λ vs xs=>Ok (fK σ vs) λ ds=>DVs (kN W.ρ σ s.heap++W.F.fs) (dens W.F.en ds) xs) (.some .nil) λ _ _ _ _ h _ ih=> .bind (vX R h) λ _ h1=> .map ih λ _ h2=> .cons _ _ _ _ h1 h2
theorem xJ(R:ae w.params h₀ W σ s){vs:List V}{xs:List Value}(h:VRs W.ρ W.F vs xs):Ok (rR σ vs) λ ds=>DVs W.F.fs (dens W.F.en ds) xs:=
 h.ind (P:=λ vs xs=>Ok (rR σ vs) λ ds=>DVs W.F.fs (dens W.F.en ds) xs) (.some .nil) λ _ _ _ _ h _ ih=> .bind (Bp R h) λ _ h1=> .map ih λ _ h2=> .cons _ _ _ _ h1 h2
end
structure sJ(h₀:Heap)(X:Cx):Prop where
 blt:∀ id as σ,Ok (X.blt id as σ) λ p=>∀ W s A xs,cx X.K X.O W.F.en->bD 0 A->ae w.params h₀ W σ s->VRs W.ρ W.F as xs->wpAny (model prog w) A (call (.builtin id) xs []) (PV h₀ W p.1 p.2) ah s
 typ:∀ id as σ,Ok (X.typ id as σ) λ p=>∀ W s A xs,cx X.K X.O W.F.en->bD 0 A->ae w.params h₀ W σ s->VRs W.ρ W.F as xs->wpAny (model prog w) A (call (.type id) xs []) (PV h₀ W p.1 p.2) ah s
noncomputable def By(X:Cx)(r:b5)(a:Addr)(as:List V)(σ:St):Option (V×St):=
 (((rR σ as).bind λ ds=>kO X.K X.O (.fn a) ds).map λ d=>(.d d,σ)).or
 ((((fK σ as).bind λ ds=>kO X.K X.O (.fn a) ds).bind λ d=>if (lM d||(kO X.K X.O .isI [d]).isSome)=true then some (.d d,σ) else none).or
 ((X.cal a as σ).or (lm X r a as σ)))
noncomputable def Dn(n:String):V->Option (List V)
 | .rcd m vs=>if m=n then some vs else none
 | _=>none
noncomputable def two:List V->Option (V×V)
 | [a,b]=>some (a,b)
 | _=>none
noncomputable def one{α:Type}:List α->Option α
 | [a]=>some a
 | _=>none
noncomputable def eO:V->Option Value
 | .glob v=>some v
 | _=>none
noncomputable def zG:Value->Option Addr
 | .ref a=>some a
 | _=>none
noncomputable def jY(v:V):Option (Addr×V):=((Dn "method" v).bind two).bind λ p=>((eO p.1).bind zG).map λ a=>(a,p.2)
noncomputable def ET:String := "builtin_function_or_method"
noncomputable def sj(v:V):Option Nat:=((Dn ET v).bind two).bind λ p=>(eO p.1).bind λ g=>if g= .builtin "list.append" then f9 p.2 else none
noncomputable def Gp(X:Cx)(r:b5)(g:Value)(as:List V)(σ:St):Option (V×St):=match g with
 | .builtin id=>X.blt id as σ
 | .type T=>X.typ T as σ
 | .ref a=>By X r a as σ
 | _=>none
noncomputable def Sc(X:Cx)(r:b5)(f:V)(as:List V)(ks:List (Str×V))(σ:St):Option (V×St):=if ks=[] then
  ((eO f).bind λ g=>Gp X r g as σ).or (((jY f).bind λ q=>(X.cal q.1 (q.2::as) σ).or (lm X r q.1 (q.2::as) σ)).or
  ((sj f).bind λ i=>(one as).bind λ v=>(lU X X.frz i v σ).map λ σ'=>(.d .none,σ')))
 else none
section
variable{Z:Zx}{h₀:Heap}{W:Wd}{σ:St}{s:Shared}{A:Around}
theorem jj{ρ F v x}(h:VR ρ F v x):Ok (eO v) λ g=>x=g:=by
 cases h with
 | glob g=>exact .some rfl
 | _=>exact .none
theorem qQ(g:Value):Ok (zG g) λ a=>g= .ref a:=by cases g<;>first | exact .some rfl | exact .none
inductive Nq(W:Wd)(n:String)(a b:V)(x:Value):Prop
 | mk (l:Addr) (y z:Value) (e:x= .ref l) (hm:(l,cA n [y,z])∈W.F.fs) (h1:VR W.ρ W.F a y) (h2:VR W.ρ W.F b z)
theorem oZ{n:String}{v:V}{x:Value}(h:VR W.ρ W.F v x):Ok ((Dn n v).bind two) λ p=>Nq W n p.1 p.2 x:=by
 cases h with
 | rcd m vs xs l hm hs=>
  refine .bind (P:=λ us=>us=vs∧m=n) (.ifs λ e=> .some ⟨rfl,e⟩) λ us ⟨e1,e2⟩=>?_
  subst e1 e2
  cases hs with
  | nil=>exact .none
  | cons a y _ _ h1 hs=>cases hs with
   | nil=>exact .none
   | cons b z _ _ h2 hs=>cases hs with
    | nil=>exact .some ⟨l,y,z,rfl,hm,h1,h2⟩
    | cons=>exact .none
 | _=>exact .none
theorem jr{v:V}{x:Value}(h:VR W.ρ W.F v x):Ok (jY v) λ q=>∃ l z,x= .ref l∧(l,cA "method" [.ref q.1,z])∈W.F.fs∧VR W.ρ W.F q.2 z:=
 .bind (oZ h) λ p ⟨l,y,z,e,hm,h1,h2⟩=> .map (.bind (jj h1) λ g eg=>(qQ g).mono λ a e=>eg.trans e) λ a ea=>⟨l,z,e,ea▸hm,h2⟩
theorem sg{v:V}{x:Value}(h:VR W.ρ W.F v x):Ok (sj v) λ i=>∃ l z,x= .ref l∧(l,cA ET [.builtin "list.append",z])∈W.F.fs∧VR W.ρ W.F (.ref i) z:=
 .bind (oZ h) λ p ⟨l,y,z,e,hm,h1,h2⟩=> .bind (jj h1) λ g eg=> .ifs λ q=>(bh p.2).mono λ i ei=>⟨l,z,e,q▸eg▸hm,ei▸h2⟩
theorem De{en:Nat->D}{d:D}(h:lM d=true):lM (den en d)=true:=by cases d<;>first | rfl | exact ft h
theorem D4{a:D}:Ok (AJ a) λ _=>lM a=true:=by cases a<;>first | exact .none | exact .some rfl
theorem uS(S:cO Z)(G:GC Z.h₀ Z.X.glob Z.X.fns)(D:GD Z.h₀ Z.X)(O:j3 Z.h₀ Z.X Z.n)(a:Addr)(as:List V)(σ:St):Ok ((Z.X.cal a as σ).or (lm Z.X Z.r a as σ)) λ p=>∀ W A s xs,cx Z.X.K Z.X.O W.F.en->bD (Z.n+1) A->ae w.params Z.h₀ W σ s->VRs W.ρ W.F as xs ->
  codeAny (model prog w) A (.call (.ref a) ⟨xs,[]⟩) (CP Z.h₀ W p.1 p.2) s:=
 .or ((O.cal a as σ).mono λ p h W A s xs k ha R hx=>h W s A xs k (ha.le (Nat.le_succ _)) R hx) (yR S G D a as σ)
theorem Hi(S:cO Z)(G:GC Z.h₀ Z.X.glob Z.X.fns)(D:GD Z.h₀ Z.X)(O:j3 Z.h₀ Z.X Z.n)(a:Addr)(as:List V)(σ:St):Ok (By Z.X Z.r a as σ) λ p=>∀ W A s xs,cx Z.X.K Z.X.O W.F.en->bD (Z.n+1) A->ae w.params Z.h₀ W σ s->VRs W.ρ W.F as xs ->
  wpAny (model prog w) A (call (.ref a) xs []) (PV Z.h₀ W p.1 p.2) ah s:=by
 refine .or (.map .self λ d hd W A s xs k ha R hx=>?_) (.or (.bind .self λ d hd=> .ifs λ hsc=> .some λ W A s xs k ha R hx=>?_) ((uS S G D O a as σ).mono λ p h W A s xs k ha R hx=>ca (h W A s xs k ha R hx)))
 ·have:Ok ((rR σ as).bind λ ds=>kO Z.X.K Z.X.O (.fn a) ds) λ d=>wpAny (model prog w) A (call (.ref a) xs []) (PD Z.h₀ W (den W.F.en d) σ) ah s:=
   .bind (xJ R hx) λ ds h1=>(cj k).mono λ d h2=>O.fn a _ _ h2 _ _ _ _ _ (ha.le (Nat.le_succ _)) R h1
  exact PD.go (this d hd) d rfl
 ·have:Ok ((fK σ as).bind λ ds=>kO Z.X.K Z.X.O (.fn a) ds) λ d=>wpAny (model prog w) A (call (.ref a) xs []) (PD Z.h₀ _ (den W.F.en d) _) ah s:=
   .bind (r7 R hx) λ ds h1=>(cj k).mono λ d h2=>O.fn a _ _ h2 _ _ _ _ _ (ha.le (Nat.le_succ _)) (R.enterF W.F.en) h1
  have hs:lM (den W.F.en d)=true:=(Bool.or_eq_true_iff.mp hsc).elim De λ q=>by
   obtain ⟨e,he⟩:=Option.isSome_iff_exists.mp q
   exact D4 _ (show AJ (den W.F.en d)=some (den W.F.en e) from cj k _ he)
  refine b7 (aC (this d hd) λ x ac ⟨W₁,aK,gu,aG⟩ hz=>?_)
  exact ⟨{ W with tb:=W₁.tb },⟨List.prefix_refl _,.refl _,rfl,rfl,aK.tb⟩,.d _ _ (gu.scalar hs),R.leaveF aG (λ p hp=>aK.fz.fs hp) aK.pv aK.gg hz⟩
theorem uh{b f:Addr}{x:Value}{a:Args}{R:Result->Shared->Prop}(hb:s.heap.get? b=some (cA "method" [.ref f,x]))
  (hq:codeAny (model prog w) A (.call (.ref f) { a with pos:=x::a.pos }) R s):codeAny (model prog w) A (.call (.ref b) a) R s:=by
 refine codeAny_of_tree ?_
 show wpAny _ A.in1 (callAny (.ref b) a) _ _ _
 unfold callAny
 refine Uj (wpAny_load hb ?_)
 exact Uk ⟨rfl,hq⟩
theorem wT(S:cO Z)(G:GC Z.h₀ Z.X.glob Z.X.fns)(D:GD Z.h₀ Z.X)(O:j3 Z.h₀ Z.X Z.n)(B:sJ Z.h₀ Z.X)(g:Value)(as:List V)(σ:St):Ok (Gp Z.X Z.r g as σ) λ p=>∀ W A s xs,cx Z.X.K Z.X.O W.F.en->bD (Z.n+1) A->ae w.params Z.h₀ W σ s->VRs W.ρ W.F as xs ->
  wpAny (model prog w) A (call g xs []) (PV Z.h₀ W p.1 p.2) ah s:=by
 cases g with
 | builtin id=>exact (B.blt id as σ).mono λ p h W A s xs k ha R hx=>h W s A xs k (ha.le (Nat.zero_le _)) R hx
 | type T=>exact (B.typ T as σ).mono λ p h W A s xs k ha R hx=>h W s A xs k (ha.le (Nat.zero_le _)) R hx
 | ref a=>exact Hi S G D O a as σ
 | _=>exact .none
theorem d9{α:Type}:∀ as:List α,Ok (one as) λ v=>as=[v]
 | []=> .none
 | [_]=> .some rfl
 | _::_::_=> .none
theorem Kz(S:cO Z)(G:GC Z.h₀ Z.X.glob Z.X.fns)(D:GD Z.h₀ Z.X)(O:j3 Z.h₀ Z.X Z.n)(B:sJ Z.h₀ Z.X)(f:V)(as:List V)(ks:List (Str×V))(σ:St):Ok (Sc Z.X Z.r f as ks σ) λ p=>∀ A W s fx xs kx,cx Z.X.K Z.X.O W.F.en->bD (Z.n+1) A->ae w.params Z.h₀ W σ s ->
  VR W.ρ W.F f fx->VRs W.ρ W.F as xs->KR W.ρ W.F ks kx->wpAny (model prog w) A (call fx xs kx) (PV Z.h₀ W p.1 p.2) ah s:=by
 refine .ifs λ hks=>?_
 subst hks
 refine .or (.bind .self λ g hg=>(wT S G D O B g as σ).mono λ p h A W s fx xs kx k ha R hf hx hk=>?_) (.or (.bind .self λ q hq=>(uS S G D O q.1 (q.2::as) σ).mono λ p h A W s fx xs kx k ha R hf hx hk=>?_)
  (.bind .self λ i hi=> .bind (d9 as) λ v e=> .map .self λ σ' hp A W s fx xs kx k ha R hf hx hk=>?_))
 ·cases hk
  exact jj hf g hg▸h W A s xs k ha R hx
 ·cases hk
  obtain ⟨l,z,e,hm,h2⟩:=jr hf q hq
  exact e▸ca (uh (R.fz _ hm).1 (h W A s _ k ha R (.cons _ _ _ _ h2 hx)))
 ·subst e
  cases hk
  obtain ⟨l,z,e,hm,h2⟩:=sg hf i hi
  subst e
  cases hx with
  | cons _ y _ ys hy hys=>
   cases hys
   cases h2 with
   | ref _ a ha=>exact wL k R (R.fz _ hm).1 (.ref i a ha) hy _ hp
noncomputable def LI(X:Cx):Value->Bool
 | .builtin _=>true
 | .type _=>true
 | .ref a=>(X.fns a).isSome
 | _=>false
noncomputable def fc(X:Cx)(v:V):Bool:=((eO v).any (LI X))||(((jY v).any λ q=>(X.fns q.1).isSome)||((Dn ET v).bind two).isSome)
theorem ae.fd(G:GC Z.h₀ Z.X.glob Z.X.fns)(R:ae w.params Z.h₀ W σ s){a:Addr}(h:(Z.X.fns a).isSome=true):∃ o fd,s.heap.get? a=some o∧o.data= .func fd:=by
 obtain ⟨fd,hfd⟩:=Option.isSome_iff_exists.mp h
 obtain ⟨⟨o,fx,ho,hd⟩,_⟩:=R.code G hfd
 exact ⟨o,_,ho,hd⟩
theorem lJ(G:GC Z.h₀ Z.X.glob Z.X.fns){f:V}{x:Value}(R:ae w.params Z.h₀ W σ s)(hf:VR W.ρ W.F f x)(h:fc Z.X f=true):B5 (model prog w) A x s:=by
 intro Q hq
 rcases Bool.or_eq_true_iff.mp h with h | h
 ·obtain ⟨g,e,h⟩:=(jj hf).any h
  subst e
  cases x with
  | builtin=>exact Uk (hq _)
  | type=>exact Uk (hq _)
  | ref a=>
   obtain ⟨o,fd,ho,hd⟩:=R.fd G h
   unfold keeperOf
   refine Uj (wpAny_load ho ?_)
   rw [hd]
   exact Uk (hq _)
  | _=>exact ft h
 ·rcases Bool.or_eq_true_iff.mp h with h | h
  ·obtain ⟨q,⟨l,z,e,hm,_⟩,h⟩:=(jr hf).any h
   obtain ⟨o,fd,ho,hd⟩:=R.fd G h
   subst e
   unfold keeperOf
   refine Uj (wpAny_load (R.fz _ hm).1 ?_)
   show wpAny _ A (load q.1>>=λ o=>pure (match o.data with | .func _=>Keeper.boundFrame | _=>Keeper.caller)) Q ah s
   exact Uj (wpAny_load ho (Uk (hq _)))
  ·obtain ⟨p,hp⟩:=Option.isSome_iff_exists.mp h
   obtain ⟨l,y,z,e,hm,_⟩:=oZ hf p hp
   subst e
   unfold keeperOf
   exact Uj (wpAny_load (R.fz _ hm).1 (Uk (hq _)))
end
noncomputable def dm(e:Expr):Bool:=e.ctorIdx==16
noncomputable def Km:Const->Option Str
 | .str x=>some x
 | _=>none
noncomputable def FF(r:b5)(c:aw)(e:Expr)(σ:St):Option (Str×St):=match e with
 | .Constant k _ _=>(Km k).map λ x=>(x,σ)
 | .FormattedValue e cv sp _=>if cv = -1∧sp.isNone then (r.E c e σ).bind λ p=>(G3 p.1).bind λ x=>if x.length<=1048576 then some (x,p.2) else none else none
 | _=>none
noncomputable def AA(r:b5)(c:aw):List Expr->Str->St->Option (Str×St)
 | [],out,σ=>some (out,σ)
 | e::es,out,σ=>(FF r c e σ).bind λ p=>if (out++p.1).length<=1048576 then AA r c es (out++p.1) p.2 else none
noncomputable def Dx(r:b5)(c:aw):Option Expr->St->Option (V×St)
 | none,σ=>some (.d .none,σ)
 | some e,σ=>r.E c e σ
noncomputable def bH(self:V):B0->V×List V
 | .fld f=>(f,[])
 | .fn a=>(.glob (.ref a),[self])
 | .blt id=>(.glob (.builtin id),[self])
noncomputable def Ac(X:Cx)(r:b5)(c:aw)(self:V)(name:Str)(args:List Expr)(σ:St):Option (V×St):=if 30<=args.length then none else
 (rl X σ self name).bind λ m=>(c7 r c args σ).bind λ q=>if fc X (bH self m).1=true then r.C (bH self m).1 ((bH self m).2++q.1) [] q.2 else none
noncomputable def Lq(p:V×St):B0->Option (V×St)
 | .fld u=>some (u,p.2)
 | .fn fa=>some (.rcd "method" [.glob (.ref fa),p.1],p.2)
 | .blt _=>none
noncomputable def Be(X:Cx)(r:b5)(c:aw)(f:Expr)(args:List Expr)(pos:Pos)(σ:St):Option (V×St):=match f with
 | .Attribute o name apos=>if (dm o||apos.endLine != pos.line)=true then none else (r.E c o σ).bind λ p=>Ac X r c p.1 name args p.2
 | .Name f _=>(aX X.glob c f σ).bind λ v=>(c7 r c args σ).bind λ q=>if fc X v=true then r.C v q.1 [] q.2 else none
 | _=>none
noncomputable def I8(e:Expr):Option Str:=match e with
 | .Constant k _ _=>Km k
 | _=>none
noncomputable def MJ:List (Option Expr)->List Expr->Option (List (Str×V))
 | [],[]=>some []
 | [some k],[v]=>(I8 k).bind λ k=>(I8 v).map λ v=>[(k,.d (.str v))]
 | _,_=>none
noncomputable def Sb(X:Cx)(r:b5)(c:aw)(e:Expr)(σ:St):Option (V×St):=match e with
 | .Constant k _ _=>(TO k).map λ d=>(.d d,σ)
 | .Name x _=>(aX X.glob c x σ).map λ v=>(v,σ)
 | .BinOp l op rt _=>(r.E c l σ).bind λ p=>(r.E c rt p.2).bind λ q=>(xH X (.bin op) p.1 q.1 q.2).map λ d=>(.d d,q.2)
 | .UnaryOp op x _=>(r.E c x σ).bind λ p=>(I1 X (.un op) p.1 p.2).map λ d=>(.d d,p.2)
 | .Compare l ops rts _=>(one ops).bind λ op=>(one rts).bind λ rt=>if behindInMarks op rt=true then none else (r.E c l σ).bind λ p=>(r.E c rt p.2).bind λ q=>(ui X op p.1 q.1 q.2).map λ d=>(.d d,q.2)
 | .IfExp t a b _=>(r.T c t σ).bind λ p=>r.E c (if p.1=true then a else b) p.2
 | .List es _=>(c7 r c es σ).bind λ p=>if p.1.length<=1048576 then some (.ref p.2.length,p.2++[some (iF p.1)]) else none
 | .Tuple es _ _=>(c7 r c es σ).bind λ p=>if p.1.length<=1048576 then some (GU p.1,p.2) else none
 | .Slice l u t _=>(Dx r c l σ).bind λ p=>(Dx r c u p.2).bind λ q=>(Dx r c t q.2).bind λ z=>some (.rcd "slice" [p.1,q.1,z.1],z.2)
 | .Subscript v i _=>(r.E c v σ).bind λ p=>(r.E c i p.2).bind λ q=>(CJ X p.1 q.1 q.2).map λ u=>(u,q.2)
 | .JoinedStr es _=>if 2<=es.length then (AA r c es Str.empty σ).map λ p=>(.d (.str p.1),p.2) else none
 | .Attribute v a _=>if dm v=true then none else (r.E c v σ).bind λ p=>(rl X p.2 p.1 a).bind (Lq p)
 | .Call f args kws pos=>kg kws (Be X r c f args pos σ)
 | .Dict ks vs _=>(MJ ks vs).map λ m=>(.ref σ.length,σ++[some ⟨.type "dict",none,.dict m⟩])
 | _=>none
section
variable{Z:Zx}{h₀:Heap}{W:Wd}{σ:St}{s:Shared}{A:Around}{c:aw}{env:Env}{pos:Pos}
theorem VR.handed{ρ F}{v:V}{x:Value}(h:VR ρ F v x)(ok:PO v=true):handedIn x=true:=by
 cases h with
 | d d x h=>generalize den F.en d=e at h;cases h<;>rfl
 | glob v=>exact ft ok
 | _=>rfl
theorem bc{glob:Str->Option Value}{x:Str}{v:V}(h:aX glob c x σ=some v):(x==("__debug__" : Str))=false:=by
 unfold aX at h
 exact Ok.ifn (P:=λ _=>(x==("__debug__" : Str))=false) (λ q _ _=>Bool.eq_false_iff.mpr q) v h
theorem c9{e:Expr}{a:Str}{t:Sem Value}(h:dm e=false):attributeBase e a env t=t:=by
 cases e<;>first | rfl | exact ft h.symm
noncomputable def SP(Z:Zx)(c:aw)(t:Env->Sem Value)(σ:St)(p:Str×St):Prop:=∀ env A W s,At Z c env A W σ s->∀ {Q:Value->Shared->Prop},(∀ W' s' tk,W.le W'->At Z c env A W' p.2 s'->Q (.str p.1 tk) s')->wpAny (model prog w) A (t env) Q ah s
theorem y0(S:cO Z)(e:Expr)(σ:St):Ok (FF Z.r c e σ) (SP Z c (eval e) σ):=by
 cases e with
 | Constant k n p=>cases k with
  | str x=>exact .some λ env A W s a Q k=>wpAny_mkText (k W _ _ (.refl W) (a.tk _))
  | _=>exact .none
 | FormattedValue e cv sp p=>
  refine .ifs λ h=> .bind (S.E c e σ) λ q t=> .bind .self λ x hx=> .ifs λ hl=> .some λ env A W s a Q k=>?_
  obtain ⟨rfl,h⟩:=h
  cases sp with
  | some=>exact ft h
  | none=>
   refine FormattedValue_plain (t.go a λ z ac W₁ le r a₁=>?_)
   obtain ⟨tk,rfl⟩:=uJ r x hx
   exact wpAny_formatField_str (k W₁ _ _ le a₁) (k W₁ _ _ le (a₁.tk _)) (by rw [sizeLine_eq];omega)
 | _=>exact .none
theorem qH(S:cO Z):∀ es out σ,Ok (AA Z.r c es out σ) λ p=>out.length<=1048576->SV Z c (λ env=>joinParts out (evalEach es env)) σ (.d (.str p.1),p.2)
 | [],out,σ=> .some λ ho env A W s a=>joinParts_nil (.here (.mkStr _ _) (a.R.toks _)) (by rw [sizeLine_eq];omega)
 | e::es,out,σ=> .bind (y0 S e σ) λ p t=> .ifs λ hz=>(qH S es _ p.2).mono λ q h _ env A W s a=>
  joinParts_cons (t _ _ _ _ a λ W₁ ac tk le a₁=>⟨by rw [sizeLine_eq];omega,aC (h hz _ _ _ _ a₁) λ _ _ z=>z.le le⟩)
theorem oB(S:cO Z):∀ e σ,Ok (Dx Z.r c e σ) (SV Z c (evalPart e) σ)
 | none,_=> .some λ _ _ _ _ a=>wpAny_evalPart_none (.here .mkNone a.R)
 | some e,σ=>(S.E c e σ).mono λ _ t _ _ _ _ a=>wpAny_evalPart_some (t _ _ _ _ a)
theorem cH(env:Env)(pos:Pos):∀ (es:List Expr) (σ:St),Ok (c7 Z.r c es σ) λ _=>(∀ e∈es.head?,fF e=false)∧(backTo pos (starEach es env)).all (λ p=>!p.1)=true
 | [],_=> .some ⟨λ _ e=>ns e,rfl⟩
 | e::es,σ=> .ifn λ hs=> .bind .self λ p _=> .bind (cH env pos es p.2) λ q h=> .some ⟨λ e' he=>by cases he;exact Bool.eq_false_iff.mpr hs,by
   rw [aV (Bool.eq_false_iff.mpr hs)]
   have:=h.2
   unfold backTo at this ⊢
   rw [List.map_cons,List.all_cons,this]
   rfl⟩
noncomputable abbrev Ui(Z:Zx)(f:V)(as:List V)(ks:List (Str×V))(σ:St)(p:V×St):Prop:=∀ A W s fx xs kx,Ht Z A W σ s->VR W.ρ W.F f fx->VRs W.ρ W.F as xs->KR W.ρ W.F ks kx->wpAny (model prog w) A (call fx xs kx) (PV Z.h₀ W p.1 p.2) ah s
theorem iX(G:GC Z.h₀ Z.X.glob Z.X.fns){f:V}{fx:Value}{first:List V}{fxs:List Value}{args:List Expr}{q:List V×St}{p:V×St}(hst:∀ e∈args.head?,fF e=false)
  (ta:J1 Z c (λ env=>spliced (backTo pos (starEach args env))) σ q) (tc:Ui Z f (first++q.1) [] q.2 p) (hk:fc Z.X f=true) (a:At Z c env A W σ s) (hf:VR W.ρ W.F f fx) (hfs:VRs W.ρ W.F first fxs) :
  wpAny (model prog w) A (callWith pos fx fxs (backTo pos (starEach args env)) []) (PV Z.h₀ W p.1 p.2) ah s:=
 aN (aU hst (ta.go a λ xs ac W₁ le r a₁=>⟨lJ G a₁.R (hf.le le) hk,aC (tc _ _ _ _ _ _ a₁.toHt (hf.le le) ((hfs.le le).append r) .nil) λ _ _ z=>z.le le⟩))
theorem i7{o:Expr}{apos:Pos}{few:Bool}(h:apos.endLine=pos.line):methodCallPos few o env apos pos=pure pos:=by
 unfold methodCallPos
 rw [if_pos (by simp [h])]
theorem qw(i:Expr)(x y:Value):subscripted i false x y=operate [y,x] (getItem x y)∨subscripted i false x y=operate [x,y] (getItem x y):=by
 cases i with
 | Slice l u st p=>cases st<;>first | exact .inl rfl | exact .inr rfl
 | _=>exact .inr rfl
inductive NW(Z:Zx)(W:Wd)(s:Shared)(A:Around)(x:Value)(name:Str)(q:V×List V):Prop
 | mk (fx:Value) (fxs:List Value) (hf:VR W.ρ W.F q.1 fx) (hfs:VRs W.ρ W.F q.2 fxs) (h:∀ (pl:Sem Bool) (Q:Value×List Value->Shared->Prop),(∀ tk,Q (fx,fxs) { s with toks:=tk })->wpAny (model prog w) A (getMethod x name pl) Q ah s)
theorem mJ.cal(CO:cI Z.h₀ Z.X){self:V}{x:Value}{name:Str}{m:B0}(R:ae w.params Z.h₀ W σ s)(hx:VR W.ρ W.F self x)(h:mJ Z.X W s A name x m):NW Z W s A x name (bH self m):=by
 cases h with
 | fld u a dx f y e ho hn hy r ok own=>subst e;exact ⟨y,[],r,.nil,λ pl Q hq=>CO.fld R ho hn hy (r.handed ok) own hq⟩
 | fn fa a dx f e ho hn h0 hm=>subst e;exact ⟨_,_,.glob _,.cons _ _ _ _ hx .nil,λ pl Q hq=>CO.meth R ho hn h0 hm (hq s.toks)⟩
 | blt id h=>exact ⟨_,_,.glob _,.cons _ _ _ _ hx .nil,λ pl Q hq=>h pl Q (hq s.toks)⟩
theorem wP(S:cO Z)(G:GC Z.h₀ Z.X.glob Z.X.fns)(CO:cI Z.h₀ Z.X){o:Expr}{self:V}{name:Str}{args:List Expr}{apos:Pos}(hp:apos.endLine=pos.line):Ok (Ac Z.X Z.r c self name args σ) λ p=>∀ env A W s x,At Z c env A W σ s->VR W.ρ W.F self x ->
  wpAny (model prog w) A (methodCall o name apos pos env x (args.length+([]:List Keyword).length) (backTo pos (starEach args env)) (backToKw pos (keywordEach [] env))) (PV Z.h₀ W p.1 p.2) ah s:=by
 refine .ifn λ hl=> .bind .self λ m hm=> .bind .self λ q hq=> .ifs λ hk p hp' env A W s x a hx=>?_
 obtain ⟨fx,fxs,hf,hfs,hg⟩:=(oD name a.k a.R hx m hm).cal CO a.R hx
 obtain ⟨h1,h2⟩:=cH env pos args σ q hq
 unfold methodCall
 rw [show methodCallForm (args.length+([]:List Keyword).length) (backTo pos (starEach args env)) (backToKw pos (keywordEach [] env))=true by
  unfold methodCallForm;rw [h2,show backToKw pos (keywordEach [] env)=[] from rfl];simp;omega]
 refine Uj (Uo ?_)
 show wpAny (model prog w) A (getMethod x name _) _ ah s
 exact hg _ _ λ tk=>Uj (wpAny_of_eq (i7 hp) (iX G h1 (cU S pos args σ q hq) (S.C _ _ _ _ _ hp') hk (a.tk tk) hf hfs))
theorem y4(CO:ClsOk Z.h₀ Z.X){p:V×St}{x:Value}{name:Str}{ex:Bool}(m:B0)(a:At Z c env A W p.2 s)(hx:VR W.ρ W.F p.1 x)(h:mJ Z.X W s A name x m):Ok (Lq p m) λ q=>wpAny (model prog w) A (getAttr x name ex) (PV Z.h₀ W q.1 q.2) ah s:=by
 cases h with
 | fld u a' dx f y e ho hn hy r ok own=>subst e;exact .some (CO.get a.R ho hn hy (r.handed ok) own λ tk=>⟨W,.refl W,r,a.R.toks tk⟩)
 | fn fa a' dx f e ho hn h0 hm=>subst e;exact .some (CO.bound a.R ho hn h0 hm λ tk=>fA a.R (.cons _ _ _ _ (.glob _) (.cons _ _ _ _ hx .nil)) tk)
 | blt id h=>exact .none
theorem zd(S:cO Z)(G:GC Z.h₀ Z.X.glob Z.X.fns)(CO:cI Z.h₀ Z.X)(f:Expr)(args:List Expr)(pos:Pos)(σ:St):Ok (Be Z.X Z.r c f args pos σ) (SV Z c (eval (.Call f args [] pos)) σ):=by
 cases f with
 | Attribute o name apos=>
  refine .ifn λ hc=> .bind (S.E c o σ) λ p t=>?_
  simp only [Bool.or_eq_true,not_or,Bool.not_eq_true,bne_eq_false_iff_eq] at hc
  refine (wP (o:=o) S G CO hc.2).mono λ q h env A W s a=>?_
  rw [arm_eval_Call,c9 hc.1]
  exact Uj (t.go a λ x ac W₁ le r a₁=>Uj (wpAny_standAt (aC (h _ _ _ _ _ a₁ r) λ _ _ z=>z.le le)))
 | Name f fp=>
  refine .bind .self λ v hv=> .bind .self λ q hq=> .ifs λ hk p hp env A W s a=>?_
  show wpAny _ A (eval (.Name f fp) env>>=λ fv=>callWith pos fv [] (backTo pos (starEach args env)) []) _ ah s
  refine a.e▸Uj (wpAny_Name (aT G a.R a.ok hv λ y hy=>?_) (bc hv))
  exact a.e▸iX G (cH env pos args σ q hq).1 (cU S pos args σ q hq) (S.C _ _ _ _ _ hp) hk a hy .nil
 | _=>exact .none
theorem vY(e:Expr):Ok (I8 e) λ x=>∃ n p,e= .Constant (.str x) n p:=by
 cases e with
 | Constant k n p=>cases k with
  | str x=>exact .some ⟨n,p,rfl⟩
  | _=>exact .none
 | _=>exact .none
theorem Bg{ρ:List Addr}{F:Fz}{e:DictEntry}{k:Str}{x:Value}{v:V}(hk:∃ k,(strKind prog w).is k e.key=true∧e.hash=(strKind prog w).hash k)(h1:(strKind prog w).is k e.key=true)(h2:e.val=x)(hv:VR ρ F v x):ER w.params ρ F [(k,v)] [e]:=by
 obtain ⟨k',h3,h4⟩:=hk
 obtain ⟨t,ht⟩:=Value.isStrOf_shape h1
 obtain ⟨t',ht'⟩:=Value.isStrOf_shape h3
 have q:k=k':=(Value.str.inj (ht.symm.trans ht')).1
 obtain ⟨hh,kk,vv⟩:=e
 exact (show (⟨cg w.params k,.str k t,x⟩:DictEntry)=⟨hh,kk,vv⟩ by rw [show hh=_ from h4,show kk=_ from ht,show vv=x from h2,q];rfl)▸ .cons _ _ t _ _ _ hv .nil
theorem xE{ρ:List Addr}{F:Fz}{es:List DictEntry}{k:Str}{x:Value}{v:V}(hk:∀ e∈es,∃ k,(strKind prog w).is k e.key=true∧e.hash=(strKind prog w).hash k)(hp:Pairs (strKind prog w) es [(k,x)])(hv:VR ρ F v x):ER w.params ρ F [(k,v)] es:=by
 cases hp with
 | cons h1 h2 h=>
  cases h
  exact Bg (hk _ (.head _)) h1 h2 hv
theorem CW(ks:List (Option Expr))(vs:List Expr)(p:Pos):Ok ((MJ ks vs).map λ m=>(V.ref σ.length,σ++[some ⟨.type "dict",none,.dict m⟩])) (SV Z c (eval (.Dict ks vs p)) σ):=by
 have mt:∀ {ρ F},OR w.params ρ F ⟨.type "dict",none,.dict []⟩ { cls:= .type "dict",data:= .dict #[] }:= .mk _ _ _ _ _ .none (.dict _ [] 0 .nil)
 match ks,vs with
 | [],[]=>exact .some λ env A W s a=>wpAny_Dict_empty ⟨_,Wd.le_new W _,.ref _ _ (a.R.len▸List.getElem?_concat_length),a.R.new_size rfl mt s.toks⟩
 | [some k],[v]=>
  refine .map (.bind (vY k) λ kk ek=> .map (vY v) (Q:=λ m=>SV Z c (eval (.Dict [some k] [v] p)) σ (V.ref σ.length,σ++[some ⟨.type "dict",none,.dict m⟩])) λ x ev env A W s a=>?_) λ m h=>h
  obtain ⟨q1,p1,rfl⟩:=ek
  obtain ⟨q2,p2,rfl⟩:=ev
  refine wpAny_Dict_pairs (knd:=strKind prog w) (pairs:=[(eval (.Constant (.str kk) q1 p1) env,(do let x ← eval (.Constant (.str x) q2 p2) env;standAt p;pure x))]) rfl (List.cons_ne_nil _ _) (Un rfl) (evalPairs_cons (wpAny_mkText (Uj (wpAny_mkText (Uj (wpAny_standAt (Uk (evalPairs_nil ?_))))))))
  refine ⟨[(kk,.str x (s.toks+1))],⟨strKind_is prog w kk _,rfl,trivial⟩,Heap.DictOf.new _,λ h' hd' hs'=>?_⟩
  obtain ⟨⟨ocl,odc,odt,osl⟩,es,ep,ho,⟨e1,e2,e3⟩,hdt,hko,hp,_⟩:=hd'
  replace hdt:odt=_:=hdt
  replace e1:ocl=_:=e1
  replace e2:odc=_:=e2
  replace e3:osl=_:=e3
  subst e1 e2 e3 hdt
  have hi:(W.ρ++[s.heap.objs.size])[σ.length]?=some s.heap.objs.size:=a.R.len▸List.getElem?_concat_length
  have R2:=(a.R.new_size (o:={ cls:= .type "dict",data:= .dict #[] }) rfl mt s.toks).upd (i:=σ.length) (a:=s.heap.objs.size) (h':=h') (tk:=s.toks+1+1+1) hi ⟨⟨.type "dict",none,.dict []⟩,List.getElem?_concat_length,rfl⟩ (Up hs'.1.symm) hs'.extBut (ao:=⟨.type "dict",none,.dict [(kk,.d (.str x))]⟩) (o:=⟨.type "dict",none,.dict es.toList.toArray ep,#[]⟩) ho
   (.mk _ _ _ _ _ .none (.dict _ es.toList ep (xE (λ e he=>hko e (Array.mem_toList_iff.mp he)) hp (.mkStr x _))))
  rw [List.set_append_right _ _ (Nat.le_refl _),Nat.sub_self] at R2
  exact ⟨_,Wd.le_new W _,.ref _ _ hi,R2⟩
 | [],_::_=>exact .none
 | none::_,_=>exact .none
 | some _::_::_,_=>exact .none
 | [some _],[]=>exact .none
 | [some _],_::_::_=>exact .none
theorem Ky(S:cO Z)(G:GC Z.h₀ Z.X.glob Z.X.fns)(O:j3 Z.h₀ Z.X Z.n)(CO:cI Z.h₀ Z.X)(e:Expr)(σ:St):Ok (Sb Z.X Z.r c e σ) (SV Z c (eval e) σ):=by
 cases e with
 | Constant k q p=>cases k with
  | none=>exact .some λ _ _ _ _ a=>Uk (.here .mkNone a.R)
  | bool b=>exact .some λ _ _ _ _ a=>Uk (.here (.mkBool _) a.R)
  | int i=>exact .some λ _ _ _ _ a=>wpAny_mkInt (.here (.mkInt _ _) (a.R.toks _))
  | str x=>exact .some λ _ _ _ _ a=>wpAny_mkText (.here (.mkStr _ _) (a.R.toks _))
  | _=>exact .none
 | Name x p=>exact .map .self λ v hv env A W s a=>a.e▸wpAny_Name (aT G a.R a.ok hv λ y hy=> .here hy a.R) (bc hv)
 | BinOp l op rt p=>
  refine .bind (S.E c l σ) λ cq dY=> .bind (S.E c rt cq.2) λ mX jB=> .map .self λ d hd env A W s a=>wpAny_BinOp (dY.go a λ x ac W₁ l₁ dP a₁=>jB.go a₁ λ y az ay l₂ dH bj=>?_)
  exact aC (lh (o:= .bin op) (P:=λ d=>wpAny (model prog w) A (binaryOp op x y) (PV Z.h₀ ay (.d d) mX.2) ah az) bj.k bj.R (dP.le l₂) dH (λ da db h1 h2=> .or ((CZ op bj.R h1 h2).mono λ e z=>PD.go z) ((O.bin op da db).mono λ e z=>PD.go (z _ _ _ _ _ _ bj.a bj.R h1 h2))) d hd) λ _ _ z=>z.le (l₁.trans l₂)
 | UnaryOp op x p=>
  refine .bind (S.E c x σ) λ cq dY=> .map .self λ d hd env A W s a=>wpAny_UnaryOp (dY.go a λ x ac W₁ l₁ dP a₁=>?_)
  exact aC (vV (o:= .un op) (P:=λ d=>wpAny (model prog w) A (unaryOp op x) (PV Z.h₀ W₁ (.d d) cq.2) ah ac) a₁.k a₁.R dP (λ da h1=>(G7 op a₁.R h1).mono λ e z=>PD.go z) d hd) λ _ _ z=>z.le l₁
 | Compare l ops rts p=>
  refine .bind (d9 ops) λ op e₁=> .bind (d9 rts) λ rt IQ=> .ifn λ hb=> .bind (S.E c l σ) λ cq dY=> .bind (S.E c rt cq.2) λ mX jB=> .map .self λ d hd env A W s a=>?_
  subst e₁ IQ
  exact wpAny_Compare1 (dY.go a λ x ac W₁ l₁ dP a₁=>jB.go a₁ λ y az ay l₂ dH bj=>aC (iW O op bj.toHt (dP.le l₂) dH d hd) λ _ _ z=>z.le (l₁.trans l₂)) (Bool.eq_false_iff.mpr hb)
 | IfExp t bR T6 p=>
  refine .bind (S.T c t σ) λ cq dY=> .mono (S.E c _ cq.2) λ p jB env A W s a=>wpAny_IfExp (dY.go a λ ac W₁ l₁ a₁=>?_)
  have:=jB _ _ _ _ a₁
  cases hb:cq.1<;>rw [hb] at this<;>exact aC this λ _ _ z=>z.le l₁
 | List es p=>exact .bind (cU S p es σ) λ cq dY=> .ifs λ hz=> .some λ env A W s a=>wpAny_List_spliced (dY.go a λ xs ac W₁ le r a₁=>⟨by rw [← r.length,sizeLine_eq];omega,(j6 a₁.R r _).le le⟩)
 | Tuple es k p=>exact .bind (cU S p es σ) λ cq dY=> .ifs λ hz=> .some λ env A W s a=>wpAny_Tuple_spliced (dY.go a λ xs ac W₁ le r a₁=>⟨by rw [← r.length,sizeLine_eq];omega,(tl a₁.R r _).le le⟩)
 | Slice l u t p=>
  exact .bind (oB S l σ) λ cq dY=> .bind (oB S u cq.2) λ mX jB=> .bind (oB S t mX.2) λ Dp ON=> .some λ env A W s a=>wpAny_Slice (dY.go a λ x ac W₁ l₁ dP a₁=>jB.go a₁ λ y az ay l₂ dH bj=>ON.go bj λ z a8 aP bb qO fP=>
   (fA fP.R (.cons _ _ _ _ ((dP.le l₂).le bb) (.cons _ _ _ _ (dH.le bb) (.cons _ _ _ _ qO .nil))) _).le ((l₁.trans l₂).trans bb))
 | Subscript v i p=>
  refine .bind (S.E c v σ) λ cq dY=> .bind (S.E c i cq.2) λ mX jB=> .map .self λ d hd env A W s a=>?_
  rw [eval_Subscript]
  refine Uj (dY.go a λ x ac W₁ l₁ dP a₁=>Uj (Uo (jB.go a₁ λ y az ay l₂ dH bj=>?_)))
  obtain ⟨hp,key⟩:=qG bj.toHt (dP.le l₂) dH d hd
  refine Uj (wpAny_standAt (Uj (nr hp (Uj (aC (Q:=PV Z.h₀ W d mX.2) ?_ λ z a8 tG=>Uj (wpAny_letTemporaryGo (Uk tG)))))))
  exact aC ((qw i x y).elim (λ e=>e▸wpAny_operate' key) λ e=>e▸wpAny_operate' key) λ _ _ z=>z.le (l₁.trans l₂)
 | JoinedStr es p=>
  refine .ifs λ he=> .map (qH S es Str.empty σ) λ q t env A W s a=>?_
  match es,he with
  | a₁::T5::es,_=>exact JoinedStr_many (t (by decide) _ _ _ _ a)
 | Attribute v n p=>
  refine .ifn λ hc=> .bind (S.E c v σ) λ cq dY=> .bind .self λ m hm q hq env A W s a=>?_
  rw [arm_eval_Attribute,c9 (Bool.eq_false_iff.mpr hc)]
  exact Uj (dY.go a λ x ac W₁ le r a₁=>Uj (wpAny_standAt (Uj (Uo (aC (Q:=PV Z.h₀ W q.1 q.2)
   (aC (y4 CO.toClsOk m a₁ r (oD n a₁.k a₁.R r m hm) q hq) λ _ _ z=>z.le le) λ z a8 tG=>Uj (wpAny_letTemporaryGo (Uk tG)))))))
 | Call f args kws pos=>exact ew λ e=>e▸zd S G CO f args pos σ
 | Dict ks vs p=>exact CW ks vs p
 | _=>exact .none
end
noncomputable def dL:List (Str×NameKind)->List (Str×Nat)->List (Str×Nat)->Option (List (Str×Nat))
 | [],_,acc=>some acc
 | p::r,cs,acc=>if (p.2== .free)=true then (cs.lookup p.1).bind λ i=>dL r cs ((p.1,i)::acc) else dL r cs acc
noncomputable def KT(sc:Scope)(c:aw):Scope:={ sc with names:=sc.names.map λ p=>if (p.2== .free&&c.sc.kind== .function&&c.sc.names.lookup p.1==some .cell) then (p.1,.cell) else p }
noncomputable def lB(r:b5)(c:aw):List Expr->Bool->St->Option (Bool×St)
 | [],b,σ=>some (b,σ)
 | e::es,b,σ=>if b=true then (r.T c e σ).bind λ p=>lB r c es p.1 p.2 else lB r c es b σ
noncomputable def Ai(sc:Scope):Bool:=sc.names.all λ p=>p.2 != .local||sc.names.lookup p.1==some .local
noncomputable def n7(iter:Expr)(scope:Scope):Bool:=iC iter&&scope.kind== .function&&!scope.isCoroutine&&Ai scope
noncomputable def MU(c:aw)(scope:Scope)(cl:List (Str×Nat))(ao:AO)(σ₁:St):St:=(ck scope cl c.qual none .none (some c) (σ₁++[some ao])).2
noncomputable def xO(c:aw)(scope:Scope)(cl:List (Str×Nat))(ao:AO)(σ₁:St):aw:={ (ck scope cl c.qual none .none (some c) (σ₁++[some ao])).1 with sc:=KT scope c }
section
variable{W:Wd}{σ:St}{s:Shared}{A:Around}{c:aw}{ab:Heap}
theorem mf{l:List (Str×Nat)}(x:Str):Ok (l.lookup x) λ j=>∃ p∈l,p.2=j:=by
 induction l with
 | nil=>exact .none
 | cons y l ih=>
  rw [List.lookup_cons]
  cases x==y.1 with
  | true=>exact .some ⟨y,.head _,rfl⟩
  | false=>exact ih.mono λ j ⟨p,hp,e⟩=>⟨p,.tail _ hp,e⟩
theorem pX{c:aw}:∀ (names:List (Str×NameKind)) (acc:List (Str×Nat)),Ok (dL names c.cells acc) λ cl=>(∀ m,(∀ p∈c.cells,p.2<m)->(∀ p∈acc,p.2<m)->∀ p∈cl,p.2<m) ∧
  ∀ ρ (f:Str×NameKind->List (Str×Addr)->Sem (ForInStep (List (Str×Addr)))),(∀ p cs,f p cs=if (p.2==NameKind.free)=true then cellOf (c.env ρ) p.1>>=λ a=>pure (ForInStep.yield ((p.1,a)::cs)) else pure (ForInStep.yield cs))->forIn names (be ρ acc) f=pure (be ρ cl)
 | [],acc=> .some ⟨λ _ _ h=>h,λ _ _ _=>rfl⟩
 | p::names,acc=> .ite (λ q=> .bind .self λ i hi=>(pX names _).mono λ cl ⟨h1,h2⟩=>⟨λ m hc ha=>h1 m hc λ x hx=>by
    cases hx with
    | head=>obtain ⟨y,hy,e⟩:=mf _ i hi;exact e▸hc y hy
    | tail _ hx=>exact ha x hx,λ ρ f hf=>by
    have e:cellOf (c.env ρ) p.1=pure (ad ρ i):=by
     unfold cellOf
     rw [show (c.env ρ).cells.lookup p.1=some (ad ρ i) from (iG (ad ρ) p.1 c.cells).trans (congrArg (Option.map (ad ρ)) hi)]
    rw [List.forIn_cons,hf,if_pos q,e]
    exact h2 ρ f hf⟩)
   λ q=>(pX names _).mono λ cl ⟨h1,h2⟩=>⟨h1,λ ρ f hf=>by
    rw [List.forIn_cons,hf,if_neg q]
    exact h2 ρ f hf⟩
theorem mB{sc:Scope}{cl:List (Str×Nat)}{ρ:List Addr}(h:dL sc.names c.cells []=some cl):closureFor sc (c.env ρ)=pure (be ρ cl):=
 congrArg (·>>=λ cs=>pure cs) ((pX sc.names [] cl h).2 ρ _ λ _ _=>rfl)
noncomputable def x6(A:Around)(use:Option (Value->Sem Unit))(Q:Value->Shared->Prop)(D C:Addr)(s:Shared):Prop:=compPost (model prog w) A ah use Q (.ref D) C (.ok .next) s
noncomputable def GA(P:Shared->Prop):Result->Shared->Prop:=λ r s=>match r with
 | .ok _=>P s
 | .error _=>False
structure NY(ab:Heap)(c:aw)(scope:Scope)(cl:List (Str×Nat))(ao:AO)(σ₁:St)(W₁ bM:Wd)(D C:Addr)(dy:Shared):Prop where
 le:W₁.le bM
 R:ae w.params ab bM (MU c scope cl ao σ₁) dy
 ok:(xO c scope cl ao σ₁).Ok bM.ρ.length
 acc:bM.ρ[σ₁.length]?=some D
 C:bM.ρ[σ₁.length+1]?=some C
inductive NX(A:Around)(c:aw)(e:Expr)(scope:Scope)(cl:List (Str×Nat))(ao:AO)(W:Wd)(use:Option (Value->Sem Unit))(Q:Value->Shared->Prop)(y:Value)(az:Shared):Prop
 | mk (ab:Heap) (W₁:Wd) (σ₁:St) (it:Addr) (hy:y= .ref it) (pre:W.ρ <+: W₁.ρ) (R:ae w.params ab W₁ σ₁ az)
  (go:∀ bM dy D C,NY ab c scope cl ao σ₁ W₁ bM D C dy->codeAny (model prog w) A (.compLoop e 0 (.ref it) (.ref D) ((xO c scope cl ao σ₁).env bM.ρ)) (GA (x6 A use Q D C)) dy∧∀ Q:Value->Shared->Prop,Q (.ref it) dy->wpAny (model prog w) A (pyIter (.ref it)) Q ah dy)
theorem rW{use:Option (Value->Sem Unit)}{Q:Value->Shared->Prop}{D C:Addr}{r:Result}(h:GA (x6 A use Q D C) r s):compPost (model prog w) A ah use Q (.ref D) C r s:=by
 cases r with
 | ok f=>cases use<;>exact h
 | error _=>exact h.elim
theorem jH{e iter target:Expr}{ifs:List Expr}{scope:Scope}{pos:Pos}{cl:List (Str×Nat)}{ao:AO}{o:Obj}{newAcc:Sem Value}{use:Option (Value->Sem Unit)}{Q:Value->Shared->Prop}(ok:c.Ok W.ρ.length)(hc:clausesOf e=[⟨target,iter,ifs,0⟩])
  (hst:∀ {it acc:Value} {env:Env} {R:Result->Shared->Prop} {s:Shared},codeAny (model prog w) A (.compLoop e 0 it acc env) R s->wpAny (model prog w) A (pyIter it) (λ it' s'=>codeAny (model prog w) A (.compLoop e 0 it' acc env) R s') (notedBy (model prog w) A env λ x s'=>R (.error x) s') s->codeAny (model prog w) A (.compStart e 0 it acc env) R s)
  (hnew:∀ {Q:Value->Shared->Prop} {s:Shared},Q (.ref s.heap.objs.size) { s with heap:=s.heap.push o }->wpAny (model prog w) A newAcc Q ah s) (hf:o.isFreed=false) (hr:∀ ρ F,OR w.params ρ F ao o) (hnf:ao.data.isFro=false)
  (hb:n7 iter scope=true) (hcl:dL scope.names c.cells []=some cl) (h:wpAny (model prog w) A (eval iter (c.env W.ρ)) (λ x ac=>wpAny (model prog w) A (pyIter x) (NX A c e scope cl ao W use Q) ah ac) ah s) :
  wpAny (model prog w) A (comprehension e scope (c.env W.ρ) pos newAcc false (eval iter (c.env W.ρ)) use) Q ah s:=by
 obtain ⟨hb,hlo⟩:=Um.mp hb
 obtain ⟨hb,hco⟩:=Um.mp hb
 obtain ⟨hpl,hk⟩:=Um.mp hb
 replace hk:=eq_of_beq hk
 replace hco:scope.isCoroutine=false:=by simpa using hco
 have hs0:∀ x,foldedSetIterable iter (c.env W.ρ) x=pure x:=λ x=>by cases iter<;>first | rfl | exact ft hpl
 have hnames:∀ x∈scope.names,x.2= .local->scope.names.lookup x.1=some .local:=λ x hx hl=>by
  have:=List.all_eq_true.mp hlo x hx
  rw [hl] at this
  exact eq_of_beq this
 have clm:=(pX _ _ cl hcl).1
 refine wpAny_comprehension_free (cl:=be W.ρ cl) hc hs0 (mB hcl) hk hnames (aC h λ x ac h=>aC h λ y az ⟨ab,W₁,σ₁,it,hy,pre,R,go⟩=>hnew ?_)
 subst hy
 have bf:=R.new_size hf (hr _ _) az.toks hnf
 have l03:=pre.trans (Wd.le_new W₁ az.heap.objs.size).rho
 have ok3:=ok.mono l03.length_le
 have clm3:=clm _ ok.cells λ p hp=>nm hp
 rw [← aw.env_pre l03 ok,← fL l03 clm3]
 refine iz (around:=some c) bf hk hco (λ p hp=>Nat.lt_of_lt_of_le (clm3 p hp) l03.length_le) .nil (λ o e=>by cases e;exact ok3) rfl λ bM dy fV Jy vc _=>?_
 have hC:=AZ vc
 have hl:(σ₁++[some ao]).length=σ₁.length+1:=List.length_append
 obtain ⟨g1,g2⟩:=go bM dy az.heap.objs.size _ ⟨(Wd.le_new W₁ _).trans fV,Jy,⟨vc.fr,vc.frame,vc.cells,hk,hco⟩,bF fV.rho (by rw [R.len];exact List.getElem?_concat_length),hl▸(show bM.ρ[(σ₁++[some ao]).length]?=some _ from hC)⟩
 exact hst (codeAny_mono g1 λ r s' q=>rW q) (wpAny_mono (g2 _ (codeAny_mono g1 λ r s' q=>rW q)) (λ _ _ z=>z) λ _ _ x=>x.elim)
theorem rV{Q:Value->Shared->Prop}{D C:Addr}{fr:Nat}{o:AO}{m:List (Str×V)}(R:ae w.params ab W σ s)(hC:W.ρ[fr]?=some C)(hfr:σ.at fr=some ⟨o.cls,o.dict,.dict m⟩)(k:∀ h',ae w.params ab W (σ.set fr none) { s with heap:=h' }->Q (.ref D) { s with heap:=h' }):x6 A none Q D C s:=
 let ⟨f,hn,_⟩:=l5 R hC hfr rfl
 ⟨f,hn,λ h' hs=>k h' (R.lose (tk:=s.toks) hC (St.at_some hfr) rfl hs)⟩
theorem sU{x:Str}{v:V}{i:Nat}(hf:c.fr≠i)(hc:∀ p∈c.cells,p.2≠i):Ok (aS c x v (σ.set i none)) λ σ'=>∃ cu,aS c x v σ=some cu∧σ'=cu.set i none∧cu.at i=σ.at i:=by
 unfold aS
 refine .bind (P:=λ q=>((c.sc.names.lookup x).bind (Ic c x)=some q)∧q.2≠i) (λ q hq=>⟨hq,?_⟩) λ q ⟨hq,hi⟩=>?_
 ·obtain ⟨k,_,hq⟩:=cY hq
  cases k with
  | «local»=>cases hq;exact hf
  | cell=>
   obtain ⟨j,hj,e⟩:=Option.map_eq_some_iff.mp hq
   obtain ⟨p,hp,e'⟩:=mf _ j hj
   exact e▸e'▸hc p hp
  | _=>exact ns hq
 ·rw [n9 λ e=>hi e.symm,hq]
  refine .bind .self λ o ho=> .map .self λ o' ho'=>⟨σ.set q.2 (some o'),?_,List.set_comm _ _ λ e=>hi e.symm,n9 hi⟩
  show ((σ.at q.2).bind λ o=>(K7 x v q.1 o).map λ o'=>σ.set q.2 (some o'))=_
  rw [ho]
  exact congrArg (Option.map λ o'=>σ.set q.2 (some o')) ho'
theorem pN{Q:Value->Shared->Prop}{D C:Addr}{fr acc:Nat}{o:AO}{m:List (Str×V)}{x:Str}{tp:Pos}{σ':St}{fo:Wd}(ok:c.Ok fo.ρ.length)(hge:fo.ρ.length<=fr)(le:fo.ρ <+: W.ρ)(R:ae w.params ab W σ s)(hC:W.ρ[fr]?=some C)(hD:W.ρ[acc]?=some D)(hfr:σ.at fr=some ⟨o.cls,o.dict,.dict m⟩)
  (hst:aS c x (.ref acc) (σ.set fr none)=some σ') (k:∀ s',ae w.params ab W σ' s'->Q .none s'):x6 A (some (assign (.Name x tp) (c.env fo.ρ))) Q D C s:=by
 obtain ⟨yd,hs5,e5,e6⟩:=sU (λ e=>absurd ok.fr (Nat.not_lt.mpr (e▸hge))) (λ p hp e=>absurd (ok.cells p hp) (Nat.not_lt.mpr (e▸hge))) σ' hst
 show wpAny (model prog w) A (assign (.Name x tp) (c.env fo.ρ) (.ref D)) _ ah s
 rw [← aw.env_pre le ok]
 refine wpAny_assign_Name (bv R (ok.mono le.length_le) hs5 (.ref _ _ hD) λ h' tk bf=>?_)
 obtain ⟨f,hn,_⟩:=l5 bf hC (e6.trans hfr) rfl
 exact ⟨f,hn,λ h'' hs=>k _ (e5▸bf.lose hC (St.at_some (e6.trans hfr)) rfl hs)⟩
end
noncomputable def n6(X:Cx)(r:b5)(cc:aw)(elt target:Expr)(ifs:List Expr)(src:iK)(acc:Nat):Nat->Nat->St->Option St
 | 0,_,_=>none
 | m+1,k,σ=>(lH σ src k).bind λ rv=>match rv with
  | none=>some σ
  | some v=>(cW X r cc target v σ).bind λ σ₁=>(lB r cc ifs true σ₁).bind λ q=>
   if q.1=true then (r.E cc elt q.2).bind λ p=>(lU X X.frz acc p.1 p.2).bind λ bJ=>n6 X r cc elt target ifs src acc m (k+1) bJ
   else n6 X r cc elt target ifs src acc m (k+1) q.2
noncomputable def NT(A:Around)(e:Expr)(it acc:Value)(env:Env)(Go P:Shared->Prop):Fin->Shared->Prop:=λ f s=>match f with
 | .done _=>P s
 | .again c=>c= .compLoop e 0 it acc env∧Go s
noncomputable def oo(ifs:List Expr)(env:Env)(b:Bool):Sem Bool:=forIn ifs b λ e r=>if r=true then isTrue e env (eval e env)>>=λ ok=>pure (ForInStep.yield ok) else pure (ForInStep.yield r)
noncomputable def B2(A:Around)(elt t:Expr)(ifs:List Expr)(it acc:Value)(env:Env)(Go P:Shared->Prop):Option Value->Shared->Prop:=λ r s=>match r with
 | none=>P s
 | some v=>wpAny (model prog w) A (letOwnedTupleGo t it v) (λ _ ac=>wpAny (model prog w) A (assign t env v) (λ _ az=>wpAny (model prog w) A (oo ifs env true) (λ b a8=>
   if b=true then wpAny (model prog w) A (eval elt env) (λ x dy=>wpAny (model prog w) A (call (.builtin "list.append") [acc,x]) (λ _ iQ=>Go iQ) ah dy) ah a8 else Go a8) ah az) ah ac) ah s
theorem v3{A:Around}{e:Expr}{it acc:Value}{env:Env}(I:Nat->Shared->Prop){P:Shared->Prop}(turn:∀ m s,I m s->wpAny (model prog w) A (compTurn e 0 it acc env) (NT A e it acc env (λ s=>∃ m',m'<m∧I m' s) P) ah s)(hu:A.under (.compLoop e 0 it acc env)=A)(hd:(model prog w).den (.compLoop e 0 it acc env)=(compTurn e 0 it acc env).onRaise (λ x=>do noteFrame x env;theTreesLotGoes x))(m:Nat){s:Shared}(h:I m s) :
  codeAny (model prog w) A (.compLoop e 0 it acc env) (GA P) s:=
 codeAny_loop rfl I (λ m s hI=>by
  rw [hu,hd]
  exact wpAny_noted (wpAny_mono (turn m s hI) (λ f s q=>by cases f<;>exact q) λ _ _ x=>x.elim)) m h
theorem nZ{A:Around}{elt t iter:Expr}{ifs:List Expr}{scope:Scope}{pos:Pos}{it acc:Value}{env:Env}(I:Nat->Shared->Prop){P:Shared->Prop}(turn:∀ m s,I m s->wpAny (model prog w) A (pyNext it) (B2 A elt t ifs it acc env (λ s=>∃ m',m'<m∧I m' s) P) ah s)(m:Nat){s:Shared}(h:I m s) :
  codeAny (model prog w) A (.compLoop (.ListComp elt [⟨t,iter,ifs,0⟩] scope pos) 0 it acc env) (GA P) s:=
 v3 I (λ m s hI=>by
  rw [compTurn_list]
  refine Uj (wpAny_standAt (Uj (aC (turn m s hI) λ r ac q=>?_)))
  cases r with
  | none=>exact Uk q
  | some v=>exact Uj (aC q λ _ az q=>Uj (aC q λ _ a8 q=>Uj (aC q λ b dy q=>by
    cases b with
    | false=>exact Uk ⟨rfl,q⟩
    | true=>exact Uj (Uj (aC q λ x iQ q=>Uj (aC q λ _ Kk q=>Uk (Uk ⟨rfl,q⟩))))))) ) rfl rfl m h
section
variable{Z:Zx}{W:Wd}{σ:St}{s:Shared}{A:Around}{c:aw}
theorem gV(S:cO Z):∀ (es:List Expr) (b:Bool) (σ:St),Ok (lB Z.r c es b σ) (SB Z c (λ env=>oo es env b) σ)
 | [],b,σ=> .some λ env A W s a=>Uk ⟨rfl,W,.refl W,a.R⟩
 | e::es,b,σ=> .ite (λ q=> .bind (S.T c e σ) λ p t=>(gV S es p.1 p.2).mono λ q' t' env A W s a=>by
    show wpAny _ A (forIn (e::es) b _) _ ah s
    rw [List.forIn_cons,if_pos q]
    exact Uj (Uj (t.go a λ ac W₁ le a₁=>Uk (aC (t' _ _ _ _ a₁) λ _ _ ⟨e,ay,aq,R⟩=>⟨e,ay,le.trans aq,R⟩)))) λ q=>(gV S es b σ).mono λ q' t' env A W s a=>by
    show wpAny _ A (forIn (e::es) b _) _ ah s
    rw [List.forIn_cons,if_neg q]
    exact Uj (Uk (t' _ _ _ _ a))
theorem jI{src:iK}{k:Nat}{it:Addr}{o:Obj}{Q:Value->Shared->Prop}(hi:aY W src k o)(hg:s.heap.get? it=some o)(h:Q (.ref it) s):wpAny (model prog w) A (pyIter (.ref it)) Q ah s:=by
 cases hi with
 | lst v l _ _ hv hc hd=>exact wpAny_pyIter_listiter ⟨o,hg,hc,hd⟩ h
 | str x t _ _ hc hd=>exact wpAny_pyIter_striter_ascii ⟨o,hg,hc,hd⟩ h
 | rng a m _=>exact wpAny_pyIter_rangeiter hg h
inductive Ce(Z:Zx)(c:aw)(elt t:Expr)(ifs:List Expr)(src:iK)(acc:Nat)(it:Addr)(pv:List (Addr×Obj))(W:Wd)(σ':St)(m:Nat)(s:Shared):Prop
 | mk (k:Nat) (σ:St) (o:Obj) (W₁:Wd) (h:n6 Z.X Z.r c elt t ifs src acc m k σ=some σ') (le:W.le { W₁ with pv:=pv }) (R:ae w.params Z.h₀ { W₁ with pv:=(it,o)::pv } σ s) (hi:aY W₁ src k o)
theorem nY(S:cO Z)(CO:ClsOk Z.h₀ Z.X){elt t:Expr}{ifs:List Expr}{src:iK}{it:Addr}{D:Value}{pv:List (Addr×Obj)}{env:Env}{k:Nat}{v:V}{σ σ₁:St}{q:Bool×St}{Go P:Shared->Prop}{W₁:Wd}{o:Obj}(ht:a6 t src=true)(hd:∀ q∈pv,q.1≠it)
  (hrv:lH σ src k=some (some v)) (ha:∀ env A W s x,At Z c env A W σ s->VR W.ρ W.F v x->wpAny (model prog w) A (assign t env x) (PU Z.h₀ W σ₁) ah s) (hb:SB Z c (λ env=>oo ifs env true) σ₁ q)
  (a:∀ pv' s',ae w.params Z.h₀ { W₁ with pv:=pv' } σ s'->At Z c env A { W₁ with pv:=pv' } σ s') (R:ae w.params Z.h₀ { W₁ with pv:=(it,o)::pv } σ s) (hA:A.handled=none) (hi:aY W₁ src k o)
  (go:∀ o' aP a8,({ W₁ with pv:=(it,o')::pv }:Wd).le aP->At Z c env A aP q.2 a8->aY { W₁ with pv:=(it,o')::pv } src (k+1) o' ->
   if q.1=true then wpAny (model prog w) A (eval elt env) (λ x dy=>wpAny (model prog w) A (call (.builtin "list.append") [D,x]) (λ _ iQ=>Go iQ) ah dy) ah a8 else Go a8) :
  wpAny (model prog w) A (pyNext (.ref it)) (B2 A elt t ifs (.ref it) D env Go P) ah s:=
 aC (cS hA R hd hi _ hrv) λ y ac q'=>by
  cases q' with
  | some _ x rx o' hi' R'=>
   exact i1 ht hi' (R'.pv (it,o') (.head _)).1 (aC (ha _ _ _ _ _ (a _ _ R') rx) λ _ az ⟨ay,aq,aG⟩=>hb.go ((a _ _ R').to aq aG) λ a8 aP br fP=>go o' aP a8 (aq.trans br) fP (hi'.pv (pv:=(it,o')::pv)))
theorem oG(S:cO Z)(CO:ClsOk Z.h₀ Z.X){elt t:Expr}{ifs:List Expr}{src:iK}{acc:Nat}{it D:Addr}{pv:List (Addr×Obj)}(ht:a6 t src=true)(hd:∀ q∈pv,q.1≠it)(a:bD Z.n A)(eX:cx Z.X.K Z.X.O W.F.en)(ok:c.Ok W.ρ.length)(hD:W.ρ[acc]?=some D)(m k:Nat)(σ:St) :
  Ok (n6 Z.X Z.r c elt t ifs src acc (m+1) k σ) λ σ'=>∀ W₁ o s,W.le { W₁ with pv:=pv }->ae w.params Z.h₀ { W₁ with pv:=(it,o)::pv } σ s->aY W₁ src k o ->
   wpAny (model prog w) A (pyNext (.ref it)) (B2 A elt t ifs (.ref it) (.ref D) (c.env W.ρ) (λ s=>∃ m',m'<m+1∧Ce Z c elt t ifs src acc it pv W σ' m' s) (PU Z.h₀ W σ' ())) ah s:=by
 refine .bind .self λ rv hrv=>?_
 cases rv with
 | none=>exact .some λ W₁ o s le R hi=>aC (cS a.handled R hd hi _ hrv) λ y ac q=>by cases q with | none R'=>exact ⟨_,le,R'⟩
 | some v=>
  refine .bind (dl S CO t v σ) λ σ₁ ha=> .bind (gV S ifs true σ₁) λ q hb=>?_
  have st:∀ {σ':St} {o':Obj} {W₁:Wd},W.le { W₁ with pv:=pv }->aY { W₁ with pv:=(it,o')::pv } src (k+1) o'->∀ {aP a8 bJ},({ W₁ with pv:=(it,o')::pv }:Wd).le aP->ae w.params Z.h₀ aP bJ a8->n6 Z.X Z.r c elt t ifs src acc m (k+1) bJ=some σ'->∃ m',m'<m+1∧Ce Z c elt t ifs src acc it pv W σ' m' a8:=
   @λ _ _ _ le hi' aP a8 bJ bb bf hp=>⟨m,Nat.lt_succ_self _,k+1,_,_,aP,hp,Wd.le_pv le bb,bf.pvTo bb,hi'.le bb⟩
  obtain ⟨b,cu⟩:=q
  cases b with
  | false=>exact λ σ' hp W₁ o s le R hi=>nY S CO ht hd hrv ha hb (λ pv' s' R'=>At.of eX ok a le R') R a.handled hi λ o' aP a8 br fP hi'=>st le hi' br fP.R hp
  | true=>
   exact .bind (S.E c elt cu) λ p he=> .bind .self λ bJ hpush σ' hp W₁ o s le R hi=>nY S CO ht hd hrv ha hb (λ pv' s' R'=>At.of eX ok a le R') R a.handled hi λ o' aP a8 br fP hi'=>he.go fP λ x dy bM fV zr ut=>
    aC (lI ut.k ut.R (.ref _ _ (bF (le.rho.trans (br.rho.trans fV.rho)) hD)) zr _ hpush) λ _ iQ ⟨jZ,dC,_,mI⟩=>st le hi' ((br.trans fV).trans dC) mI hp
theorem oH(S:cO Z)(CO:ClsOk Z.h₀ Z.X){elt t iter:Expr}{ifs:List Expr}{scope:Scope}{pos:Pos}{src:iK}{acc:Nat}{it D:Addr}{pv:List (Addr×Obj)}{σ':St}(ht:a6 t src=true)(hd:∀ q∈pv,q.1≠it)(a:bD Z.n A)(eX:cx Z.X.K Z.X.O W.F.en)(ok:c.Ok W.ρ.length)(hD:W.ρ[acc]?=some D){m:Nat}(h:Ce Z c elt t ifs src acc it pv W σ' m s) :
  codeAny (model prog w) A (.compLoop (.ListComp elt [⟨t,iter,ifs,0⟩] scope pos) 0 (.ref it) (.ref D) (c.env W.ρ)) (GA (PU Z.h₀ W σ' ())) s:=
 nZ _ (λ m s ⟨k,σ,o,W₁,h,le,R,hi⟩=>by
  cases m with
  | zero=>exact ns h
  | succ m=>exact oG S CO ht hd a eX ok hD m k σ σ' h W₁ o s le R hi) m h
end
noncomputable def v4(X:Cx)(r:b5)(c:aw)(elt target iter:Expr)(ifs:List Expr)(scope:Scope)(σ:St):Option (V×St):=
 if n7 iter scope=true then
  (r.E c iter σ).bind λ p=>(qE p.2 p.1).bind λ src=>if a6 target src=true then
   (dL scope.names c.cells []).bind λ cl=>
    (n6 X r (xO c scope cl (iF []) p.2) elt target ifs src p.2.length 4096 0 (MU c scope cl (iF []) p.2)).bind λ bk=>
     (bk.at (p.2.length+1)).bind λ o=>(kl o).map λ _=>(.ref p.2.length,bk.set (p.2.length+1) none)
   else none
 else none
section
variable{Z:Zx}{W:Wd}{σ:St}{s:Shared}{A:Around}{c:aw}{env:Env}
noncomputable abbrev QL(Z:Zx)(A:Around)(W:Wd)(use:Option (Value->Sem Unit))(Q:Value->Shared->Prop)(p:V×St):Prop:=∀ (ay:Wd) (bk:St) (az:Shared) (i acc:Nat) (o:AO) (m:List (Str×V)) (C D:Addr),W.le ay->ae w.params Z.h₀ ay bk az->ay.ρ[i]?=some C->ay.ρ[acc]?=some D->bk.at i=some ⟨o.cls,o.dict,.dict m⟩->W.ρ.length<=i->p=(.ref acc,bk.set i none)->x6 A use Q D C az
theorem qJ(S:cO Z)(CO:ClsOk Z.h₀ Z.X){elt target iter:Expr}{ifs:List Expr}{scope:Scope}{pos:Pos}{use:Option (Value->Sem Unit)}:Ok (v4 Z.X Z.r c elt target iter ifs scope σ) λ p=>∀ {Q},At Z c env A W σ s->QL Z A W use Q p ->
  wpAny (model prog w) A (comprehension (.ListComp elt [⟨target,iter,ifs,0⟩] scope pos) scope env (firstIterPos [⟨target,iter,ifs,0⟩] pos) (newList []) (firstAsync [⟨target,iter,ifs,0⟩]) (firstIter [⟨target,iter,ifs,0⟩] env) use) Q ah s:=by
 refine .ifs λ hb=> .bind (S.E c iter σ) λ p t=> .bind .self λ src hs=> .ifs λ ht=> .bind .self λ cl hcl=> .bind .self λ bk hloop=> .bind .self λ o ho=> .map (dD o) λ m e {Q} a hQ=>?_
 obtain ⟨⟨eX,aA,Fg⟩,ok,rfl⟩:=a
 refine jH (ao:=iF []) (o:={ cls:= .type "list",data:= .seq #[] }) (W:=W) ok rfl (λ h g=>codeAny_compStart_list h g) (λ h=>wpAny_newList (items:=[]) h (by simp)) rfl (λ ρ F=>me .nil 0) (pn []) hb hcl (t.go ⟨⟨eX,aA,Fg⟩,ok,rfl⟩ λ x ac W₁ aK gu a₁=>aC (lK a₁.R gu src hs) λ y az ⟨it,o',e',hi,aG,hd⟩=>?_)
 refine ⟨Z.h₀,{ W₁ with pv:=(it,o')::W₁.pv },_,it,e',aK.rho,aG,λ bM dy D C b=>?_⟩
 have h4:bM.pv=(it,o')::W₁.pv:=b.le.pv
 have hi4:aY bM src 0 o':=aY.le (hi.pv (pv:=(it,o')::W₁.pv)) b.le
 have e4:({ bM with pv:=(it,o')::W₁.pv }:Wd)=bM:=by cases bM;cases h4;rfl
 refine ⟨codeAny_mono (oH (W:={ bM with pv:=W₁.pv }) S CO ht hd aA ?_ b.ok b.acc (m:=4096) ⟨0,_,o',bM,hloop,.refl _,e4▸b.R,hi4⟩) λ r s' q=>?_,λ Q hq=>jI hi4 (b.R.pv (it,o') (h4▸ .head _)).1 hq⟩
 ·show cx _ _ bM.F.en
  rw [b.le.fz.en]
  exact a₁.k
 ·cases r with
  | error _=>exact q.elim
  | ok f=>
   obtain ⟨jZ,dC,mI⟩:=q
   have l4:bM.ρ <+: jZ.ρ:=dC.rho
   exact hQ jZ bk s' _ _ o m _ _ ⟨aK.rho.trans (b.le.rho.trans l4),aK.fz.trans (b.le.fz.trans dC.fz),dC.pv.trans aK.pv,dC.gg.trans (b.le.gg.trans aK.gg),dC.tb.trans (b.le.tb.trans aK.tb)⟩ mI (bF l4 b.C) (bF l4 b.acc) (e▸ho) (Nat.le_succ_of_le (Ul aK.rho.length_le (Up a₁.R.len.symm))) rfl
theorem oK(S:cO Z)(CO:ClsOk Z.h₀ Z.X){elt target iter:Expr}{ifs:List Expr}{scope:Scope}{pos:Pos}:Ok (v4 Z.X Z.r c elt target iter ifs scope σ) (SV Z c (eval (.ListComp elt [⟨target,iter,ifs,0⟩] scope pos)) σ):=λ p hp env A W s a=>
 qJ (use:=none) S CO p hp a λ ay bk az i acc o m C D le R hC hD hfr _ e=>rV R hC hfr λ h' R'=>e▸⟨ay,le,.ref _ _ hD,R'⟩
theorem CM(S:cO Z)(CO:ClsOk Z.h₀ Z.X){elt target iter:Expr}{ifs:List Expr}{scope:Scope}{pos tp:Pos}{x:Str}:Ok (v4 Z.X Z.r c elt target iter ifs scope σ) λ p=>Ok (aS c x p.1 p.2) (SU Z c (λ env=>evalThenUse (.ListComp elt [⟨target,iter,ifs,0⟩] scope pos) env (assign (.Name x tp) env)) σ):=λ p hp σ' hst env A W s a=>
 Uj (qJ (use:=some (assign (.Name x tp) env)) S CO p hp a λ ay bk az i acc o m C D le R hC hD hfr hge e=>by
  subst e
  exact a.e▸pN a.ok hge le.rho R hC hD hfr hst λ s' R'=>Uk ⟨ay,le,R'⟩)
end
structure Hk where
 hE:b5->aw->Expr->St->Option (V×St)
 hX:b5->aw->Stmt->St->Option (Fl×St)
structure JC(h₀:Heap)(X:Cx)(H:Hk):Prop where
 oE:∀ n r,X.need<=n->cO ⟨h₀,X,n,r⟩->∀ c e σ,Ok (H.hE r c e σ) λ p=>SV ⟨h₀,X,n+1,r⟩ c (eval e) σ p∧(jf e=true->∀ x tp,Ok (aS c x p.1 p.2) (SU ⟨h₀,X,n+1,r⟩ c (λ env=>evalThenUse e env (assign (.Name x tp) env)) σ))
 oX:∀ n r,X.need<=n->cO ⟨h₀,X,n,r⟩->∀ c t σ,Ok (H.hX r c t σ) (SF ⟨h₀,X,n+1,r⟩ c (exec t) σ)
noncomputable def RE(X:Cx)(r:b5)(c:aw)(e:Expr)(σ:St):Option (V×St):=match e with
 | .ListComp elt gs sc _=>(one gs).bind λ g=>if g.is_async=0 then v4 X r c elt g.target g.iter g.ifs sc σ else none
 | _=>none
noncomputable def Kq(X:Cx)(H:Hk)(r:b5)(c:aw)(e:Expr)(σ:St):Option (V×St):=(H.hE r c e σ).or (if jf e=true then RE X r c e σ else Sb X r c e σ)
noncomputable def Ko(X:Cx)(H:Hk)(r:b5)(c:aw)(t:Stmt)(σ:St):Option (Fl×St):=(H.hX r c t σ).or (R9 X r c t σ)
noncomputable def step(X:Cx)(H:Hk)(r:b5):b5:=⟨Kq X H r,Sa X r,Ko X H r,Sc X r⟩
noncomputable def Jh:b5:=⟨λ _ _ _=>none,λ _ _ _=>none,λ _ _ _=>none,λ _ _ _ _=>none⟩
noncomputable def cy(X:Cx)(H:Hk):Nat->b5
 | 0=>Jh
 | n+1=>step X H (cy X H n)
structure aB(h₀:Heap)(X:Cx)(H:Hk):Prop where
 G:GC h₀ X.glob X.fns
 D:GD h₀ X
 O:∀ n,X.need<=n->j3 h₀ X n
 CO:cI h₀ X
 B:sJ h₀ X
 H:JC h₀ X H
section
variable{h₀:Heap}{n:Nat}{X:Cx}{H:Hk}{r r':b5}{c:aw}
theorem At.up{env A W σ s}(a:At ⟨h₀,X,n+1,r'⟩ c env A W σ s):At ⟨h₀,X,n,r⟩ c env A W σ s:=⟨⟨a.k,bD.le (m:=n) a.a (Nat.le_succ n),a.R⟩,a.ok,a.e⟩
theorem y6{Z:Zx}(S:cO Z)(CO:ClsOk Z.h₀ Z.X)(e:Expr)(σ:St):Ok (RE Z.X Z.r c e σ) λ p=>SV Z c (eval e) σ p∧∀ x tp,Ok (aS c x p.1 p.2) (SU Z c (λ env=>evalThenUse e env (assign (.Name x tp) env)) σ):=by
 cases e with
 | ListComp elt gs sc pos=>
  refine .bind (d9 gs) λ g e=> .ifs λ h p hp=>?_
  obtain ⟨t,i,f,a⟩:=g
  cases h
  subst e
  exact ⟨oK S CO p hp,λ x tp=>CM S CO p hp⟩
 | _=>exact .none
theorem yV(a:aB h₀ X H)(hn:X.need<=n)(S:cO ⟨h₀,X,n,r⟩):cO ⟨h₀,X,n+1,step X H r⟩ where
 E c e σ:= .or ((a.H.oE n r hn S c e σ).mono λ p h env A W s q=>h.1 env A W s ⟨⟨q.k,q.a,q.R⟩,q.ok,q.e⟩) (.ite (λ _=>(y6 S a.CO.toClsOk e σ).mono λ p h env A W s q=>h.1 env A W s q.up) λ _=>(Ky S a.G (a.O n hn) a.CO e σ).mono λ p h env A W s q=>h env A W s q.up)
 T c e σ:=(Kx S (a.O n hn) e σ).mono λ p h env A W s q=>h env A W s q.up
 X c t σ:= .or ((a.H.oX n r hn S c t σ).mono λ p h env A W s q=>h env A W s ⟨⟨q.k,q.a,q.R⟩,q.ok,q.e⟩) ((Kw S a.G a.CO.toClsOk t σ).mono λ p h env A W s q=>h env A W s q.up)
 C f as ks σ:=(Kz S a.G a.D (a.O n hn) a.B f as ks σ).mono λ p h A W s fx xs kx q=>h A W s fx xs kx q.k q.a q.R
 U c e σ x tp hc:= .or ((a.H.oE n r hn S c e σ).mono λ p h σ' hs env A W s q=>h.2 hc x tp σ' hs env A W s ⟨⟨q.k,q.a,q.R⟩,q.ok,q.e⟩) (.ite (λ _=>(y6 S a.CO.toClsOk e σ).mono λ p h σ' hs env A W s q=>h.2 x tp σ' hs env A W s q.up) λ q=>absurd hc q)
theorem CY:cO ⟨h₀,X,n,Jh⟩:=⟨λ _ _ _=> .none,λ _ _ _=> .none,λ _ _ _=> .none,λ _ _ _ _=> .none,λ _ _ _ _ _ _=> .none⟩
theorem aZ(a:aB h₀ X H):∀ n,cO ⟨h₀,X,n+X.need,cy X H n⟩
 | 0=>CY
 | n+1=>by rw [Nat.add_right_comm];exact yV a (Nat.le_add_left _ _) (aZ a n)
end
mutual
noncomputable def z8(ε:Nat->D)(g:Nat->Nat):V->V
 | .d d=> .d (den ε d)
 | .glob v=> .glob v
 | .ref i=> .ref (g i)
 | .tup vs=> .tup (mpVs ε g vs)
 | .rcd c vs=> .rcd c (mpVs ε g vs)
noncomputable def mpVs(ε:Nat->D)(g:Nat->Nat):List V->List V
 | []=>[]
 | v::vs=>z8 ε g v::mpVs ε g vs
end
noncomputable def Ol(ε:Nat->D)(g:Nat->Nat)(m:List (Str×V)):List (Str×V):=m.map λ p=>(p.1,z8 ε g p.2)
noncomputable def Lp(ε:Nat->D)(g:Nat->Nat):AD->AD
 | .seq vs=> .seq (mpVs ε g vs)
 | .dseq d=> .dseq (den ε d)
 | .fro d=> .fro (den ε d)
 | .fields vs=> .fields (mpVs ε g vs)
 | .dict m=> .dict (Ol ε g m)
 | .cell v=> .cell (v.map (z8 ε g))
 | .plain=> .plain
 | .sset l=> .sset l
noncomputable def FO(ε:Nat->D)(g:Nat->Nat)(o:Option AO):Option AO:=o.map λ ao=>⟨ao.cls,ao.dict.map g,Lp ε g ao.data⟩
mutual
theorem iH:∀ d:D,den .var d=d
 | .tup ds=>congrArg D.tup (dens_id ds)
 | .lst ds=>congrArg D.lst (dens_id ds)
 | .var _=>rfl
 | .none=>rfl
 | .bool _=>rfl
 | .int _=>rfl
 | .str _=>rfl
theorem dens_id:∀ ds:List D,dens .var ds=ds
 | []=>rfl
 | d::ds=>(congrArg (·::_) (iH d)).trans (congrArg (d::·) (dens_id ds))
end
section
variable{P:Params}{ρ ρ':List Addr}{fs:List (Addr×Obj)}{ε ε':Nat->D}{g:Nat->Nat}
theorem I4{d:D}{x:Value}(h:DV fs (den ε d) x):DV fs (den .var (den ε d)) x:=(iH (den ε d)).symm▸h
theorem VR.up{v:V}{x:Value}(h:VR ρ ⟨ε,fs⟩ v x):VR ρ ⟨.var,fs⟩ (z8 ε id v) x:=
 VR.rec (ρ:=ρ) (F:=⟨ε,fs⟩) (motive_1:=λ v x _=>VR ρ ⟨.var,fs⟩ (z8 ε id v) x) (motive_2:=λ v x _=>VRs ρ ⟨.var,fs⟩ (mpVs ε id v) x) (λ d x h=> .d _ x (I4 h)) .glob (λ i a h=> .ref i a h) (λ _ xs a n m _ k=> .tup _ xs a n m k) (λ c _ xs a m _ k=> .rcd c _ xs a m k) .nil (λ _ x _ xs _ _ h k=> .cons _ x _ xs h k) h
theorem VRs.up{v:List V}{x:List Value}(h:VRs ρ ⟨ε,fs⟩ v x):VRs ρ ⟨.var,fs⟩ (mpVs ε id v) x:=h.ind (P:=λ v x=>VRs ρ ⟨.var,fs⟩ (mpVs ε id v) x) .nil λ _ x _ xs h _ k=> .cons _ x _ xs h.up k
theorem ER.up{m:List (Str×V)}{es:List DictEntry}(h:ER P ρ ⟨ε,fs⟩ m es):ER P ρ ⟨.var,fs⟩ (Ol ε id m) es:=ER.rec (motive:=λ m es _=>ER P ρ ⟨.var,fs⟩ (Ol ε id m) es) .nil (λ k _ t x _ es h _ k'=> .cons k _ t x _ es h.up k') h
theorem DR.up{a:AD}{x:Data}(h:DR P ρ ⟨ε,fs⟩ a x):DR P ρ ⟨.var,fs⟩ (Lp ε id a) x:=
 DR.casesOn (motive:=λ a x _=>DR P ρ ⟨.var,fs⟩ (Lp ε id a) x) h (λ _ xs n h=> .seq _ xs n h.up) (λ _ ds xs n e h=> .dseq _ ds xs n ((iH _).trans e) h) (λ _ ds xs n e h=> .fro _ ds xs n ((iH _).trans e) h) (λ _ xs h=> .fields _ xs h.up) (λ _ es n h=> .dict _ es n h.up) .cell0 (λ _ x h=> .cell1 _ x h.up) .plain λ l _ h=> .sset l _ h
noncomputable abbrev og(g:Nat->Nat)(ρ ρ':List Addr):Prop:=∀ j a,ρ[g j]?=some a->ρ'[j]?=some a
theorem VR.down(m:og g ρ ρ'){v:V}:∀ {x:Value},VR ρ ⟨.var,fs⟩ (z8 ε' g v) x->VR ρ' ⟨ε',fs⟩ v x:=
 V.rec (motive_1:=λ v=>∀ {x:Value},VR ρ ⟨.var,fs⟩ (z8 ε' g v) x->VR ρ' ⟨ε',fs⟩ v x) (motive_2:=λ vs=>∀ {xs:List Value},VRs ρ ⟨.var,fs⟩ (mpVs ε' g vs) xs->VRs ρ' ⟨ε',fs⟩ vs xs)
  (λ d x h=> .d d x ((iH (den ε' d))▸h.inv)) (λ v x h=>(show v=x from h.inv)▸ .glob v) (λ i x h=>NE.casesOn h.inv λ a e q=>q▸ .ref i a (m i a e))
  (λ vs k x h=>Fo.casesOn h.inv λ xs a n mm hs q=>q▸ .tup vs xs a n mm (k hs)) (λ c vs k x h=>NF.casesOn h.inv λ xs a mm hs q=>q▸ .rcd c vs xs a mm (k hs))
  (λ {xs} h=>(show []=xs from h.inv)▸ .nil) (λ v vs h k xs hh=>oh.casesOn hh.inv λ x ys a b q=>q▸ .cons v x vs ys (h a) (k b)) v
theorem VRs.down(m:og g ρ ρ'){vs:List V}{xs:List Value}(h:VRs ρ ⟨.var,fs⟩ (mpVs ε' g vs) xs):VRs ρ' ⟨ε',fs⟩ vs xs:=by
 induction vs generalizing xs with
 | nil=>exact (show []=xs from h.inv)▸ .nil
 | cons v vs k=>exact oh.casesOn h.inv λ x ys a b q=>q▸ .cons v x vs ys (VR.down m a) (k b)
theorem ER.down(m:og g ρ ρ'){l:List (Str×V)}{es:List DictEntry}(h:ER P ρ ⟨.var,fs⟩ (Ol ε' g l) es):ER P ρ' ⟨ε',fs⟩ l es:=by
 induction l generalizing es with
 | nil=>exact (show []=es from h.inv)▸ .nil
 | cons p l k=>exact NH.casesOn h.inv λ t x ys hx b q=>q▸ .cons p.1 p.2 t x l ys (VR.down m hx) (k b)
theorem DR.down(m:og g ρ ρ'){a:AD}{x:Data}(h:DR P ρ ⟨.var,fs⟩ (Lp ε' g a) x):DR P ρ' ⟨ε',fs⟩ a x:=by
 have k:=h.inv
 cases a with
 | seq vs=>exact Sw.casesOn k λ xs n h q=>q▸ .seq vs xs n (h.down m)
 | dseq d=>exact OG.casesOn k λ ds xs n e h q=>q▸ .dseq d ds xs n ((iH _).symm.trans e) h
 | fro d=>exact OG.casesOn k λ ds xs n e h q=>q▸ .fro d ds xs n ((iH _).symm.trans e) h
 | fields vs=>exact NJ.casesOn k λ xs h q=>q▸ .fields vs xs (h.down m)
 | dict l=>exact NI.casesOn k λ es n h q=>q▸ .dict l es n (h.down m)
 | cell v=>cases v with
  | none=>exact (show Data.cell none=x from k)▸ .cell0
  | some v=>exact let ⟨y,h,q⟩:=k;q▸ .cell1 v y (h.down m)
 | plain=>exact (show Data.plain=x from k)▸ .plain
 | sset l=>exact .sset l _ k
theorem vk(a:AD):(Lp ε g a).isFro=a.isFro:=by cases a<;>rfl
theorem dI.re(m:og g ρ ρ'){h:Heap}{a:Addr}{ao ao':AO}(S:dI P ρ ⟨ε,fs⟩ h a ao)(e:FO ε id (some ao)=FO ε' g (some ao')):dI P ρ' ⟨ε',fs⟩ h a ao':=by
 obtain ⟨o,ho,r,f,n⟩:=S
 obtain ⟨dx,x,hd,hr,q⟩:=r.inv
 obtain ⟨c',d',a'⟩:=ao'
 obtain ⟨e1,e2,e3⟩:=AO.mk.inj (Option.some.inj e)
 have ef:ao.data.isFro=a'.isFro:=(vk _).symm.trans ((congrArg AD.isFro e3).trans (vk _))
 have hd':DO ρ (d'.map g) dx:=e2▸(congrFun Option.map_id ao.dict).symm▸hd
 refine ⟨o,ho,q▸e1▸ .mk _ _ dx _ x ?_ (DR.down m (e3▸hr.up)),λ q=>f (ef.trans q),λ q=>n (ef.trans q)⟩
 cases d' with
 | none=>exact (show none=dx from hd'.inv)▸ .none
 | some i=>exact let ⟨b,h,q⟩:=hd'.inv;q▸ .some i b (m i b h)
end
section
variable{P:Params}{h₀:Heap}{W:Wd}{σ σ':St}{s:Shared}{ε':Nat->D}
theorem ae.re(R:ae P h₀ W σ s){ρ':List Addr}{g:Nat->Nat}(hl:σ'.length=ρ'.length)(nod:ρ'.Nodup)(m:og g W.ρ ρ')(sub:∀ a∈ρ',a∈W.ρ)
  (hσ:∀ (j:Nat) (ao:AO) (a:Addr),σ'[j]?=some (some ao)->ρ'[j]?=some a->∃ (i:Nat) (cM:AO),σ[i]?=some (some cM)∧W.ρ[i]?=some a∧FO W.F.en id (some cM)=FO ε' g (some ao)):ae P h₀ { W with ρ:=ρ',F:=⟨ε',W.F.fs⟩ } σ' s:=
 ⟨hl,nod,λ a h=>R.fr a (sub a h),λ a h=>R.lt a (sub a h),R.fz,λ p hp=>⟨(R.pv p hp).1,λ h=>(R.pv p hp).2.1 (sub _ h),(R.pv p hp).2.2⟩,R.gg,λ j ao a h ha=>
  let ⟨i,cM,h1,h2,e⟩:=hσ j ao a h ha
  (R.slot i cM a h1 h2).re m e,R.old,R.tab⟩
end
noncomputable def u5(ε:Nat->D)(σ:St):List Nat->St->St
 | i::is,o::r=>(o.bind λ _=>FO ε id (σ.at i))::u5 ε σ is r
 | _,_=>[]
noncomputable def DD(n:Nat):List Nat->Bool
 | []=>true
 | i::is=>decide (i<n)&&is.all (λ j=>!Nat.beq i j)&&DD n is
noncomputable def tM(is:List Nat)(n:Nat)(j:Nat):Nat:=is.getD j n
theorem vh{n:Nat}:∀ {is:List Nat},DD n is=true->is.Nodup∧∀ i∈is,i<n
 | [],_=>⟨List.nodup_nil,λ _ h=>nm h⟩
 | i::is,h=>by
  obtain ⟨h1,h2⟩:=Um.mp h
  obtain ⟨h0,h1⟩:=Um.mp h1
  obtain ⟨k1,k2⟩:=vh h2
  exact ⟨List.nodup_cons.mpr ⟨λ hm=>ft ((Bool.not_eq_true' _).mp (List.all_eq_true.mp h1 i hm)▸Nat.beq_refl i:false=true),k1⟩,λ j hj=>(List.mem_cons.mp hj).elim (λ e=>e▸of_decide_eq_true h0) (k2 j)⟩
theorem nC{ε:Nat->D}{σ:St}{f:Option AO->Option AO}:∀ {is:List Nat} {σ':St},u5 ε σ is σ'=σ'.map f->∀ {j i:Nat} {ao:AO},σ'[j]?=some (some ao)->is[j]?=some i->FO ε id (σ.at i)=f (some ao)
 | [],_,_,_,_,_,_,h=>ns h
 | _::_,[],_,_,_,_,h,_=>ns h
 | k::is,o::r,e,j,i,ao,h,hi=>by
  obtain ⟨e1,e2⟩:=List.cons.inj e
  cases j with
  | zero=>
   have h:o=some ao:=Option.some.inj h
   have hi:k=i:=Option.some.inj hi
   rw [h,hi] at e1
   exact e1
  | succ j=>exact nC e2 (j:=j) h hi
noncomputable def bQ(n₀:Nat)(en:Nat->D)(σ:St)(en':Nat->D)(σ':St):Prop:=
 ∃ ex:List Nat,(DD σ.length (List.range n₀++ex)&&Nat.beq (n₀+ex.length) σ'.length)=true∧u5 en σ (List.range n₀++ex) σ'=σ'.map (FO en' (tM (List.range n₀++ex) σ.length))
theorem ae.again{P:Params}{h₀:Heap}{W:Wd}{σ σ':St}{s:Shared}{n₀:Nat}{en':Nat->D}(R:ae P h₀ W σ s)(ag:bQ n₀ W.F.en σ en' σ') :
  ∃ ρ',W.ρ.take n₀ <+: ρ'∧ae P h₀ { W with ρ:=ρ',F:=⟨en',W.F.fs⟩ } σ' s:=by
 obtain ⟨ex,h1,h2⟩:=ag
 obtain ⟨h1,hl⟩:=Um.mp h1
 obtain ⟨nd,lt⟩:=vh h1
 rw [R.len] at lt
 have hn:n₀<=W.ρ.length:=by
  cases n₀ with
  | zero=>exact Nat.zero_le _
  | succ n=>exact lt n (List.mem_append.mpr (.inl (List.mem_range.mpr (Nat.lt_succ_self n))))
 have get:∀ {j i},(List.range n₀++ex)[j]?=some i->W.ρ[i]?=some (ad W.ρ i):=λ h=>by
  have e:=List.getElem?_eq_getElem (lt _ (List.mem_of_getElem? h))
  rw [fm e,e]
 have map:∀ {j i},(List.range n₀++ex)[j]?=some i->((List.range n₀++ex).map (ad W.ρ))[j]?=some (ad W.ρ i):=λ h=>List.getElem?_map.trans (congrArg (Option.map _) h)
 refine ⟨(List.range n₀++ex).map (ad W.ρ),?_,R.re (g:=tM (List.range n₀++ex) σ.length) ?_ ?_ (λ j a h=>?_) (λ a ha=>?_) λ j ao a h ha=>?_⟩
 ·rw [List.map_append]
  refine ⟨ex.map (ad W.ρ),congrArg (·++_) (List.ext_getElem? λ i=>?_)⟩
  rw [List.getElem?_map,List.getElem?_take]
  by_cases q:i<n₀
  ·have e:=List.getElem?_eq_getElem (Nat.lt_of_lt_of_le q hn)
   rw [if_pos q,List.getElem?_range q,e]
   exact congrArg some (fm e).symm
  ·rw [if_neg q,List.getElem?_eq_none (by rw [List.length_range];exact Nat.le_of_not_lt q)];rfl
 ·rw [List.length_map,List.length_append,List.length_range];exact (Nat.eq_of_beq_eq_true hl).symm
 ·refine (List.pairwise_map).mpr (nd.imp_of_mem λ {i j} hi hj hne q=>hne ?_)
  have e:=List.getElem?_eq_getElem (lt i hi)
  have e':=List.getElem?_eq_getElem (lt j hj)
  exact R.inj (e.trans (congrArg some ((fm e).symm.trans q))) (e'.trans (congrArg some (fm e').symm))
 ·cases q:(List.range n₀++ex)[j]? with
  | none=>
   have:tM (List.range n₀++ex) σ.length j=W.ρ.length:=by unfold tM;rw [List.getD_eq_getElem?_getD,q,R.len];rfl
   rw [this,List.getElem?_eq_none (Nat.le_refl _)] at h
   exact M.Internal.ns h
  | some i=>
   have:tM (List.range n₀++ex) σ.length j=i:=by unfold tM;rw [List.getD_eq_getElem?_getD,q];rfl
   rw [this] at h
   exact (map q).trans ((get q).symm.trans h)
 ·obtain ⟨i,hi,e⟩:=List.mem_map.mp ha
  obtain ⟨j,hj⟩:=List.getElem?_of_mem hi
  exact e▸List.mem_of_getElem? (get hj)
 ·cases q:(List.range n₀++ex)[j]? with
  | none=>rw [List.getElem?_map,q] at ha;exact M.Internal.ns ha
  | some i=>
   have e:=nC h2 h q
   obtain ⟨cM,ho,_⟩:=Option.map_eq_some_iff.mp (e:(σ.at i).map _=some _)
   rw [ho] at e
   exact ⟨i,cM,St.at_some ho,(get q).trans ((map q).symm.trans ha),e⟩
noncomputable def Jd(x:Str):List D:=x.cps.toList.map λ c=> .str ⟨#[c]⟩
noncomputable def iq(a:Int)(n:Nat):List D:=(List.range n).map λ (k:Nat)=> .int (a+k)
noncomputable def AC:D->Option (List D)
 | .lst ds=>some ds
 | .str x=>if aR x=true then some (Jd x) else none
 | _=>none
noncomputable def pU:V->Option D
 | .d d=>some d
 | _=>none
noncomputable def dR(en:Nat->D)(v:V):Option (List D):=((pU v).bind λ d=>AC (den en d)).or ((Hz (dens en) v).map λ p=>iq p.1 p.2)
noncomputable def Ki(en:Nat->D)(t:Expr)(v:V):Bool:=t.ctorIdx==23||(t.ctorIdx==25&&(pU v).any λ d=>(den en d).ctorIdx==5)
structure Wd.lf(W W':Wd):Prop where
 rho:W.ρ <+: W'.ρ
 fs:W.F.fs⊆W'.F.fs
 pv:W'.pv=W.pv
 gg:W'.gg=W.gg
 tb:W'.tb.os=W.tb.os
theorem Wd.lf.refl(W:Wd):W.lf W:=⟨List.prefix_refl _,λ _ h=>h,rfl,rfl,rfl⟩
theorem Wd.lf.trans{a b c:Wd}(x:a.lf b)(y:b.lf c):a.lf c:=⟨x.rho.trans y.rho,λ _ h=>y.fs (x.fs h),y.pv.trans x.pv,y.gg.trans x.gg,y.tb.trans x.tb⟩
theorem Wd.le.lf{W W':Wd}(h:W.le W'):W.lf W':=⟨h.rho,h.fz.fs,h.pv,h.gg,h.tb⟩
inductive ku(L:List D):iK->Prop
 | lst:ku L (.lst (.d (.lst L)))
 | str (x:Str):L=Jd x->ku L (.str x)
 | rng (a:Int) (n:Nat):L=iq a n->ku L (.rng a n)
theorem DV.gr{fs:List (Addr×Obj)}{d:D}{x:Value}(h:DV fs d x):gr d=true:=
 DV.rec (motive_1:=λ d _ _=>M.Internal.gr d=true) (motive_2:=λ ds _ _=>grs ds=true) rfl (λ _=>rfl) (λ _ _=>rfl) (λ _ _=>rfl) (λ _ _ _ _ _ _ k=>k) (λ _ _ _ _ _ _ k=>k) rfl (λ _ _ _ _ _ _ h k=>Um.mpr ⟨h,k⟩) h
theorem vK{l:List D}:grs l=true↔∀ d∈l,gr d=true:=by
 induction l with
 | nil=>exact ⟨λ _ _ h=>nm h,λ _=>rfl⟩
 | cons d l ih=>exact ⟨λ h x hx=>by
  cases hx with
  | head=>exact (Um.mp h).1
  | tail _ hx=>exact ih.mp (Um.mp h).2 x hx,λ h=>Um.mpr ⟨h d (.head _),ih.mpr λ x hx=>h x (.tail _ hx)⟩⟩
theorem vJ{α:Type}(f:α->D)(h:∀ a,gr (f a)=true)(l:List α):grs (l.map f)=true:=vK.mpr λ _ hd=>let ⟨_,_,e⟩:=List.mem_map.mp hd;e▸h _
theorem AB{L:List D}{src:iK}(h:ku L src)(σ:St)(k:Nat):lH σ src k=some ((L[k]?).map .d):=by
 cases h with
 | lst=>exact congrArg some List.getElem?_map
 | str x e=>
  subst e
  refine congrArg some ?_
  unfold Jd
  rw [List.getElem?_map,Option.map_map,Array.getElem?_toList]
  rfl
 | rng a n e=>
  subst e
  refine congrArg some ?_
  unfold iq
  rw [List.getElem?_map]
  by_cases h:k<n
  ·rw [List.getElem?_range h,if_pos h];rfl
  ·rw [List.getElem?_eq_none (by simpa using h),if_neg h];rfl
section
variable{h₀:Heap}{W W':Wd}{σ:St}{s:Shared}{A:Around}{L:List D}{src:iK}
theorem aY.lf{k:Nat}{o:Obj}(h:aY W src k o)(hi:ku L src)(hg:grs L=true)(fs:W.F.fs⊆W'.F.fs):aY W' src k o:=by
 cases hi with
 | lst=>cases h with
  | lst v l k o a b c=>cases a with
   | d _ _ a=>
    have e:∀ en,den en (.lst L)= .lst L:=λ en=>congrArg D.lst (dens_gr en L hg)
    exact .lst _ l k o (.d _ _ ((e W'.F.en).symm▸((show DV W.F.fs (.lst L) (.ref l) from e W.F.en▸a).mono fs))) b c
 | str x=>cases h with
  | str _ t k o a b=>exact .str x t k o a b
 | rng a n=>cases h with
  | rng=>exact .rng a n k
inductive Nl(h₀:Heap)(W:Wd)(σ:St)(t:Expr)(L:List D)(y:Value)(s':Shared):Prop
 | mk (src:iK) (h:ku L src) (ht:a6 t src=true) (q:B7 h₀ W σ (aY W src 0) y s')
theorem nq{v:V}{x:Value}{t:Expr}(R:ae w.params h₀ W σ s)(ha:VR W.ρ W.F v x)(htg:Ki W.F.en t v=true):Ok (dR W.F.en v) λ L=>grs L=true ∧
  wpAny (model prog w) A (pyIter x) (λ y s'=>Nl h₀ W σ t L y s') ah s:=by
 have nm:∀ {src},t.ctorIdx=23->a6 t src=true:=λ e=>by unfold a6;rw [e];rfl
 cases v with
 | d d=>
  cases ha with
  | d _ _ hd=>
   refine .or ?_ .none
   show Ok (AC (den W.F.en d)) _
   revert htg
   show (t.ctorIdx==23||(t.ctorIdx==25&&(den W.F.en d).ctorIdx==5))=true->_
   generalize den W.F.en d=e at hd
   intro htg
   cases hd with
   | lst ds xs l m hm hs=>
    have hg:gr (.lst ds)=true:=DV.gr (.lst ds xs l m hm hs)
    have hd:VR W.ρ W.F (.d (.lst ds)) (.ref l):= .d _ _ ((pQ W.F.en (.lst ds) hg).symm▸ .lst ds xs l m hm hs)
    refine .some ⟨hg,aC (rM R (R.fz _ hm).1 λ o a b=> .lst _ l 0 o hd a b) λ y s' q=>⟨_,.lst,?_,q⟩⟩
    rcases Bool.or_eq_true_iff.mp htg with q | q
    ·exact nm (eq_of_beq q)
    ·unfold a6
     rw [(Um.mp q).1]
     simp
   | str y t'=>
    refine .ifs λ hx=> .some ⟨vJ _ (λ _=>rfl) _,aC (rI R hx λ o a b=> .str y t' 0 o a b) λ y s' q=>⟨_,.str _ rfl,?_,q⟩⟩
    rcases Bool.or_eq_true_iff.mp htg with q | q
    ·exact nm (eq_of_beq q)
    ·exact ft (Um.mp q).2
   | _=>exact .none
 | rcd c vs=>
  refine .or .none (.map (uX R ha λ _ _ h=>h) λ p h=>⟨vJ _ (λ _=>rfl) _,aC (rK R h (.rng p.1 p.2 0)) λ y s' q=>⟨_,.rng _ _ rfl,?_,q⟩⟩)
  rcases Bool.or_eq_true_iff.mp htg with q | q
  ·exact nm (eq_of_beq q)
  ·exact ft (Um.mp q).2
 | _=>exact .or .none .none
theorem wO{k:Nat}{it:Addr}{o:Obj}{pv:List (Addr×Obj)}(hs:ku L src)(hA:A.handled=none)(R:ae w.params h₀ { W with pv:=(it,o)::pv } σ s)(hd:∀ p∈pv,p.1≠it)(hi:aY W src k o) :
  wpAny (model prog w) A (pyNext (.ref it)) (NR h₀ W σ src k it pv ((L[k]?).map .d)) ah s:=cS hA R hd hi _ (AB hs σ k)
end
noncomputable abbrev SX:=@PySem.W.X.SegX
section
variable{A:Around}{c:Code}{fs:List Frame}{P:End->Shared->Prop}{s:Shared}{env:Env}
 {K:Flow->Sem Fin} {H:Value->Sem Fin} {gd:Bool->Bool} {lv:List Value->List Value}
theorem CH{α:Type}{M:Model}{m:Sem α}{K:α->Sem Fin}{H:Value->Sem Fin}{gd:Bool->Bool}{lv:List Value->List Value}
  (h:wpAny M (A.over c fs) m (λ a s'=>SX M A c (K a) fs s' P) (λ x s'=>SX M A c (H x) fs s' P) s):SX M A c (m.wrap K H gd lv) fs s P:=by
 rintro Γ p rfl hΓ
 obtain ⟨e,s',hr,hq⟩:=runs_wrap_of_wp (Φ:=λ e s'=>e.quiet=true∧P e s') K H gd lv m (h (Γ.over fs) p (hΓ.over fs)) (λ a p' s' h'=>h' Γ p' rfl hΓ) (λ x p' s' h'=>h' Γ p' rfl hΓ)
 exact ⟨e,s',hr,hq⟩
theorem ni{α:Type}{M:Model}{m:Sem α}{K:α->Sem Fin}{H:Value->Sem Fin}{gd:Bool->Bool}{lv:List Value->List Value}(h:wpAny M (A.over c fs) m (λ a s'=>SX M A c (K a) fs s' P) ah s):SX M A c (m.wrap K H gd lv) fs s P:=
 CH (wpAny_mono h (λ _ _ x=>x) λ _ _ x=>x.elim)
theorem bT{α β:Type}{M:Model}{m:Sem α}{K:α->Sem β}{K':β->Sem Fin}{H':Value->Sem Fin}{gd:Bool->Bool}{lv:List Value->List Value}(h:wpAny M (A.over c fs) m (λ a s'=>SX M A c ((K a).wrap K' H' gd lv) fs s' P) ah s):SX M A c ((m>>=K).wrap K' H' gd lv) fs s P:=by
 rw [Sem.bind_eq_wrap',Sem.wrap_wrap]
 exact ni h
theorem ce{α:Type}{M:Model}{m:Sem α}{K:α->Sem Fin}(h:wpAny M (A.over c fs) m (λ a s'=>SX M A c (K a) fs s' P) ah s):SX M A c (m>>=K) fs s P:=by
 rw [Sem.bind_eq_wrap'];exact ni h
theorem cb{M:Model}{st:Stmt}{rest:List Stmt}
  (h:SX M A c ((exec st env).wrap (λ f=>match f with | .next=>(execs rest env).wrap K H gd lv | f=>K f) H gd lv) fs s P):SX M A c ((execs (st::rest) env).wrap K H gd lv) fs s P:=by
 rw [execs_cons_wrap];exact h
theorem uH{M:Model}{t:Expr}{b o:List Stmt}{p:Pos}(h:wpAny M (A.over c fs) (isTrue t env (eval t env)) (λ x s'=>SX M A c ((execs (if x then b else o) env).wrap K H gd lv) fs s' P) ah s) :
  SX M A c ((exec (.If t b o p) env).wrap K H gd lv) fs s P:=by
 rw [exec_If]
 refine bT (wpAny_standAt (bT (aC h λ x s' q=>?_)))
 cases x with
 | true=>exact q
 | false=>exact q
noncomputable def FS(t:Expr)(it:Value)(body:List Stmt)(env:Env):Flow->Sem Fin
 | .next=> .pure (.again (.forLoop t it body [] env))
 | .cont=> .pure (.again (.forLoop t it body [] env))
 | .brk=> .pure (.done .next)
 | .ret v=> .pure (.done (.ret v))
theorem fy{t:Expr}{it:Value}{body:List Stmt}
  (h:wpAny (model prog w) (A.over (.forLoop t it body [] env) fs) (pyNext it) (λ r ac=>match r with
   | none=>SX (model prog w) A (.block [] env) (leafOf (.ok .next)) fs ac P
   | some v=>wpAny (model prog w) (A.over (.forLoop t it body [] env) fs) (letOwnedTupleGo t it v) (λ _ az=>wpAny (model prog w) (A.over (.forLoop t it body [] env) fs) (assign t env v) (λ _ a8=>
     ∀ H:Value->Sem Fin,SX (model prog w) A (.forLoop t it body [] env) ((execs body env).wrap (FS t it body env) H id id) fs a8 P) ah az) ah ac) ah s) :
  SX (model prog w) A (.forLoop t it body [] env) (denote table (.forLoop t it body [] env)) fs s P:=by
 show SX _ A _ ((forTurn t it body [] env).onRaise (λ x=>do noteFrame x env;theTreesLotGoes x)) fs s P
 unfold forTurn
 rw [Sem.onRaise_eq_wrap]
 refine bT (wpAny_standAt (bT (wpAny_onRaise (wpAny_mono h (λ r ac q=>?_) λ _ _ x=>x.elim))))
 cases r with
 | none=>exact X.s_again _ _ _ _ _ _ _ _ rfl q
 | some v=>
  refine bT (aC q λ _ az jK=>bT (aC jK λ _ a8 tG=>?_))
  rw [Sem.bind_eq_wrap',Sem.wrap_wrap]
  rw [Sem.wrap_congr (execs body env) _ _ (K':=FS t it body env) (λ f=>by cases f<;>rfl) (λ e=>rfl)]
  exact tG _
theorem yC{t e:Expr}{body:List Stmt}{p:Pos}
  (hset:∀ x,foldedSetIterable e env x=pure x)
  (h:wpAny (model prog w) (A.over c fs) (eval e env) (λ x ac=>wpAny (model prog w) (A.over c fs) (pyIter x) (λ it az=>
   ∀ (k:Result->Sem Fin) p,(∀ (s':Shared) (P':End->Shared->Prop),SX (model prog w) A c (K .next) fs s' P'->SX (model prog w) A c (k (.ok .next)) fs s' P') ->
    SX (model prog w) A (.forLoop t it body [] env) (denote table (.forLoop t it body [] env)) (.ret k none (gd false) (lv []) c p []::fs) az P) ah ac) ah s) :
  SX (model prog w) A c ((exec (.For t e body [] p) env).wrap K H gd lv) fs s P:=by
 rw [exec_For]
 refine bT (wpAny_standAt (bT (aC h λ x ac q=>?_)))
 refine bT (wpAny_of_eq (hset x) (bT (wpAny_standAt (bT (Uo (aC q λ it az jK=>?_))))))
 exact X.s_call _ _ _ _ _ _ _ _ _ _ _ _ λ p'=>jK _ p' λ s' _ hs=>hs
theorem uG{body:List Stmt}
  (h:SX (model prog w) A (.func body env) ((execs body env).wrap (λ f=> .pure (.done (.ret (match f with | .ret v=>v | _=> .none))))
   (λ e=>(leaving env e).wrap (λ _=> .raise e) .raise id id) id id) fs s P) :
  SX (model prog w) A (.func body env) (denote table (.func body env)) fs s P:=by
 show SX _ A _ (.point [] λ _=>((execs body env).onRaise (leaving env))>>=_) fs s P
 refine X.s_skim _ _ _ _ _ _ _ _ 1 ?_
 show SX _ A _ (((execs body env).onRaise (leaving env))>>=_) fs s P
 rw [Sem.onRaise_eq_wrap,Sem.bind_eq_wrap',Sem.wrap_wrap]
 rw [Sem.wrap_congr (execs body env) _ _ (K':=λ f=> .pure (.done (.ret (match f with | .ret v=>v | _=> .none))))
  (H':=λ e=>(leaving env e).wrap (λ _=> .raise e) .raise id id) (λ f=>by cases f<;>rfl)
  (λ e=>by rw [Sem.bind_eq_wrap,Sem.wrap_wrap];rfl)]
 exact h
inductive Jw(s:Shared)(h':Heap)(e:Addr):Prop
 | mk (o:Obj) (t:Addr) (ho:h'.get? e=some o) (hc:o.cls= .type "StopIteration") (hd:o.data= .fields #[.ref t,.none,.none,.none,.bool false,.none]) (k:∀ b o,s.heap.get? b=some o->h'.get? b=some o) (hz:s.heap.objs.size<=h'.objs.size)
theorem iT{M:Model}{E:Value->Shared->Prop}{Q:Value->Shared->Prop}(h:∀ h' e,Jw s h' e->Q (.ref e) { s with heap:=h' }):wpAny M A (newExc (.type "StopIteration") []) Q E s:=by
 simp only [newExc,newTuple]
 refine Uj (wpAny_newObj_type ?_ (by size_fits))
 refine Uj (m:=firstArgMember _ _) (wpAny_of_eq (a:=Value.none) (by first | rfl | (simp only [firstArgMember];rfl)) ?_)
 refine wpAny_newObj_type (h _ _ ⟨_,_,Heap.get?_push_size _ rfl,rfl,rfl,λ b o hb=>Heap.get?_push_of_some _ (Heap.get?_push_of_some _ hb),?_⟩) (by size_fits)
 rw [Heap.size_push,Heap.size_push]
 exact Ul (Nat.le_succ _) (Nat.le_succ _)
noncomputable def Fv(gs:GenState):Option (Code×Sem Fin×List Frame):=match gs with
 | .fresh c=>some (c,denote table c,[])
 | .suspended k _ c _ fs _=>some (c,k (.send .none),fs)
 | _=>none
noncomputable def lw(Y:Value->GenState->Shared->Prop)(Z:Shared->Prop):End->Shared->Prop:=λ e s=>match e with
 | .susp v g l k c p fs=>Y v (.suspended k l c p fs (g||fs.any Frame.guarded)) s
 | .ret (.ok (.ret .none))=>Z s
 | _=>False
theorem tD{M:Model}{β:Type}{st:GenStatus}{k:PUnit->Sem β}{E:Value->Shared->Prop}{Q:β->Shared->Prop}(h:st= .fresh∨st= .suspended)(hl:s.heap.NoLimit)(hroom:A.depth<recursionLimit)(hk:wpAny M A.in1 (k ⟨⟩) Q E s) :
  wpAny M A.in1 (match st with | .fresh=>roomToWake>>=k | .suspended=>roomToWake>>=k | _=>pure ⟨⟩>>=k) Q E s:=by
 rcases h with h | h<;>subst h<;>exact Uj (wpAny_roomToWake hl hroom hk)
theorem uZ{a:Addr}{g:Nat}{gs:GenState}{c₀:Code}{t₀:Sem Fin}{fs₀:List Frame}{Q:Option Value->Shared->Prop}{Y:Value->GenState->Shared->Prop}{Z:Shared->Prop}{E:Value->Shared->Prop}(hh:A.handled=none)
  (hl:s.heap.NoLimit) (hroom:A.depth<recursionLimit) (hg:s.heap.IsGen a g) (hgs:s.gens[g]?=some gs) (hw:Fv gs=some (c₀,t₀,fs₀))
  (hrun:SX (model prog w) A.in1 c₀ t₀ fs₀ (s.setGen g .running) (lw Y Z))
  (hY:∀ v ac gs',Y v gs' ac->Q (some v) (ac.setGen g gs'))
  (hZ:∀ ac,Z ac->∀ h',ac.heap.objs.size<=h'.objs.size->(∀ b o,ac.heap.get? b=some o->h'.get? b=some o)->Q none { ac.setGen g .finished with heap:=h' }) :
  wpAny (model prog w) A (pyNext (.ref a)) Q E s:=by
 unfold pyNext
 refine Uj (wpAny_attempt (wpAny_callSpecial?_slot (name:=Str.ofString "__next__") hg.typeIs slot_gen_next
  (wpAny_call_entry slot_gen_next hg.typeIs entry_gen_next ?_ (args_gen_next _))))
 show wpAny _ _ (Builtin.Generator.genWake (.ref a) (.send .none)) _ _ s
 unfold Builtin.Generator.genWake
 refine Uj (Uo (wpAny_genNumber hg (Uj (wpAny_genState hgs ?_))))
 have key:∀ {α:Type} {k:GenResult->Sem α} {Q':α->Shared->Prop} {E':Value->Shared->Prop},
   (∀ e ac,lw Y Z e ac->wpAny (model prog w) A.in1 (k e.result) Q' E' (ac.setGen g e.genState))->wpAny (model prog w) A.in1 (.resume g (.send .none) [] k) Q' E' s:=by
  intro α k Q' E' hk Γ p hΓ
  refine X.wake_any α prog w (A:=A.in1) (c₀:=c₀) (t₀:=t₀) (fs₀:=fs₀) hgs ?_ (λ Γ=>Γ.In A.in1) (λ _ h=>h) (hrun.mono λ e ac he Γ p hC=>hk e ac he Γ p hC) Γ p hΓ
  cases gs with
  | fresh c=>cases hw;exact .inl ⟨rfl,rfl,rfl,rfl⟩
  | suspended k l c p fs cl=>cases hw;exact .inr ⟨k,l,p,cl,rfl,rfl⟩
  | running=>cases hw
  | finished=>cases hw
 refine tD (st:=gs.status) (by cases gs<;>first | exact .inl rfl | exact .inr rfl | exact ns hw) hl hroom ?_
 show wpAny _ _ (.resume g (.send .none) [] _) _ _ s
 refine key λ e ac he=>?_
 cases e with
 | susp v gd l k c p fs=>exact Uk ⟨v,rfl,Uk (hY v ac _ he)⟩
 | ret r=>
  cases r with
  | error x=>exact he.elim
  | ok f=>
   cases f with
   | ret x=>
    cases x with
    | none=>
     show wpAny _ _ (newExc (.type "StopIteration") []>>=_) _ _ _
     refine Uj (iT λ h' x st=>Uj (wpAny_raiseNew_none hh ?_))
     obtain ⟨o,t,ho,hc,_,k,hz⟩:=st
     exact Uj (wpAny_isInstance (T := "StopIteration") (b:=true) ⟨o,ho,hc⟩ isSubtype_stop (Uk (hZ ac he _ hz k)))
    | _=>exact he.elim
   | _=>exact he.elim
end
section
variable{P:Params}{h₀:Heap}{W:Wd}{σ:St}{s:Shared}
noncomputable def oY(h₀ h:Heap)(own:List Addr):List (Addr×Obj):=(List.range h.objs.size).filterMap λ b=>if (own.contains b||(h₀.get? b).isSome)=true then none else (h.get? b).map λ o=>(b,o)
theorem gA{h₀ h:Heap}{own:List Addr}{p:Addr×Obj}:p∈oY h₀ h own↔p.1∉own∧h₀.get? p.1=none∧h.get? p.1=some p.2:=by
 have cond:∀ b,¬(own.contains b||(h₀.get? b).isSome)=true↔b∉own∧h₀.get? b=none:=λ b=>by simp
 refine List.mem_filterMap.trans ⟨λ ⟨b,_,e⟩=>?_,λ ⟨h1,h2,h3⟩=>⟨p.1,List.mem_range.mpr (Heap.lt_size h3),(if_neg ((cond _).mpr ⟨h1,h2⟩)).trans (congrArg (Option.map λ o=>(p.1,o)) h3)⟩⟩
 exact (show Ok _ λ p:Addr×Obj=>p.1∉own∧h₀.get? p.1=none∧h.get? p.1=some p.2 from .ifn λ hc=> .map .self λ o ho=>⟨((cond b).mp hc).1,((cond b).mp hc).2,ho⟩) p e
structure mQ(P:Params)(h₀:Heap)(tb:Tb)(s:Shared):Prop where
 old:∀ b o,h₀.get? b=some o->b≠b8->s.heap.get? b=some o
 tab:s.heap.get? b8=some (PySem.W.X.tableObj tb.t)∧(∃ o,h₀.get? b8=some o)∧s.os=tb.os
theorem ae.raw(R:ae P h₀ W σ s):mQ P h₀ W.tb s:=⟨R.old,R.tab⟩
end
noncomputable def Aw{α:Type}(l:List α):Option (α×List α):=if l.length<=1048576 then l.getLast?.map λ a=>(a,l.dropLast) else none
noncomputable def HG(a:AD):Option (V×AD):=match a with
 | .dseq d=>(Br d).bind λ ds=>(Aw ds).map λ p=>(.d p.1,.dseq (.lst p.2))
 | .seq vs=>(Aw vs).map λ p=>(p.1,.seq p.2)
 | _=>none
noncomputable def KC:AD->Option (List V)
 | .seq vs=>some vs
 | _=>none
noncomputable def zn(σ:St)(v:V):Option Nat:=(f9 v).bind λ i=>(jM σ i).bind λ a=>(KC a).bind λ vs=>if vs.length<=1048576 then some vs.length else none
noncomputable def three{α:Type}:List α->Option (α×α×α)
 | [a,b,c]=>some (a,b,c)
 | _=>none
noncomputable def FP(id:String):Option Nat:=if id = "list.index" then some 1 else if id = "str.join" then some 2 else if id = "str.split" then some 3 else if id = "sorted" then some 4 else none
noncomputable def Aa(K:bK)(O:eI)(m:Nat)(as:List V)(σ:St):Option (V×St):=((fK σ as).bind λ ds=>kO K O (.meth m) ds).map λ d=>(.d d,σ)
noncomputable def BE(K:bK)(O:eI)(X:Cx)(id:String)(as:List V)(σ:St):Option (V×St):=
 if id = "list.append" then (two as).bind λ p=>(f9 p.1).bind λ i=>(lU X X.frz i p.2 σ).map λ σ'=>(.d .none,σ')
 else if id = "len" then (one as).bind λ v=>(((fY σ v).bind λ d=>kO K O .len [d]).map λ d=>(.d d,σ)).or ((zn σ v).map λ (n:Nat)=>(V.d (D.int (n:Int)),σ))
 else if id = "list.insert" then (three as).bind λ p=>(f9 p.1).bind λ i=>(pU p.2.1).bind λ k=>(pU p.2.2).bind λ x=>(jM σ i).bind λ a=>(vU a).bind λ d=>(kO K O .ins [d,k,x]).map λ d'=>(.d .none,ig σ i (.dseq d'))
 else if id = "list.pop" then (one as).bind λ v=>(f9 v).bind λ i=>((jM σ i).bind HG).map λ p=>(p.1,ig σ i p.2)
 else (FP id).bind λ m=>Aa K O m as σ
noncomputable def yi(K:bK)(O:eI)(id:String)(as:List V)(σ:St):Option (V×St):=
 if id = "range" then ((one as).bind λ v=>(pU v).bind λ n=>(kO K O .isI [n]).map λ _=>(.rcd "range" [.d (.int 0),.d n,.d (.int 1)],σ)).or
  ((two as).bind λ p=>(pU p.1).bind λ a=>(pU p.2).bind λ b=>(kO K O .isI [a]).bind λ _=>(kO K O .isI [b]).map λ _=>(.rcd "range" [.d a,.d b,.d (.int 1)],σ))
 else if id = "str" then Aa K O 5 as σ
 else none
theorem u4(xs:List Value)(y:Value):(xs++[y]).toArray.eraseIdxIfInBounds xs.length=xs.toArray:=by
 unfold Array.eraseIdxIfInBounds
 rw [dif_pos (by simp)]
 apply Array.ext'
 simp
 induction xs with
 | nil=>rfl
 | cons x xs ih=>simp [ih]
set_option maxHeartbeats 2000000 in
theorem w5(l:Addr)(xs:List Value)(y:Value)(n:Nat)(hsz:(xs++[y]).length<=1048576) :
  Meets (Builtin.«list.pop» ⟨[.ref l],[]⟩) (λ _ R s=>s.heap.get? l=some { cls:= .type "list",dict:=none,data:= .seq (xs++[y]).toArray n,slots:=#[] } ∧
   R (.ok (.ret y)) { s with heap:=s.heap.update l (Obj.mapSeq (·.eraseIdxIfInBounds xs.length)),toks:=s.toks }):=
 .of_wp λ prog w A R s h=>by
  obtain ⟨hp,g,d,tk,os⟩:=s;obtain ⟨hl,h⟩:=h
  have hs1:((xs++[y]).toArray).size<=sizeLine:=by rw [List.size_toArray,sizeLine_eq];omega
  have hz':((λ x:Array Value=>x.eraseIdxIfInBounds xs.length) (xs++[y]).toArray).size<=sizeLine+1:=by
   show ((xs++[y]).toArray.eraseIdxIfInBounds xs.length).size<=sizeLine+1
   rw [u4,List.size_toArray,sizeLine_eq]
   simp at hsz;omega
  have he:((xs++[y]).toArray).isEmpty=false:=by simp
  have hi:(seqIndex? (-1) (xs++[y]).toArray.size).bind (λ k=>(xs++[y]).toArray[k]?.map (k,·))=some (xs.length,y):=by
   unfold seqIndex?
   simp
   rw [if_pos (by omega)]
   have:(-1+((xs.length:Int)+1)).toNat=xs.length:=by omega
   rw [this];simp
  wp_walk using wpAny_loadPart' hl
  rw [hi]
  wp_walk using (wpAny_updateSeq hl rfl (hz:=hs1) (_hz':=hz'))
  exact ⟨_,rfl,h⟩
section
variable{h₀:Heap}{n:Nat}{X:Cx}{W:Wd}{σ:St}{s:Shared}{A:Around}
theorem rD{α:Type}(l:List α):Ok (Aw l) λ p=>l=p.2++[p.1]∧l.length<=1048576:= .ifs λ h=> .map .self λ a e=>⟨by
 obtain ⟨ys,rfl⟩:=List.getLast?_eq_some_iff.mp e
 simp,h⟩
theorem Db(a:AD):Ok (KC a) λ vs=>a= .seq vs:=by cases a<;>first | exact .none | exact .some rfl
theorem yv{α:Type}:∀ l:List α,Ok (three l) λ p=>l=[p.1,p.2.1,p.2.2]
 | []=> .none
 | [_]=> .none
 | [_,_]=> .none
 | [_,_,_]=> .some rfl
 | _::_::_::_::_=> .none
theorem om:∀ l:List V,Ok (two l) λ p=>l=[p.1,p.2]
 | []=> .none
 | [_]=> .none
 | [_,_]=> .some rfl
 | _::_::_::_=> .none
theorem hJ(v:V):Ok (pU v) λ d=>v= .d d:=by cases v<;>first | exact .none | exact .some rfl
inductive Su(W:Wd)(v:V):List Value->Prop
 | mk (x:Value) (h:VR W.ρ W.F v x):Su W v [x]
theorem VRs.one{v:V}{xs:List Value}(h:VRs W.ρ W.F [v] xs):Su W v xs:=by cases h with | cons _ x _ _ h hs=>cases hs;exact ⟨x,h⟩
inductive Ss(W:Wd)(v u:V):List Value->Prop
 | mk (x y:Value) (h:VR W.ρ W.F v x) (k:VR W.ρ W.F u y):Ss W v u [x,y]
theorem VRs.two{v u:V}{xs:List Value}(h:VRs W.ρ W.F [v,u] xs):Ss W v u xs:=by cases h with | cons _ x _ _ h hs=>obtain ⟨y,k⟩:=hs.one;exact ⟨x,y,h,k⟩
theorem Bo(R:ae w.params h₀ W σ s){vs:List V}{xs:List Value}(h:VRs W.ρ W.F vs xs):Ok (fK σ vs) λ ds=>ws s.heap W.F.fs (dens W.F.en ds) xs:=
 h.ind (P:=λ vs xs=>Ok (fK σ vs) λ ds=>ws s.heap W.F.fs (dens W.F.en ds) xs) (.some .nil) λ _ _ _ _ h _ ih=> .bind (dA R h) λ _ h1=> .map ih λ _ h2=> .cons _ _ _ _ h1 h2
theorem vo(O:j3 h₀ X n){m:Nat}(hm:m≠6)(k:cx X.K X.O W.F.en)(hA:bD 0 A)(R:ae w.params h₀ W σ s){as:List V}{xs:List Value}(hx:VRs W.ρ W.F as xs):Ok (Aa X.K X.O m as σ) λ p=>wpAny (model prog w) A (gE m xs) (PV h₀ W p.1 p.2) ah s:=
 .map (.bind (Bo R hx) λ ds h=>(cj k).mono λ d e=>O.meth m _ hm _ e _ _ _ _ _ hA R h) λ d z=>PD.go z d rfl
theorem CS{d:D}{x:Value}(R:ae w.params h₀ W σ s)(hv:HV s.heap W.F.fs d x):Ok (DN d) λ m=>wpAny (model prog w) A (call (.builtin "len") [x] []) (PD h₀ W (.int m) σ) ah s:=by
 cases hv with
 | lst ds xs l q ho hs=>exact .ifs λ hz=> .some (hs.length▸len_list (au ho) (by rw [List.size_toArray,← hs.length];rw [sizeLine_eq] at hz;omega) (.here (.int _ _) (R.toks _)))
 | tup ds xs l q ho hs=>exact .ifs λ hz=> .some (hs.length▸len_tuple (je ho) (by rw [List.size_toArray,← hs.length];rw [sizeLine_eq] at hz;omega) (.here (.int _ _) (R.toks _)))
 | str y t=>exact .ifs λ hz=> .some (P.len_str (by rw [sizeLine_eq] at hz;omega) (.here (.int _ _) (R.toks _)))
 | _=>exact .none
theorem D9{F:List (Addr×Obj)}{d:D}{x:Value}(hx:DV F d x)(k:Nat):∀ {ds:List D} {xs:List Value},DVs F ds xs->DVs F (ds.take k++d::ds.drop k) (xs.take k++x::xs.drop k):=by
 induction k with
 | zero=>exact λ h=> .cons _ _ _ _ hx h
 | succ k ih=>
  intro ds xs h
  cases h with
  | nil=>exact .cons _ _ _ _ hx .nil
  | cons v y vs ys h1 h2=>exact .cons _ _ _ _ h1 (ih h2)
inductive BU(W:Wd)(vs:List V)(v:V):List Value->Prop
 | mk (ys:List Value) (y:Value) (h:VRs W.ρ W.F vs ys) (k:VR W.ρ W.F v y):BU W vs v (ys++[y])
theorem VRs.snoc_inv{v:V}:∀ {vs:List V} {xs:List Value},VRs W.ρ W.F (vs++[v]) xs->BU W vs v xs
 | [],xs,h=>let ⟨x,h⟩:=h.one;⟨[],x,.nil,h⟩
 | e::ds,xs,h=>by
  cases h with
  | cons _ x _ xs h hs=>
   obtain ⟨ys,y,h1,h2⟩:=VRs.snoc_inv hs
   exact ⟨x::ys,y,.cons _ _ _ _ h h1,h2⟩
theorem qX{i:Nat}{a a':AD}{vs:List V}{v:V}{x:Value}(R:ae w.params h₀ W σ s)(ho:x4 W σ s i a x)(hz:(vs++[v]).length<=1048576)(h1:∀ {xs m},DR w.params W.ρ W.F a (.seq (xs:List Value).toArray m)->VRs W.ρ W.F (vs++[v]) xs)
  (h2:∀ {ys m},VRs W.ρ W.F vs ys->DR w.params W.ρ W.F a' (.seq (ys:List Value).toArray m)) (hnf:a'.isFro=false):wpAny (model prog w) A (call (.builtin "list.pop") [x] []) (PV h₀ W v (ig σ i a')) ah s:=by
 obtain ⟨l,xs,m,e,hi,hg,hr,hl⟩:=ho
 subst e
 have hv:=h1 hr
 rw [hv.length] at hz
 obtain ⟨ys,y,q1,q2⟩:=hv.snoc_inv
 exact call_meets PySem.F.slot_list_pop (au hg).typeIs PySem.F.entry_list_pop (PySem.F.args_list_pop_1 _) (w5 l ys y m hz) ⟨hg,W,.refl W,q2,R.updL hi hl hg (u4 ys y) (λ m'=>h2 q1) _ hnf⟩
theorem HF{i:Nat}{a:AD}{x:Value}(R:ae w.params h₀ W σ s)(ho:x4 W σ s i a x):Ok (HG a) λ p=>wpAny (model prog w) A (call (.builtin "list.pop") [x] []) (PV h₀ W p.1 (ig σ i p.2)) ah s:=by
 cases a with
 | dseq d=>
  refine .bind (lj d) λ ds e=> .map (rD ds) λ p ⟨e',hz⟩=>?_
  subst e
  have hm:ds.map V.d=p.2.map .d++[.d p.1]:=(congrArg (List.map V.d) e').trans List.map_append
  refine qX R ho (hm▸(List.length_map (f:=V.d)).symm▸hz) (λ h=>hm▸?_) (λ h=> .dseq _ _ _ _ rfl h.data) rfl
  obtain ⟨es,q,hs⟩:=h.dseq_inv
  cases q
  exact hs.toVRs
 | seq vs=>exact .map (rD vs) λ p ⟨e,hz⟩=>qX R ho (e▸hz) (λ h=>e▸h.seq_inv) (λ h=> .seq _ _ _ h) rfl
 | _=>exact .none
inductive GI(a b c e:D):Prop
 | mk (ds:List D) (i:Int) (h1:a= .lst ds) (h2:b= .int i) (h3:0<=i) (h4:i<=ds.length) (h5:ds.length<=sizeLine) (h6:e= .lst (ds.take i.toNat++c::ds.drop i.toNat))
theorem Ir(a b c:D):Ok (LZ a b c) (GI a b c):=by
 cases a with
 | lst ds=>cases b with
  | int i=>exact .ifs λ h=> .some ⟨ds,i,rfl,rfl,h.1,h.2.1,h.2.2,rfl⟩
  | _=>exact .none
 | _=>exact .none
theorem CV{i:Nat}{d k u e:D}{x y z:Value}(R:ae w.params h₀ W σ s)(ho:x4 W σ s i (.dseq d) x)(hy:VR W.ρ W.F (.d k) y)(hz:VR W.ρ W.F (.d u) z)(h:GI (den W.F.en d) (den W.F.en k) (den W.F.en u) (den W.F.en e)) :
  wpAny (model prog w) A (call (.builtin "list.insert") [x,y,z] []) (PV h₀ W (.d .none) (ig σ i (.dseq e))) ah s:=by
 obtain ⟨l,xs,m,ex,hi,hg,hr,hl⟩:=ho
 subst ex
 obtain ⟨ds,j,e1,e2,e3,e4,e5,e6⟩:=h
 obtain ⟨es,q,hs⟩:=hr.dseq_inv
 cases e1.symm.trans q
 cases hy with
 | d _ _ hy=>cases hz with
  | d _ _ hz=>
   rw [e2] at hy
   cases hy with
   | int _ t=>
    rw [hs.length] at e4 e5
    refine call_meets PySem.F.slot_list_insert (au hg).typeIs PySem.F.entry_list_insert (PySem.F.args_list_insert_3 _ _ _) (PySem.AutoListH.list_insert_list_int_val_1 l xs.toArray m j t z ?_ (by rw [List.size_toArray];exact e5)) ⟨hg,W,.refl W,.mkNone,R.updL hi hl hg (ys:=xs.take j.toNat++z::xs.drop j.toNat) ?_ (λ m'=> .dseq _ _ _ m' e6 (D9 hz j.toNat hs)) _⟩
    ·rw [sizeLine_eq] at e5
     simp [fitsIndex_of e3 (by omega)]
    ·have h1:¬ j<0:=by omega
     have h2:min j.toNat xs.length=j.toNat:=by omega
     simp [h1,h2]
     exact List.take_of_length_le (by simp)
theorem Iq{a:D}:Ok (AJ a) λ _=>∃ i,a= .int i:=by cases a<;>first | exact .none | exact .some ⟨_,rfl⟩
theorem oF{d:D}{x:Value}(k:cx X.K X.O W.F.en)(hx:VR W.ρ W.F (.d d) x):Ok (kO X.K X.O .isI [d]) λ _=>∃ i t,x= .int i t:=(cj k).mono λ z h=>by
 obtain ⟨i,e⟩:=Iq _ (show AJ (den W.F.en d)=some (den W.F.en z) from h)
 cases hx with
 | d _ _ q=>
  rw [e] at q
  cases q with
  | int _ t=>exact ⟨i,t,rfl⟩
theorem ze(O:j3 h₀ X n)(id:String)(as:List V)(σ:St):Ok (BE X.K X.O X id as σ) λ p=>∀ W s A xs,cx X.K X.O W.F.en->bD 0 A->ae w.params h₀ W σ s->VRs W.ρ W.F as xs->wpAny (model prog w) A (call (.builtin id) xs []) (PV h₀ W p.1 p.2) ah s:=by
 refine .ite (λ e=> .bind (om as) λ p ea=> .bind (bh p.1) λ i ei=> .map .self λ σ' h W s A xs k hA R hx=>?_) λ _=> .ite (λ e=> .bind (d9 as) λ v ea=> .or (.map .self λ d h W s A xs k hA R hx=>?_) (.map .self λ m h W s A xs k hA R hx=>?_))
  λ _=> .ite (λ e=> .bind (yv as) λ p ea=> .bind (bh p.1) λ i ei=> .bind (hJ p.2.1) λ dk ek=> .bind (hJ p.2.2) λ du eu=> .bind .self λ a ha=> .bind (mw a) λ d ed=> .map .self λ e' h W s A xs k hA R hx=>?_)
  λ _=> .ite (λ e=> .bind (d9 as) λ v ea=> .bind (bh v) λ i ei=> .map .self λ q h W s A xs k hA R hx=>?_) λ _=> .bind .self λ m hm p h W s A xs k hA R hx=>?_
 ·subst e ea
  rw [ei] at hx
  obtain ⟨x,y,h1,h2⟩:=hx.two
  exact lI k R h1 h2 _ h
 ·subst e ea
  obtain ⟨x,h1⟩:=hx.one
  have:Ok ((fY σ v).bind λ d=>kO X.K X.O .len [d]) λ d=>wpAny (model prog w) A (call (.builtin "len") [x] []) (PV h₀ W (.d d) σ) ah s:=
   .bind (dA R h1) λ d hv=>(cj k).mono λ d' h=>by
    obtain ⟨m,hm,e⟩:=Option.map_eq_some_iff.mp (show (DN (den W.F.en d)).map (λ (n:Nat)=>D.int n)=some (den W.F.en d') from h)
    exact PD.go (e▸CS R hv m hm) d' rfl
  exact this d h
 ·subst e ea
  obtain ⟨x,h1⟩:=hx.one
  have:Ok (zn σ v) λ m=>wpAny (model prog w) A (call (.builtin "len") [x] []) (PV h₀ W (.d (.int m)) σ) ah s:=
   .bind (bh v) λ i ei=> .bind (d7 R (x:=x) (ei▸h1)) λ a ⟨l,ys,q,e,_,hg,hr,_⟩=> .bind (Db a) λ vs ea=> .ifs λ hz=> .some (by
    subst ea e
    have hl:=hr.seq_inv.length
    exact hl▸len_list (items:=ys.toArray) (au hg) (by rw [List.size_toArray,← hl];omega) (.here (.mkInt _ _) (R.toks _)))
  exact this m h
 ·subst e ea ed
  rw [ei,ek,eu] at hx
  cases hx with
  | cons _ x _ xs hx hs=>
   obtain ⟨y,z,hy,hz⟩:=hs.two
   exact CV R (d7 R hx _ ha) hy hz (Ir _ _ _ _ (cj k _ h))
 ·subst e ea
  rw [ei] at hx
  obtain ⟨x,h1⟩:=hx.one
  exact (show Ok ((jM σ i).bind HG) _ from .bind (d7 R h1) λ a ho=>HF R ho) q h
 ·have:Ok (FP id) λ m=>m≠6∧gE m xs=call (.builtin id) xs []:= .ite (λ e=> .some ⟨by decide,e▸rfl⟩) λ _=> .ite (λ e=> .some ⟨by decide,e▸rfl⟩) λ _=> .ite (λ e=> .some ⟨by decide,e▸rfl⟩) λ _=> .ifs λ e=> .some ⟨by decide,e▸rfl⟩
  exact (this m hm).2▸vo O (this m hm).1 k hA R hx p h
theorem yT(O:j3 h₀ X n)(id:String)(as:List V)(σ:St):Ok (yi X.K X.O id as σ) λ p=>∀ W s A xs,cx X.K X.O W.F.en->bD 0 A->ae w.params h₀ W σ s->VRs W.ρ W.F as xs->wpAny (model prog w) A (call (.type id) xs []) (PV h₀ W p.1 p.2) ah s:=by
 refine .ite (λ e=> .or (.bind (d9 as) λ v ea=> .bind (hJ v) λ d ed=> .map .self λ z h W s A xs k hA R hx=>?_) (.bind (om as) λ p ea=> .bind (hJ p.1) λ a e1=> .bind (hJ p.2) λ b e2=> .bind .self λ z h1=> .map .self λ z' h2 W s A xs k hA R hx=>?_))
  λ _=> .ifs λ e p h W s A xs k hA R hx=>?_
 ·subst e ea ed
  obtain ⟨x,h1⟩:=hx.one
  obtain ⟨i,t,rfl⟩:=oF k h1 _ h
  exact call_range_1 (fA R (.cons _ _ _ _ (.mkInt _ _) (.cons _ _ _ _ h1 (.cons _ _ _ _ (.mkInt _ _) .nil))) _)
 ·subst e ea
  rw [e1,e2] at hx
  obtain ⟨x,y,q1,q2⟩:=hx.two
  obtain ⟨i,t,rfl⟩:=oF k q1 _ h1
  obtain ⟨j,u,rfl⟩:=oF k q2 _ h2
  exact call_range_2 (fA R (.cons _ _ _ _ q1 (.cons _ _ _ _ q2 (.cons _ _ _ _ (.mkInt _ _) .nil))) _)
 ·subst e
  exact vo O (by decide) k hA R hx p h
theorem oI(O:j3 h₀ X n)(hb:X.blt=BE X.K X.O X)(ht:X.typ=yi X.K X.O):sJ h₀ X:=⟨hb▸ze O,ht▸yT O⟩
end
noncomputable def Ro:Program:=PySem.Challenge.pw_ux0038_01
structure Cb where
 args:Arguments
 body:List Stmt
 scope:Scope
noncomputable def T2(s:Stmt):Option (Str×Cb):=by
 cases s with
 | FunctionDef name args body _ _ _ scope _ _ _=>exact some (name,⟨args,body,scope⟩)
 | _=>exact none
noncomputable def T4(s:Stmt):Option (List Stmt):=by
 cases s with
 | ClassDef _ _ _ body _ _ _ _ _ _ _=>exact some body
 | _=>exact none
noncomputable def IK(l:List Stmt)(x:Str):Option Cb:=l.findSome? λ s=>(T2 s).bind λ q=>if (q.1==x)=true then some q.2 else none
noncomputable def EJ(l:List Stmt):List Stmt:=(l.findSome? T4).getD []
noncomputable def PY(f:Cb)(name qual:Str)(dfl kw:Value)(code:Addr):FuncData:=
 { name,qualname:=qual,params:=f.args,body:= .stmts f.body,scope:=f.scope,globals:=3,closure:=[],defaults:=dfl,kwdefaults:=kw,code:= .ref code,builtins:=0 }
noncomputable def Mo:List (Addr×Str×Bool×Option Addr×Option Addr×Addr):=[(45, "_iter_escaped_chars",false,none,none,44),(52, "_strip_quoted_realnames",false,none,none,51),(59, "_check_parenthesis",false,none,none,58),(68, "insort_right",false,some 60,some 61,67),(77, "bisect_right",false,some 69,some 70,76),(86, "bisect_left",false,some 78,some 79,85),(115, "__init__",true,none,some 108,114),(123, "_iter_namespaces",true,some 116,none,122),(130, "_resolve_prefix_name",true,none,none,129),(138, "_qname",true,some 131,none,137),(145, "data",true,none,none,144),(154, "_flush",true,some 147,none,153),(161, "start_ns",true,none,none,160),(168, "start",true,none,none,167),(174, "_start",true,some 169,none,173),(181, "end",true,none,none,180),(209, "_escape_cdata_c14n",false,none,none,208),(216, "_escape_attrib_c14n",false,none,none,215),(223, "_law_steps",false,none,none,222),(230, "_law_page",false,none,none,229),(237, "_law_told",false,none,none,236),(244, "_law_mate",false,none,none,243),(249, "_law_ties",false,none,none,248),(254, "_law_choices",false,none,none,253),(259, "law",false,none,none,258)]
noncomputable def KU(o:Option Addr):Value:=(o.map Value.ref).getD .none
noncomputable def fi(a:Addr):Option FuncData:=(Mo.lookup a).bind λ q=>(IK (if q.2.1 then EJ Ro.main.body else Ro.main.body) q.1).map λ f=>PY f q.1 (if q.2.1 then "C14NWriterTarget." ++ q.1 else q.1) (KU q.2.2.1) (KU q.2.2.2.1) q.2.2.2.2
noncomputable def nR:List (Str×Value):=[
 ("len",.builtin "len"),("range",.type "range"),("bisect_right",.ref 77),("bisect_left",.ref 86),("insort_right",.ref 68),("_iter_escaped_chars",.ref 45),("_strip_quoted_realnames",.ref 52),("_check_parenthesis",.ref 59),
 ("str",.type "str"),("sorted",.builtin "sorted"),("set",.type "set"),("list",.type "list"),("enumerate",.type "enumerate"),("_escape_cdata_c14n",.ref 209),("_escape_attrib_c14n",.ref 216),("C14NWriterTarget",.ref 198),("_namespace_map",.ref 92),
 ("_law_steps",.ref 223),("_law_page",.ref 230),("_law_told",.ref 237),("_law_mate",.ref 244),("_law_ties",.ref 249),("_law_choices",.ref 254)]
noncomputable def Ez(a:Addr):List V:=(([(68,[.d (.int 0),.d .none]),(77,[.d (.int 0),.d .none]),(86,[.d (.int 0),.d .none]),(123,[.glob (.type "reversed")]),(138,[.d .none]),(154,[.glob (.ref 146)]),(174,[.d .none])]:List (Addr×List V)).lookup a).getD []
noncomputable def Qm:List Str:=["with_comments", "strip_text", "rewrite_prefixes"]
noncomputable def PS:List Str:=["qname_aware_tags", "qname_aware_attrs", "exclude_attrs", "exclude_tags"]
noncomputable def JR{α:Type}(f n:α)(a:Addr):List (Str×α):=if a=115 then Qm.map (λ x=>(x,f))++PS.map λ x=>(x,n) else if a=68∨a=77∨a=86 then [("key",n)] else []
noncomputable def LJ(a:Addr):List (Str×V):=JR (.d (.bool false)) (.d .none) a
noncomputable def Ii(a:Addr):List (Str×Value):=JR (.bool false) .none a
noncomputable def tN:List (Str×Addr):=[("_iter_namespaces",123),("_resolve_prefix_name",130),("_qname",138),("data",145),("_flush",154),("start_ns",161),("start",168),("_start",174),("end",181)]
noncomputable def nI:List Str:=["_write", "_data", "_with_comments", "_strip_text", "_exclude_attrs", "_exclude_tags", "_rewrite_prefixes", "_qname_aware_tags", "_find_qname_aware_attrs", "_declared_ns_stack", "_ns_stack", "_prefix_map", "_preserve_space", "_pending_start", "_root_seen", "_root_done", "_ignored_depth"]
noncomputable def wg(K:bK)(O:eI)(frz:Bool)(need:Nat):Cx where
 glob:=λ x=>nR.lookup x
 fns:=fi
 dfl:=Ez
 kdf:=λ a n=>(LJ a).lookup n
 kdx:=λ a n=>(Ii a).lookup n
 K:=K
 O:=O
 cls:=198
 own:=λ x=>nI.contains x
 mth:=λ x=>tN.lookup x
 frz:=frz
 need:=need
 blt:=λ _ _ _=>none
 typ:=λ _ _ _=>none
 cal:=λ _ _ _=>none
noncomputable def vm(K:bK)(O:eI)(frz:Bool)(need:Nat:=0):Cx:={ wg K O frz need with blt:=BE K O (wg K O frz need),typ:=yi K O }
theorem ph(K:bK)(O:eI)(frz:Bool)(need:Nat):(vm K O frz need).blt=BE (vm K O frz need).K (vm K O frz need).O (vm K O frz need):=by
 funext id as σ
 rfl
theorem pe(K:bK)(O:eI)(frz:Bool)(need:Nat):(vm K O frz need).typ=yi (vm K O frz need).K (vm K O frz need).O:=rfl
noncomputable def bz:Hk:=⟨λ _ _ _ _=>none,λ _ _ _ _=>none⟩
theorem bi{h₀:Heap}{X:Cx}:JC h₀ X bz:=⟨λ _ _ _ _ _ _ _=> .none,λ _ _ _ _ _ _ _=> .none⟩
noncomputable def bt(ts:List Stmt)(i:Nat):Stmt:=(ts[i]?).getD (.Pass ⟨0,0,0,0⟩)
noncomputable def am(a:Addr):List Stmt:=match fi a with
 | some fd=>match fd.body with
  | .stmts b=>b
  | _=>[]
 | none=>[]
noncomputable def Df(a:Addr):Scope:=((fi a).map (·.scope)).getD ⟨.function,[],false,false,[]⟩
noncomputable def o1(a:Addr):Str:=((fi a).map (·.qualname)).getD Str.empty
noncomputable def pW(a:Addr):Value:=((fi a).map (·.code)).getD .none
noncomputable def dB:Expr:= .Constant .none 0 ⟨0,0,0,0⟩
structure Ub where
 t:Expr
 e:Expr
 b:List Stmt
 o:List Stmt
 p:Pos
noncomputable def wC(s:Stmt):Ub:=by
 cases s with
 | For t e b _ p=>exact ⟨t,e,b,[],p⟩
 | If t b o p=>exact ⟨t,dB,b,o,p⟩
 | While t b _ p=>exact ⟨t,dB,b,[],p⟩
 | Expr e p=>exact ⟨dB,e,[],[],p⟩
 | Assign ts e p=>exact ⟨ts.headD dB,e,[],[],p⟩
 | Return e p=>exact ⟨dB,e.getD dB,[],[],p⟩
 | Delete ts p=>exact ⟨ts.headD dB,dB,[],[],p⟩
 | Try b _ _ _ p=>exact ⟨dB,dB,b,[],p⟩
 | _=>exact ⟨dB,dB,[],[],⟨0,0,0,0⟩⟩
noncomputable def bA(s:Stmt):Expr:=(wC s).t
noncomputable def aJ(s:Stmt):Expr:=(wC s).e
noncomputable def a9(s:Stmt):List Stmt:=(wC s).b
noncomputable def bE(s:Stmt):Pos:=(wC s).p
noncomputable def mn(s:Stmt):Expr:=(wC s).t
noncomputable def gc(s:Stmt):List Stmt:=(wC s).b
noncomputable def xn(s:Stmt):List Stmt:=(wC s).o
structure Uh where
 a:Expr
 b:Expr
 l:List Expr
 g:Comprehension
 s:Scope
 p:Pos
noncomputable def sM:Comprehension:=⟨dB,dB,[],0⟩
noncomputable def xa:Scope:=⟨.function,[],false,false,[]⟩
noncomputable def ak(e:Expr):Uh:=by
 cases e with
 | ListComp e g s p=>exact ⟨e,dB,[],g.headD sM,s,p⟩
 | DictComp k v g s p=>exact ⟨k,v,[],g.headD sM,s,p⟩
 | Subscript v i p=>exact ⟨v,i,[],sM,xa,p⟩
 | Call f l _ p=>exact ⟨f,dB,l,sM,xa,p⟩
 | Compare a _ l p=>exact ⟨a,dB,l,sM,xa,p⟩
 | Attribute a _ p=>exact ⟨a,dB,[],sM,xa,p⟩
 | Name _ p=>exact ⟨dB,dB,[],sM,xa,p⟩
 | List l p=>exact ⟨dB,dB,l,sM,xa,p⟩
 | Tuple l _ p=>exact ⟨dB,dB,l,sM,xa,p⟩
 | Yield e p=>exact ⟨e.getD dB,dB,[],sM,xa,p⟩
 | YieldFrom e p=>exact ⟨e,dB,[],sM,xa,p⟩
 | Starred e p=>exact ⟨e,dB,[],sM,xa,p⟩
 | Set l _ p=>exact ⟨dB,dB,l,sM,xa,p⟩
 | Dict k l p=>exact ⟨(k.headD none).getD dB,dB,l,sM,xa,p⟩
 | Lambda _ e s p=>exact ⟨e,dB,[],sM,s,p⟩
 | _=>exact ⟨dB,dB,[],sM,xa,⟨0,0,0,0⟩⟩
noncomputable def wt(s:Stmt):Expr:=(ak (wC s).e).a
noncomputable def GN(s:Stmt):Pos:=(ak (wC s).e).p
noncomputable def an(a b:Bool):Bool:=@Bool.rec (λ _=>Bool) false b a
section
variable{α:Type}
noncomputable def u0(l:List α)(b:Bool):Bool:=@List.rec α (λ _=>Bool) b (λ _ _ _=>false) l
noncomputable def u1(l:List α)(k:α->List α->Bool):Bool:=@List.rec α (λ _=>Bool) false (λ a r _=>k a r) l
end
noncomputable def Ae:List (Str×Str):=[("http://www.w3.org/XML/1998/namespace", "xml"),("http://www.w3.org/1999/xhtml", "html"),("http://www.w3.org/1999/02/22-rdf-syntax-ns#", "rdf"),("http://schemas.xmlsoap.org/wsdl/", "wsdl"),("http://www.w3.org/2001/XMLSchema", "xs"),("http://www.w3.org/2001/XMLSchema-instance", "xsi"),("http://purl.org/dc/elements/1.1/", "dc")]
noncomputable def jk(l:List Addr)(h:Heap):Frag:=l.filterMap λ a=>(h.get? a).bind λ o=>if (o.cls== .type "list")=true then none else some (a,o)
noncomputable def K5(d:Data):Option { es:Array DictEntry // ∃ n,d= .dict es n }:=by cases d with
 | dict es n=>exact some ⟨es,n,rfl⟩
 | _=>exact none
noncomputable def PN(d:Data):Option { xs:Array Value // ∃ n,d= .seq xs n }:=by cases d with
 | seq xs n=>exact some ⟨xs,n,rfl⟩
 | _=>exact none
noncomputable def K4(d:Data):Option { xs:Array Value // d= .fields xs }:=by cases d with
 | fields xs=>exact some ⟨xs,rfl⟩
 | _=>exact none
noncomputable def PM(d:Data):Option { g:FuncData // d= .func g }:=by cases d with
 | func g=>exact some ⟨g,rfl⟩
 | _=>exact none
noncomputable def zJ(v:Value):Option { x:Str // ∃ t,v= .str x t }:=by cases v with
 | str x t=>exact some ⟨x,t,rfl⟩
 | _=>exact none
noncomputable def Rn(es:Array DictEntry):Bool:=es.toList.all λ e=>(zJ e.key).isSome
noncomputable def DC(K:Frag)(N:Addr):Option (Array DictEntry):=(K.lookup N).bind λ o=>(K5 o.data).bind λ es=>if Rn es.1=true then some es.1 else none
noncomputable def vd(K:Frag)(N:Addr)(x:Str):Option Value:=(DC K N).bind λ es=>nsFind es x
noncomputable abbrev cC:Value:= .ref 198
noncomputable abbrev HU(K:Frag)(p:Str×Addr):Option (Option Value)×Option Value×Option (Option Value)×Option Bool:=(findIn K cC p.1,typeIn K (.ref p.2),specialIn K (.ref p.2) "__get__",takesIn K (.ref p.2))
noncomputable abbrev HW(p:Str×Addr):Option (Option Value)×Option Value×Option (Option Value)×Option Bool:=(some (some (.ref p.2)),some (.type "function"),some (some (.builtin "function.__get__")),some false)
noncomputable def K0(v:Value):Option { a:Addr // v= .ref a }:=by cases v with
 | ref a=>exact some ⟨a,rfl⟩
 | _=>exact none
noncomputable def K3(v:Value):Option { i:Int // ∃ t,v= .int i t }:=by cases v with
 | int i t=>exact some ⟨i,t,rfl⟩
 | _=>exact none
noncomputable def Q7(v:V)(y:Value):Bool:=by cases v with
 | glob x=>exact x==y
 | d d=>cases d with
  | none=>exact y== .none
  | int i=>exact (K3 y).elim false λ j=>i==j.1
  | _=>exact false
 | _=>exact false
noncomputable def Ka(vs:List V):List Value->Bool:=@List.rec V (λ _=>List Value->Bool) (λ ys=>u0 ys true) (λ v _ ih ys=>u1 ys λ y ys=>an (Q7 v y) (ih ys)) vs
noncomputable def Ju:List Addr:=Mo.map (·.1)
noncomputable def xD(g:FuncData):FuncData:={ g with doc:= .none,pyModule:= .none,annotations:=none,closureTuple:= .none }
noncomputable def Mm(K:Frag)(a:Addr):Option FuncData:=(K.lookup a).bind λ o=>if (o.cls== .type "function")=true then (PM o.data).map λ g=>xD g.1 else none
noncomputable def EA(K:Frag)(a:Addr)(v:Value):Bool:=(an (v== .none) (Ez a).isEmpty).or ((K0 v).elim false λ T=>(K.lookup T.1).elim false λ o=>(PN o.data).elim false λ dv=>Ka (Ez a) dv.1.toList)
noncomputable def DU(K:Frag)(a:Addr)(v:Value):Bool:=(Ii a).isEmpty.or ((K0 v).elim false λ d=>an (DC K d.1).isSome ((Ii a).all λ p=>vd K d.1 p.1==some p.2))
noncomputable def RY(K:Frag)(a:Addr):Bool:=(fi a).elim false λ fd=>an (codeIn K fd.code fd.qualname) (an (EA K a fd.defaults) (DU K a fd.kwdefaults))
noncomputable def FT(K:Frag)(x:Str):Option Value:=(vd K mainGlobals x).or (vd K builtinsNs x)
noncomputable def eQ(e:DictEntry):Int×Option Str×Option Str:=(e.hash,(zJ e.key).map (·.1),(zJ e.val).map (·.1))
noncomputable def eE(P:Params)(q:Str×Str):Int×Option Str×Option Str:=(PyData.keyHash P q.1,some q.1,some q.2)
noncomputable def R6(o:Obj):Bool:=an (o.cls== .type "dict") (an o.dict.isNone (u0 o.slots.toList true))
noncomputable def H8(K:Frag):Option (List (Int×Option Str×Option Str)):=(K.lookup 92).bind λ o=>if R6 o=true then (K5 o.data).map λ es=>es.1.toList.map eQ else none
noncomputable def PL(d:Data):Option (PLift (d= .plain)):=by cases d with
 | plain=>exact some ⟨rfl⟩
 | _=>exact none
noncomputable def c146(o:Obj):Bool:=an (o.cls== .type "builtin_function_or_method") (an o.dict.isNone (u0 o.slots.toList ((K4 o.data).elim false λ vs=>u1 vs.1.toList λ a l=>u1 l λ b l=>u0 l (an (a== .builtin "str.join") ((zJ b).elim false λ x=>x.1 == "")))))
noncomputable def c4(o:Obj):Bool:=an (o.cls== .type "module") (an (o.dict==some builtinsNs) (PL o.data).isSome)
noncomputable def Lc(K:Frag):Bool:=an (K.lookup sysModules).isSome (an ((K.lookup 146).elim false c146) (an ((K.lookup 173).elim false λ o=>(K4 o.data).isSome) (an ((K.lookup 4).elim false c4) (an (vd K mainGlobals "__builtins__" == some (.ref 4)) (an (codeHdIn K 173 171) (an (codeHdIn K 9 8) (makesIn K 198)))))))
noncomputable def vw:Program:=view prog [0,1,3,4,5,11,12,13,14,15,16,17,19,20,21,22,23,24,25]
noncomputable def FU:List Str:=["insort_right", "bisect_right", "bisect_left", "_twin_re_1", "_namespace_map", "_looks_like_prefix_name", "C14NWriterTarget"]
noncomputable def J8(s:Shared):Bool:=xlAt vw [] s&&recOk [] s
noncomputable def FX:List Addr:=(List.range 260).filter λ a=>!(a==8||a==171)
noncomputable def Rq(K:Frag):=(findIn K cC "__getattribute__",findIn K cC "__getattr__",findIn K cC "__setattr__",plainOver K 198,hasDictIn K 198,nI.map (findIn K cC),tN.map (HU K))
noncomputable def Q5:=(some (some (Value.builtin "object.__getattribute__")),(some none:Option (Option Value)),some (some (Value.builtin "object.__setattr__")),true,true,nI.map λ _=>(some none:Option (Option Value)),tN.map HW)
noncomputable def Rr(K:Frag):=((DC K cStatics).isSome,vd K cStatics "sys.recursionlimit",(DC K mainGlobals).isSome,(DC K builtinsNs).isSome,nR.map (λ p=>FT K p.1),Ju.all (RY K),Ju.map (Mm K))
noncomputable def Q6:=(true,(none:Option Value),true,true,nR.map (λ p=>some p.2),true,Ju.map λ a=>(fi a).map xD)
noncomputable def Rp(K:Frag):=(Lc K,findIn K cC "__init__",typeIn K (.ref 115),nsIn K mainGlobals "law",H8 K)
noncomputable def Q3(P:Params):=(true,some (some (Value.ref 115)),some (Value.type "function"),some (some (Value.ref 259)),some (Ae.map (eE P)))
noncomputable def Ld(s:Shared):=(Rq (jk FX s.heap),Rr (jk FX s.heap),Rp (jk FX s.heap),s.heap.get? 8,s.heap.get? 171)
noncomputable def N0(w:World):=(Q5,Q6,Q3 w.params,some (tabObj #[]),some (tabObj #[]))
noncomputable def mK(w:World):Prop:=(openEnds treeTable prog w 3076).map (λ s=>(openSeen vw FU (importedModules prog.main.body) J8 true s,Ld s))=some (openGood vw FU,N0 w)
set_option maxHeartbeats 0 in
theorem Ig(w:World):mK (w.withFollow "special-get-raises" false):=by
 unfold mK openEnds fencedOpening topFrom
 rw [Fast.te10274390034422433532,Fast.te1435165496053646825,Fast.te14289696077712309145,Fast.te14082659384304107361,Fast.te4187177175401517315,Fast.te5923862056798008813,Fast.te14364793385576792824]
 kernel_rfl
set_option maxHeartbeats 0 in
theorem Id(w:World):mK (w.withFollow "special-get-raises" true):=by
 unfold mK openEnds fencedOpening topFrom
 rw [Fast.te10274390034422433532,Fast.te1435165496053646825,Fast.te14289696077712309145,Fast.te14082659384304107361,Fast.te4187177175401517315,Fast.te5923862056798008813,Fast.te14364793385576792824]
 kernel_rfl
section
variable{P:Params}{h₀:Heap}{W:Wd}{σ:St}{s s':Shared}
theorem ae.pvAdd(R:ae P h₀ W σ s){p:Addr×Obj}(h1:s.heap.get? p.1=some p.2)(h2:p.1∉W.ρ)(h3:h₀.get? p.1=none)(h4:∀ q∈W.F.fs,q.1≠p.1):ae P h₀ { W with pv:=p::W.pv } σ s:=by
 refine ⟨R.len,R.nod,R.fr,R.lt,R.fz,λ q hq=>?_,R.gg,R.slot,R.old,R.tab⟩
 rcases List.mem_cons.mp hq with rfl | hq
 ·exact ⟨h1,h2,h3,h4⟩
 ·exact R.pv q hq
end
noncomputable def jm:List Nat->Nat->Bool->Int->List D
 | [],_,esc,last=>if esc then [.tup [.int last,.str "\\"]] else []
 | c::cs,i,true,_=> .tup [.int i,.str (("\\" : Str)++⟨#[c]⟩)]::jm cs (i+1) false i
 | c::cs,i,false,_=>if ((⟨#[c]⟩:Str) == "\\")=true then jm cs (i+1) true i else .tup [.int i,.str ⟨#[c]⟩]::jm cs (i+1) false i
noncomputable def gB:List Stmt:=am 45
noncomputable def gF:Stmt:=bt gB 2
noncomputable def gI:Stmt:=bt gB 3
noncomputable def gJ:Stmt:=bt (a9 gF) 0
noncomputable def xu:Stmt:=bt (xn gJ) 0
theorem Mj:gB=[bt gB 0,bt gB 1,.For (bA gF) (aJ gF) (a9 gF) [] (bE gF),.If (mn gI) (gc gI) [] (bE gI)]:=by kernel_rfl
theorem AX:a9 gF=[.If (mn gJ) (gc gJ) (xn gJ) (bE gJ)]:=by kernel_rfl
theorem AU:gc gJ=[.Expr (.Yield (some (wt (bt (gc gJ) 0))) (GN (bt (gc gJ) 0))) (bE (bt (gc gJ) 0)),bt (gc gJ) 1]:=by kernel_rfl
theorem AW:xn gJ=[.If (mn xu) (gc xu) (xn xu) (bE xu)]:=by kernel_rfl
theorem xt:gc xu=[bt (gc xu) 0]:=by kernel_rfl
theorem xv:xn xu=[.Expr (.Yield (some (wt (bt (xn xu) 0))) (GN (bt (xn xu) 0))) (bE (bt (xn xu) 0))]:=by kernel_rfl
theorem AV:gc gI=[.Expr (.Yield (some (wt (bt (gc gI) 0))) (GN (bt (gc gI) 0))) (bE (bt (gc gI) 0))]:=by kernel_rfl
noncomputable def cG:aw:=(ck (Df 45) [] (o1 45 ++ ".<locals>.") (some 45) (pW 45) none []).1
noncomputable def gm(x:Str)(last:Int)(esc:Bool)(ch:Option Str):List (Str×V):=match ch with
 | none=>[("addr",V.d (D.str x)),("pos",V.d (D.int last)),("escape",V.d (D.bool esc))]
 | some y=>[("addr",V.d (D.str x)),("pos",V.d (D.int last)),("escape",V.d (D.bool esc)),("ch",V.d (D.str y))]
noncomputable def gS(m:List (Str×V)):St:=[some ⟨.type "frame",none,.dict m⟩]
noncomputable def gX:Cx:=vm [] (λ _ _=>none) true
noncomputable def gR:b5:=cy gX bz 6
theorem IF(x y:Str)(last i:Int)(esc:Bool):cW gX gR cG (bA gF) (.d (.tup [.int i,.str y])) (gS (gm x last esc none))=some (gS (gm x i esc (some y))):=by kernel_rfl
theorem ID(x y z:Str)(last i:Int)(esc:Bool):cW gX gR cG (bA gF) (.d (.tup [.int i,.str y])) (gS (gm x last esc (some z)))=some (gS (gm x i esc (some y))):=by kernel_rfl
theorem IB(x:Str)(last:Int)(esc:Bool)(ch:Option Str):gR.T cG (mn gJ) (gS (gm x last esc ch))=some (esc,gS (gm x last esc ch)):=by cases ch<;>kernel_rfl
theorem Qc(x:Str)(c:Nat)(i:Int):gR.E cG (wt (bt (gc gJ) 0)) (gS (gm x i true (some ⟨#[c]⟩)))=some (.d (.tup [.int i,.str (("\\" : Str)++⟨#[c]⟩)]),gS (gm x i true (some ⟨#[c]⟩))):=by kernel_rfl
theorem Qe(x:Str)(c:Nat)(i:Int):gR.X cG (bt (gc gJ) 1) (gS (gm x i true (some ⟨#[c]⟩)))=some (.next,gS (gm x i false (some ⟨#[c]⟩))):=by kernel_rfl
theorem Qg(x:Str)(c:Nat)(i:Int):gR.T cG (mn xu) (gS (gm x i false (some ⟨#[c]⟩)))=some ((⟨#[c]⟩:Str) == "\\",gS (gm x i false (some ⟨#[c]⟩))):=by kernel_rfl
theorem Qd(x:Str)(c:Nat)(i:Int):gR.X cG (bt (gc xu) 0) (gS (gm x i false (some ⟨#[c]⟩)))=some (.next,gS (gm x i true (some ⟨#[c]⟩))):=by kernel_rfl
theorem Qb(x:Str)(c:Nat)(i:Int):gR.E cG (wt (bt (xn xu) 0)) (gS (gm x i false (some ⟨#[c]⟩)))=some (.d (.tup [.int i,.str ⟨#[c]⟩]),gS (gm x i false (some ⟨#[c]⟩))):=by kernel_rfl
theorem Qf(x:Str)(last:Int)(esc:Bool)(ch:Option Str):gR.T cG (mn gI) (gS (gm x last esc ch))=some (esc,gS (gm x last esc ch)):=by cases ch<;>kernel_rfl
theorem Qa(x:Str)(last:Int)(ch:Option Str):gR.E cG (wt (bt (gc gI) 0)) (gS (gm x last true ch))=some (.d (.tup [.int last,.str "\\"]),gS (gm x last true ch)):=by cases ch<;>kernel_rfl
noncomputable def Jo(s:Shared):List (Nat×GenState):=(List.range s.gens.size).filterMap λ j=>(s.gens[j]?).map λ x=>(j,x)
theorem jt{s:Shared}{x:Nat×GenState}:x∈Jo s↔s.gens[x.1]?=some x.2:=by
 refine List.mem_filterMap.trans ⟨λ ⟨j,_,e⟩=>?_,λ h=>⟨x.1,List.mem_range.mpr (Array.getElem?_eq_some_iff.mp h).1,congrArg (Option.map λ y=>(x.1,y)) h⟩⟩
 obtain ⟨y,hy,e⟩:=Option.map_eq_some_iff.mp e
 exact e▸hy
section
variable{P:Params}{h₀:Heap}{W:Wd}{σ:St}{s s':Shared}
noncomputable abbrev Lb(h₀:Heap)(s:Shared)(L:Addr)(en:Nat->D)(fs:List (Addr×Obj))(tb:Tb):Wd:={ ρ:=[L],F:=⟨en,fs⟩,pv:=oY h₀ s.heap (L::fs.map (·.1)),gg:=Jo s,tb:=tb }
theorem mQ.oneF{tb:Tb}(R:mQ P h₀ tb s){L:Addr}{ao:AO}{o:Obj}{en:Nat->D}{fs:List (Addr×Obj)}(hL:s.heap.get? L=some o)(hL0:h₀.get? L=none)(hr:OR P [L] ⟨en,fs⟩ ao o)(hnf:ao.data.isFro=false)
  (hfs:∀ p∈fs,s.heap.get? p.1=some p.2∧h₀.get? p.1=none∧p.1≠L):ae P h₀ (Lb h₀ s L en fs tb) [some ao] s:=by
 refine ⟨rfl,by simp,λ a ha=>List.mem_singleton.mp ha▸hL0,λ a ha=>List.mem_singleton.mp ha▸Heap.lt_size hL,λ p hp=>⟨(hfs p hp).1,(hfs p hp).2.1⟩,λ p hp=>?_,λ x hx=>jt.mp hx,λ i a b hi hb=>?_,R.old,R.tab⟩
 ·obtain ⟨x,y,z⟩:=gA.mp hp
  exact ⟨z,λ h=>x (List.mem_singleton.mp h▸ .head _),y,λ q hq e=>x (e▸ .tail _ (List.mem_map.mpr ⟨q,hq,rfl⟩))⟩
 ·cases i with
  | zero=>
   cases hi
   cases hb
   exact ⟨o,hL,hr,λ e=>ft (hnf.symm.trans e),λ _ q hq=>(hfs q hq).2.2⟩
  | succ i=>exact M.Internal.ns hi
structure jy(h₀:Heap)(G:List Addr)(s s':Shared):Prop where
 heap:∀ (b:Addr) (o:Obj),b∉G->h₀.get? b=none->s.heap.get? b=some o->s'.heap.get? b=some o
 gens:∀ (j:Nat) (x:GenState),s.gens[j]?=some x->s'.gens[j]?=some x
 size:s.heap.objs.size<=s'.heap.objs.size
 os:s'.os=s.os
theorem jy.refl(h₀:Heap)(G:List Addr)(s:Shared):jy h₀ G s s:=⟨λ _ _ _ _ h=>h,λ _ _ h=>h,Nat.le_refl _,rfl⟩
theorem jy.trans{G:List Addr}{a b c:Shared}(x:jy h₀ G a b)(y:jy h₀ G b c):jy h₀ G a c:=⟨λ p o h h1 h2=>y.heap p o h h1 (x.heap p o h h1 h2),λ j z h=>y.gens j z (x.gens j z h),Ul x.size y.size,y.os.trans x.os⟩
noncomputable def B9(h₀:Heap)(L:Addr)(fs₀ fs:List (Addr×Obj))(s s':Shared):Prop:=∀ p∈fs,s'.heap.get? p.1=some p.2∧h₀.get? p.1=none∧p.1≠L∧∀ b o,s.heap.get? b=some o->h₀.get? b=none->(∀ q∈fs₀,q.1≠b)->b≠p.1
structure JA(P:Params)(h₀:Heap)(L:Addr)(ao':AO)(fs:List (Addr×Obj))(W':Wd)(s s':Shared):Prop where
 rho:W'.ρ=[L]
 ob:∃ o',s'.heap.get? L=some o'∧OR P [L] W'.F ao' o'
 ext:jy h₀ [L] s s'
 fr:ao'.data.isFro=false->B9 h₀ L fs W'.F.fs s s'
theorem u9{tb:Tb}{L:Addr}{ao':AO}{en:Nat->D}{fs:List (Addr×Obj)}{W':Wd}(hf0:∀ p∈fs,s.heap.get? p.1=some p.2)(le:(Lb h₀ s L en fs tb).le W')(R':ae P h₀ W' [some ao'] s')(hos:s.os=tb.os)(hz:s.heap.objs.size<=s'.heap.objs.size) :
  JA P h₀ L ao' fs W' s s':=by
 have hρ:W'.ρ=[L]:=by
  obtain ⟨t,ht⟩:=le.rho
  have hl:=R'.len
  rw [← ht] at hl ⊢
  cases t with
  | nil=>rfl
  | cons=>simp at hl
 have mem:∀ {b o},s.heap.get? b=some o->h₀.get? b=none->b∉L::fs.map (·.1)->(b,o)∈W'.pv:=λ hg h0 h=>le.pv▸gA.mpr ⟨h,h0,hg⟩
 obtain ⟨o,ho,hr,_,hn⟩:=R'.slot 0 ao' L rfl (hρ▸rfl)
 refine ⟨hρ,⟨o,ho,hρ▸hr⟩,⟨λ b o hb h0 hg=>?_,λ j x h=>R'.gg (j,x) (le.gg▸jt.mpr h),hz,R'.tab.2.2.trans (le.tb.trans hos.symm)⟩,λ hnf p hp=>⟨(R'.fz p hp).1,(R'.fz p hp).2,hn hnf p hp,λ b o hg h0 hq e=>?_⟩⟩
 ·by_cases hm:b∈fs.map (·.1)
  ·obtain ⟨p,hp,rfl⟩:=List.mem_map.mp hm
   cases hg.symm.trans (hf0 p hp)
   exact (R'.fz p (le.fz.fs hp)).1
  ·exact (R'.pv (b,o) (mem hg h0 λ h=>(List.mem_cons.mp h).elim (λ e=>hb (List.mem_singleton.mpr e)) hm)).1
 ·by_cases hbL:b=L
  ·exact hn hnf p hp (e.symm.trans hbL)
  ·exact (R'.pv (b,o) (mem hg h0 λ h=>(List.mem_cons.mp h).elim hbL λ h=>let ⟨q,hq',e'⟩:=List.mem_map.mp h;hq q hq' e')).2.2.2 p hp e.symm
noncomputable def uV(v:V):Bool:=(pU v).any lM||(eO v).isSome
theorem VR.scal{ρ ρ':List Addr}{F F':Fz}{v:V}{x:Value}(h:VR ρ F v x)(hs:uV v=true):VR ρ' F' v x:=by
 rcases Bool.or_eq_true_iff.mp hs with hs | hs
 ·obtain ⟨d,e,hs⟩:=(hJ v).any hs
  subst e
  cases h with
  | d _ _ h=>
   have e:∀ en,den en d=d:=λ en=>by cases d<;>first | rfl | exact ft hs
   exact .d d x ((e _).symm▸(e F.en▸h).scalar hs)
 ·cases h with
  | glob=>exact .glob _
  | _=>exact ft hs
theorem ER.scal{ρ ρ':List Addr}{F F':Fz}{m:List (Str×V)}{es:List DictEntry}(h:ER P ρ F m es)(hs:m.all (λ p=>uV p.2)=true):ER P ρ' F' m es:=by
 induction h with
 | nil=>exact .nil
 | cons k v t x m es h _ ih=>exact .cons k v t x m es (h.scal (Um.mp hs).1) (ih (Um.mp hs).2)
theorem OR.scal{ρ ρ':List Addr}{F F':Fz}{c:Value}{m:List (Str×V)}{o:Obj}(h:OR P ρ F ⟨c,none,.dict m⟩ o)(hs:m.all (λ p=>uV p.2)=true):OR P ρ' F' ⟨c,none,.dict m⟩ o:=by
 cases h with
 | mk _ _ dx _ x h1 h2=>
  cases h1
  cases h2 with
  | dict _ es n h=>exact .mk _ _ _ _ _ .none (.dict m es n (h.scal hs))
end
noncomputable abbrev Cm(m:List (Str×V)):AO:=⟨.type "frame",none,.dict m⟩
noncomputable def x8(m:List (Str×V)):Bool:=m.all (λ p=>uV p.2)
theorem d6(x:Str)(last:Int)(esc:Bool)(ch:Option Str):x8 (gm x last esc ch)=true:=by cases ch<;>rfl
noncomputable def eY(L:Addr):Env:=cG.env [L]
theorem sf:cG.Ok 1:=⟨Nat.zero_lt_one,Nat.zero_lt_one,λ p hp=>nm ((show cG.cells=[] by kernel_rfl)▸hp),by kernel_rfl,by kernel_rfl⟩
theorem aD{O:eI}{en:Nat->D}:cx [] O en:=λ _ _ _ h=>nm h
structure GL(P:Params)(h₀:Heap)(L:Addr)(m:List (Str×V))(s:Shared):Prop where
 raw:∃ tb,mQ P h₀ tb s
 fr:∃ o ρ F,s.heap.get? L=some o∧OR P ρ F (Cm m) o
 new:h₀.get? L=none
structure GP(h₀:Heap)(L:Addr)(m:List (Str×V))(s s':Shared):Prop where
 g:GL w.params h₀ L m s'
 ext:jy h₀ [L] s s'
section
variable{h₀:Heap}{s:Shared}{A:Around}{L:Addr}{m m':List (Str×V)}
theorem pF{α:Type}{t:Sem α}{Q:α->Wd->Prop}{Q':α->Shared->Prop}{fs:List (Addr×Obj)}(hm:x8 m=true)(g:GL w.params h₀ L m s)(hfs:∀ p∈fs,s.heap.get? p.1=some p.2∧h₀.get? p.1=none∧p.1≠L)
  (h:∀ W:Wd,W.ρ=[L]->W.F.fs=fs->ae w.params h₀ W [some (Cm m)] s->wpAny (model prog w) A t (λ x s'=>∃ W',W.le W'∧ae w.params h₀ W' [some (Cm m')] s'∧Q x W') ah s)
  (k:∀ x W' s',Q x W'->GP h₀ L m' s s'->B9 h₀ L fs W'.F.fs s s'->Q' x s'):wpAny (model prog w) A t Q' ah s:=by
 obtain ⟨tb,raw⟩:=g.raw
 obtain ⟨o,ρ,F,ho,hr⟩:=g.fr
 have R:=raw.oneF (en:=λ _=> .none) (fs:=fs) ho g.new (hr.scal hm) rfl hfs
 refine b7 (aC (h _ rfl rfl R) λ x s' ⟨W',le,R',hq⟩ hz=>?_)
 have out:=u9 (λ p hp=>(hfs p hp).1) le R' raw.tab.2.2 hz
 obtain ⟨o',ho',hr'⟩:=out.ob
 exact k x W' s' hq ⟨⟨⟨_,R'.raw⟩,⟨o',_,_,ho',hr'⟩,g.new⟩,out.ext⟩ (out.fr rfl)
variable(a:aB h₀ gX bz)
include a
theorem vL{W:Wd}(hρ:W.ρ=[L])(R:ae w.params h₀ W (gS m) s)(hA:bD 6 A):At ⟨h₀,gX,6+gX.need,gR⟩ cG (eY L) A W (gS m) s:=⟨⟨aD,hA,R⟩,hρ▸sf,hρ▸rfl⟩
theorem Iy{t:Expr}{b:Bool}(hm:x8 m=true)(g:GL w.params h₀ L m s)(hev:gR.T cG t (gS m)=some (b,gS m'))(hA:bD 6 A) :
  wpAny (model prog w) A (isTrue t (eY L) (eval t (eY L))) (λ x s'=>x=b∧GP h₀ L m' s s') ah s:=
 pF (Q:=λ x _=>x=b) hm g (λ _ h=>nm h) (λ W hρ _ R=>aC ((aZ a 6).T cG t _ _ hev _ _ _ _ (vL a hρ R hA)) λ x s' ⟨e,W',le,R'⟩=>⟨W',le,R',e⟩) λ x W' s' e p _=>⟨e,p⟩
theorem Me{t:Stmt}(hm:x8 m=true)(g:GL w.params h₀ L m s)(hev:gR.X cG t (gS m)=some (.next,gS m'))(hA:bD 6 A) :
  wpAny (model prog w) A (exec t (eY L)) (λ f s'=>f= .next∧GP h₀ L m' s s') ah s:=
 pF (Q:=λ x _=>x= .next) hm g (λ _ h=>nm h) (λ W hρ _ R=>aC ((aZ a 6).X cG t _ _ hev _ _ _ _ (vL a hρ R hA)) λ x s' ⟨W',le,e,R'⟩=>⟨W',le,R',by cases x<;>first | rfl | exact e.elim⟩) λ x W' s' e p _=>⟨e,p⟩
theorem P9{e:Expr}{d:D}(hm:x8 m=true)(hd:∀ en,den en d=d)(g:GL w.params h₀ L m s)(hev:gR.E cG e (gS m)=some (.d d,gS m'))(hA:bD 6 A) :
  wpAny (model prog w) A (eval e (eY L)) (λ v s'=>GP h₀ L m' s s'∧∃ fs,DV fs d v∧B9 h₀ L [] fs s s') ah s:=
 pF (Q:=λ v W'=>DV W'.F.fs d v) hm g (λ _ h=>nm h) (λ W hρ _ R=>aC ((aZ a 6).E cG e _ _ hev _ _ _ _ (vL a hρ R hA)) λ x s' ⟨W',le,rv,R'⟩=>⟨W',le,R',by cases rv with | d _ _ h=>exact hd _▸h⟩) λ x W' s' e p f=>⟨p,_,e,f⟩
theorem Ix{t:Expr}{d:D}{v:Value}{fs:List (Addr×Obj)}(hm:x8 m=true)(hd:∀ en,den en d=d)(hv:DV fs d v)(g:GL w.params h₀ L m s)(hfs:∀ p∈fs,s.heap.get? p.1=some p.2∧h₀.get? p.1=none∧p.1≠L)
  (hev:cW gX gR cG t (.d d) (gS m)=some (gS m')) (hA:bD 6 A):wpAny (model prog w) A (assign t (eY L) v) (λ _ s'=>GP h₀ L m' s s') ah s:=
 pF (Q:=λ _ _=>True) hm g hfs (λ W hρ hf R=>aC (dl (aZ a 6) a.CO.toClsOk t (.d d) _ _ hev _ _ _ _ v (vL a hρ R hA) (.d d v (by rw [hd,hf];exact hv))) λ x s' ⟨W',le,R'⟩=>⟨W',le,R',trivial⟩) λ x W' s' e p f=>p
end
section
variable{h₀:Heap}{s s':Shared}{A:Around}{L:Addr}{m:List (Str×V)}{c:aw}
theorem jy.tok{G:List Addr}{tk:Nat}:jy h₀ G s { s with toks:=tk }:=⟨λ _ _ _ _ h=>h,λ _ _ h=>h,Nat.le_refl _,rfl⟩
theorem GL.tok{P:Params}(g:GL P h₀ L m s){tk:Nat}:GL P h₀ L m { s with toks:=tk }:=let ⟨⟨tb,raw⟩,fr,new⟩:=g;⟨⟨tb,raw.old,raw.tab⟩,fr,new⟩
theorem tY(hc:c.Ok 1)(hfr:c.fr=0)(hm:x8 m=true)(g:GL w.params h₀ L m s){x:Str}{v:V}{y:Value}(hy:VR [L] ⟨λ _=> .none,[]⟩ v y)(hk:c.sc.names.lookup x=some .local) :
  wpAny (model prog w) A (storeName (c.env [L]) x y) (λ _ s'=>GP h₀ L (jJ m x v) s s'∧s'.heap.objs.size=s.heap.objs.size) ah s:=by
 obtain ⟨tb,raw⟩:=g.raw
 obtain ⟨o,ρ,F,ho,hr⟩:=g.fr
 have R:=raw.oneF (en:=λ _=> .none) (fs:=[]) ho g.new (hr.scal hm) rfl (λ _ h=>nm h)
 rw [storeName_local (env:=c.env [L]) hk (by show (c.sc.kind== .class||(c.sc.kind== .module&&_))=false;rw [hc.kind];rfl),show (c.env [L]).locals=L from (congrArg (ad [L]) hfr).trans rfl]
 refine jO (i:=0) R rfl rfl rfl hy λ h' hz R'=>?_
 have out:=u9 (fs:=[]) (λ _ h=>nm h) (.refl _) R' raw.tab.2.2 (Up hz.symm)
 obtain ⟨o',ho',hr'⟩:=out.ob
 exact ⟨⟨⟨⟨_,R'.raw⟩,⟨o',_,_,ho',hr'⟩,g.new⟩,out.ext⟩,hz⟩
theorem pG(G:GC h₀ gX.glob gX.fns)(hc:c.Ok 1)(hm:x8 m=true)(g:GL w.params h₀ L m s){y:Str}{v:V}{Q:Value->Shared->Prop}(hv:aX gX.glob c y (gS m)=some v)(h:∀ z,VR [L] ⟨λ _=> .none,[]⟩ v z->Q z s) :
  wpAny (model prog w) A (loadName (c.env [L]) y) Q ah s:=by
 obtain ⟨tb,raw⟩:=g.raw
 obtain ⟨o,ρ,F,ho,hr⟩:=g.fr
 exact aT G (raw.oneF (en:=λ _=> .none) (fs:=[]) ho g.new (hr.scal hm) rfl (λ _ h=>nm h)) hc hv h
end
noncomputable def eP(ps:List (Addr×Obj)):List Addr:=ps.map (·.1)
inductive uA(h₀:Heap)(Fs:List (Addr×Obj))(Rd:GenState->List (Addr×Obj)->Prop)(G:List Addr)(aL:Shared)(d:D)(v:Value)(gs:GenState)(ac:Shared):Prop
 | mk (nw ps:List (Addr×Obj)) (hv:DV (nw++Fs) d v)
  (hn:∀ p∈nw,ac.heap.get? p.1=some p.2∧h₀.get? p.1=none∧aL.heap.get? p.1=none∧∀ q∈ps,q.1≠p.1)
  (hp:∀ p∈ps,ac.heap.get? p.1=some p.2∧h₀.get? p.1=none∧(p.1∈G∨aL.heap.objs.size<=p.1)) (rd:Rd gs ps)
noncomputable def No(h₀:Heap)(Fs:List (Addr×Obj))(Rd:GenState->List (Addr×Obj)->Prop)(G:List Addr)(aL:Shared):List D->End->Shared->Prop
 | []=>lw (λ _ _ _=>False) (λ ac=>jy h₀ G aL ac∧∃ tb,mQ w.params h₀ tb ac)
 | d::_=>lw (λ v gs ac=>(jy h₀ G aL ac∧∃ tb,mQ w.params h₀ tb ac)∧uA h₀ Fs Rd G aL d v gs ac) (λ _=>False)
noncomputable abbrev gh:=List (Addr×Obj)->List (Addr×Obj)->Heap->Prop
noncomputable def QR(h₀:Heap)(A:Around)(I:gh)(Rd:GenState->List (Addr×Obj)->Prop)(r:List D)(gs:GenState)(ps:List (Addr×Obj)):Prop:=
 ∀ s Fs tb,mQ w.params h₀ tb s->(∀ p∈ps,s.heap.get? p.1=some p.2)->I Fs ps s.heap->∃ c₀ t₀ fs₀,Fv gs=some (c₀,t₀,fs₀)∧SX (model prog w) A c₀ t₀ fs₀ s (No h₀ Fs Rd (eP ps) s r)
noncomputable def dJ(h₀:Heap)(A:Around)(I:gh):List D->GenState->List (Addr×Obj)->Prop
 | []=>QR h₀ A I (λ _ _=>False) []
 | d::r=>QR h₀ A I (dJ h₀ A I r) (d::r)
noncomputable def BW(h₀:Heap)(A:Around)(I:gh):List D->GenState->List (Addr×Obj)->Prop
 | []=>λ _ _=>False
 | _::r=>dJ h₀ A I r
theorem fq(h₀:Heap)(A:Around)(I:gh)(r:List D):dJ h₀ A I r=QR h₀ A I (BW h₀ A I r) r:=by cases r<;>rfl
structure QU(h₀:Heap)(gn:Nat)(ps:List (Addr×Obj))(s s':Shared):Prop where
 heap:∀ (b:Addr) (o:Obj),b∉eP ps->h₀.get? b=none->s.heap.get? b=some o->s'.heap.get? b=some o
 gens:∀ (j:Nat) (x:GenState),j≠gn->s.gens[j]?=some x->s'.gens[j]?=some x
 size:s.heap.objs.size<=s'.heap.objs.size
 os:s'.os=s.os
 raw:∃ tb,mQ w.params h₀ tb s'
inductive uy(h₀:Heap)(A:Around)(I:gh)(Fs:List (Addr×Obj))(gn:Nat)(ps:List (Addr×Obj))(s:Shared):List D->Option Value->Shared->Prop
 | nil {s':Shared}:uy h₀ A I Fs gn ps s [] none s'
 | cons {s':Shared} (d:D) (r:List D) (v:Value) (gs:GenState) (hg:s'.gens[gn]?=some gs) (it:uA h₀ Fs (dJ h₀ A I r) (eP ps) s d v gs s'):uy h₀ A I Fs gn ps s (d::r) (some v) s'
section
variable{h₀:Heap}{A:Around}{s ac:Shared}{gn:Nat}{gs:GenState}{G:List Addr}
theorem nx{s:Shared}{g j:Nat}{gs x:GenState}(h:j≠g)(hx:s.gens[j]?=some x):(s.setGen g gs).gens[j]?=some x:=(Array.getElem?_setIfInBounds_ne (Ne.symm h)).trans hx
theorem ka{s:Shared}{g:Nat}{gs x:GenState}(hx:s.gens[g]?=some x):(s.setGen g gs).gens[g]?=some gs:=by
 show (s.gens.setIfInBounds g gs)[g]?=_
 simp [(Array.getElem?_eq_some_iff.mp hx).1]
theorem K8(hA:bD 1 A){ga:Nat}{r:List D}{ps:List (Addr×Obj)}{tb:Tb}{I:gh}{Fs:List (Addr×Obj)}(rd:dJ h₀ A.in1 I r gs ps)(hraw:mQ w.params h₀ tb s)(hl:s.heap.NoLimit)(hg:s.heap.IsGen ga gn)(hgs:s.gens[gn]?=some gs)
  (hps:∀ p∈ps,s.heap.get? p.1=some p.2) (hI:I Fs ps s.heap):wpAny (model prog w) A (pyNext (.ref ga)) (λ ov s'=>QU h₀ gn ps s s'∧uy h₀ A.in1 I Fs gn ps s r ov s') ah s:=by
 rw [fq] at rd
 obtain ⟨c₀,t₀,fs₀,hw,hrun⟩:=rd (s.setGen gn .running) Fs tb ⟨hraw.old,hraw.tab⟩ hps hI
 have gens:∀ {ac gs'},jy h₀ (eP ps) (s.setGen gn .running) ac->∀ j x,j≠gn->s.gens[j]?=some x->(ac.setGen gn gs').gens[j]?=some x:=λ e j x hj h=>nx hj (e.gens j x (nx hj h))
 cases r with
 | nil=>
  exact uZ (Y:=λ _ _ _=>False) (Z:=λ ac=>jy h₀ (eP ps) (s.setGen gn .running) ac∧∃ tb,mQ w.params h₀ tb ac) hA.handled hl hA.room hg hgs hw hrun (λ _ _ _ h=>h.elim) λ ac ⟨ext,tb',raw'⟩ h' hz' hk=>
   ⟨⟨λ b ob hb h0 ho=>hk b ob (ext.heap b ob hb h0 ho),gens ext,Ul ext.size hz',ext.os,tb',λ b ob hb hn=>hk b ob (raw'.old b ob hb hn),hk _ _ raw'.tab.1,raw'.tab.2⟩,.nil⟩
 | cons d r=>
  exact uZ (Y:=λ v gs ac=>(jy h₀ (eP ps) (s.setGen gn .running) ac∧∃ tb,mQ w.params h₀ tb ac)∧uA h₀ Fs (dJ h₀ A.in1 I r) (eP ps) (s.setGen gn .running) d v gs ac) (Z:=λ _=>False) hA.handled hl hA.room hg hgs hw hrun (λ v ac gs' ⟨⟨ext,tb',raw'⟩,nw,ps',hv,hn,hp,hrd⟩=>
   ⟨⟨ext.heap,gens ext,ext.size,ext.os,tb',raw'.old,raw'.tab⟩,.cons d r v gs' (ka (ext.gens gn .running (ka hgs))) ⟨nw,ps',hv,hn,hp,hrd⟩⟩) λ _ hz=>hz.elim
end
noncomputable def Mf(gn:Nat)(o:Obj):Prop:=∃ nm qn,o.cls= .type "generator" ∧ o.data= .fields #[.int gn 0,nm,qn]∧o.slots=#[]
structure kB(h₀:Heap)(A:Around)(I:gh)(gg:List (Nat×GenState))(ga gn:Nat)(oga:Obj)(ps pv:List (Addr×Obj))(gs:GenState)(r:List D)(s:Shared):Prop where
 rd:dJ h₀ A I r gs ps
 go:Mf gn oga
 hgs:s.gens[gn]?=some gs
 hgg:∀ x∈gg,x.1≠gn
 dga:ga∉eP ps
 dpv:∀ p∈pv,p.1∉eP ps
 dgv:∀ p∈pv,p.1≠ga
noncomputable abbrev qW(W:Wd)(nw pv:List (Addr×Obj))(tb:Tb):Wd:={ W with F:=⟨W.F.en,nw++W.F.fs⟩,pv:=pv,tb:=tb }
inductive j0(h₀:Heap)(A:Around)(I:gh)(W:Wd)(σ:St)(ga gn:Nat)(oga:Obj)(pv:List (Addr×Obj)):List D->Option Value->Shared->Prop
 | nil {s':Shared} (tb:Tb) (htb:tb.os=W.tb.os) (R:ae w.params h₀ (qW W [] pv tb) σ s'):j0 h₀ A I W σ ga gn oga pv [] none s'
 | cons {s':Shared} (d:D) (r:List D) (v:Value) (nw ps:List (Addr×Obj)) (gs:GenState) (tb:Tb) (htb:tb.os=W.tb.os) (hv:DV (nw++W.F.fs) d v) (R:ae w.params h₀ (qW W nw ((ga,oga)::(ps++pv)) tb) σ s') (g:kB h₀ A.in1 I W.gg ga gn oga ps pv gs r s'):j0 h₀ A I W σ ga gn oga pv (d::r) (some v) s'
inductive Fh(h₀:Heap)(A:Around)(I:gh)(W:Wd)(σ:St)(ga gn:Nat)(oga:Obj)(pv:List (Addr×Obj))(d:D)(r:List D)(y:Option Value)(s':Shared):Prop
 | mk (v:Value) (nw ps:List (Addr×Obj)) (gs:GenState) (tb:Tb) (e:y=some v) (htb:tb.os=W.tb.os) (hv:DV (nw++W.F.fs) d v) (R:ae w.params h₀ (qW W nw ((ga,oga)::(ps++pv)) tb) σ s') (g:kB h₀ A.in1 I W.gg ga gn oga ps pv gs r s')
inductive Fi(h₀:Heap)(W:Wd)(σ:St)(pv:List (Addr×Obj))(y:Option Value)(s':Shared):Prop
 | mk (tb:Tb) (e:y=none) (htb:tb.os=W.tb.os) (R:ae w.params h₀ (qW W [] pv tb) σ s')
noncomputable def wn(h₀:Heap)(A:Around)(I:gh)(W:Wd)(σ:St)(ga gn:Nat)(oga:Obj)(pv:List (Addr×Obj)):List D->Option Value->Shared->Prop
 | []=>Fi h₀ W σ pv
 | d::r=>Fh h₀ A I W σ ga gn oga pv d r
theorem j0.inv{h₀ A I W σ ga gn oga pv r y s'}(h:j0 h₀ A I W σ ga gn oga pv r y s'):wn h₀ A I W σ ga gn oga pv r y s':=
 j0.casesOn (motive:=λ r y s' _=>wn h₀ A I W σ ga gn oga pv r y s') h (λ tb htb R=>⟨tb,rfl,htb,R⟩) λ d r v nw ps gs tb htb hv R g=>⟨v,nw,ps,gs,tb,rfl,htb,hv,R,g⟩
section
variable{h₀:Heap}{A:Around}{I:gh}{W:Wd}{σ:St}{s s':Shared}{gn ga:Nat}{oga:Obj}{ps pv:List (Addr×Obj)}{gs:GenState}
theorem yZ{glob:Str->Option Value}{fns:Addr->Option FuncData}(G:GC h₀ glob fns)(hA:bD 1 A){r:List D}(R:ae w.params h₀ { W with pv:=(ga,oga)::(ps++pv) } σ s)(g:kB h₀ A.in1 I W.gg ga gn oga ps pv gs r s)(hI:I W.F.fs ps s.heap) :
  wpAny (model prog w) A (pyNext (.ref ga)) (j0 h₀ A I W σ ga gn oga pv r) ah s:=by
 have hps:=λ p (hp:p∈ps)=>R.pv p (.tail _ (List.mem_append.mpr (.inl hp)))
 have hpv:=λ p (hp:p∈pv)=>R.pv p (.tail _ (List.mem_append.mpr (.inr hp)))
 have hga:=R.pv (ga,oga) (.head _)
 have hin:∀ {b},b∈eP ps->b∉W.ρ∧h₀.get? b=none∧∀ q∈W.F.fs,q.1≠b:=λ hb=>let ⟨p,hp,e⟩:=List.mem_map.mp hb;e▸(hps p hp).2
 obtain ⟨vn,vq,h1,h2,h3⟩:=g.go
 refine aC (K8 hA g.rd R.raw (R.nolimit G) ⟨oga,vn,vq,hga.1,h1,h2,h3⟩ g.hgs (λ p hp=>(hps p hp).1) hI) λ ov s' ⟨kp,q⟩=>?_
 obtain ⟨tb',raw'⟩:=kp.raw
 have htb:tb'.os=W.tb.os:=raw'.tab.2.2.symm.trans (kp.os.trans R.tab.2.2)
 have base:∀ nw pv',(∀ p∈nw,s'.heap.get? p.1=some p.2∧h₀.get? p.1=none∧s.heap.get? p.1=none)->(∀ p∈pv',s'.heap.get? p.1=some p.2∧p.1∉W.ρ∧h₀.get? p.1=none∧∀ q∈nw++W.F.fs,q.1≠p.1)->ae w.params h₀ (qW W nw pv' tb') σ s':=λ nw pv' h1 h2=>
  ⟨R.len,R.nod,R.fr,λ a ha=>Nat.lt_of_lt_of_le (R.lt a ha) kp.size,λ p hp=>(List.mem_append.mp hp).elim (λ hp=>⟨(h1 p hp).1,(h1 p hp).2.1⟩) λ hp=>⟨kp.heap _ _ (λ hb=>(hin hb).2.2 p hp rfl) (R.fz p hp).2 (R.fz p hp).1,(R.fz p hp).2⟩,h2,λ x hx=>kp.gens x.1 x.2 (g.hgg x hx) (R.gg x hx),
   λ i ao a hi ha=>by
    have S:=R.slot i ao a hi ha
    have hm:=List.mem_of_getElem? ha
    refine S.to (List.prefix_refl _) ⟨rfl,λ _ h=>List.mem_append.mpr (.inr h)⟩ (λ o ho=>kp.heap a o (λ hb=>(hin hb).1 hm) (R.fr a hm) ho) λ q hq=>(List.mem_append.mp hq).elim (λ hq=> .inr λ e=>?_) .inl
    obtain ⟨o,ho,_⟩:=S
    exact ns ((h1 q hq).2.2.symm.trans (e▸ho)),raw'.old,raw'.tab⟩
 have keep:∀ {p:Addr×Obj},p.1∉eP ps->(s.heap.get? p.1=some p.2∧p.1∉W.ρ∧h₀.get? p.1=none∧∀ q∈W.F.fs,q.1≠p.1)->∀ {nw:List (Addr×Obj)},(∀ q∈nw,s.heap.get? q.1=none)->s'.heap.get? p.1=some p.2∧p.1∉W.ρ∧h₀.get? p.1=none∧∀ q∈nw++W.F.fs,q.1≠p.1:=
  @λ p hp h nw hn=>⟨kp.heap _ _ hp h.2.2.1 h.1,h.2.1,h.2.2.1,λ q hq=>(List.mem_append.mp hq).elim (λ hq e=>ns ((hn q hq).symm.trans (e▸h.1))) (h.2.2.2 q)⟩
 cases q with
 | nil=>exact .nil tb' htb (base [] pv (λ _ h=>nm h) λ p hp=>keep (g.dpv p hp) (hpv p hp) λ _ h=>nm h)
 | cons d r v gs' hg it=>
  obtain ⟨nw,ps',hv,hn,hp',rd'⟩:=it
  have alive:∀ {b o},b∉eP ps->s.heap.get? b=some o->b∉eP ps':=λ hb ho hm=>by
   obtain ⟨p,hp,e⟩:=List.mem_map.mp hm
   exact (hp' p hp).2.2.elim (λ h=>hb (e▸h)) λ h=>absurd (Heap.lt_size ho) (Nat.not_lt.mpr (e▸h))
  refine .cons d r v nw ps' gs' tb' htb hv (base nw _ (λ p hp=>⟨(hn p hp).1,(hn p hp).2.1,(hn p hp).2.2.1⟩) λ p hp=>?_) ⟨rd',g.go,hg,g.hgg,alive g.dga hga.1,λ p hp=>alive (g.dpv p hp) (hpv p hp).1,g.dgv⟩
  cases hp with
  | head=>exact keep g.dga hga λ q hq=>(hn q hq).2.2.1
  | tail _ hp=>
   refine (List.mem_append.mp hp).elim (λ hp=>?_) λ hp=>keep (g.dpv p hp) (hpv p hp) λ q hq=>(hn q hq).2.2.1
   obtain ⟨x1,x2,x3⟩:=hp' p hp
   refine ⟨x1,λ hm=>?_,x2,λ q hq=>(List.mem_append.mp hq).elim (λ hq e=>(hn q hq).2.2.2 p hp e.symm) λ hq e=>?_⟩
   ·rcases x3 with h | h
    ·exact (hin h).1 hm
    ·exact absurd (R.lt _ hm) (Nat.not_lt.mpr h)
   ·rcases x3 with h | h
    ·exact (hin h).2.2 q hq e
    ·exact absurd (Heap.lt_size (R.fz q hq).1) (Nat.not_lt.mpr (e▸h))
end
section
variable{A:Around}{c:Code}{fs:List Frame}{P:End->Shared->Prop}{s:Shared}{env:Env}{K:Flow->Sem PySem.Fin}{H:Value->Sem PySem.Fin}{gd:Bool->Bool}{lv:List Value->List Value}
theorem yB{e:Expr}{yp sp:Pos}(hfs:splitAtGen fs=none)(hgd:gd false=false)(hfg:fs.any Frame.guarded=false)
  (h:wpAny (model prog w) (A.over c fs) (eval e env) (λ v ac=>∀ (l:List Value) (k:Resume->Sem PySem.Fin) (p:Pos),(∀ (s':Shared) (P':End->Shared->Prop),SX (model prog w) A c (K .next) fs s' P'->SX (model prog w) A c (k (.send .none)) fs s' P')->P (.susp v false l k c p fs) ac) ah s)
  (hco:env.scope.isCoroutine=false:=by rfl) (hi:interactive env=false:=by rfl):SX (model prog w) A c ((exec (.Expr (.Yield (some e) yp) sp) env).wrap K H gd lv) fs s P:=by
 rw [exec_Expr env _ sp hi rfl]
 refine bT (wpAny_standAt ?_)
 show SX (model prog w) A c (((eval e env>>=λ v=>standAt yp>>=λ _=>yieldOut env v)>>=λ x=>dropValue (.Yield (some e) yp) sp x).wrap K H gd lv) fs s P
 rw [show (λ v=>standAt yp>>=λ _=>yieldOut env v)=λ v=>standAt yp>>=λ _=>yieldValue v by funext v;simp only [yieldOut,hco,Bool.false_eq_true,if_false]]
 simp only [bind_assoc]
 refine bT (aC h λ v ac q=>bT (wpAny_standAt ?_))
 show SX (model prog w) A c (.yield v (gd false) (lv []) _) fs ac P
 rw [hgd]
 exact X.s_yield _ _ _ _ _ _ _ _ _ _ hfs hfg λ p=>q _ _ p λ s' P' hs=>hs
end
section
variable{A:Around}{E:Value->Shared->Prop}{s:Shared}
theorem i5{it:Addr}{x:Str}{t:Tok}{i:Nat}{Q:Value->Shared->Prop}(hh:A.handled=none)
  (hit:s.heap.IsStrIter it "str_ascii_iterator" x t i) (hx:x.cps[i]?=none)
  (hE:∀ h' e,Heap.ExtBut it s.heap h'->(∃ o,h'.get? it=some o)->(∃ o,h'.get? e=some o∧o.cls= .type "StopIteration")->E (.ref e) { s with heap:=h' }) :
  wpAny (model prog w) A (Builtin.SmallTypes.nextOf (.ref it)) Q E s:=by
 obtain ⟨o,ho,hc,hd⟩:=id hit
 unfold Builtin.SmallTypes.nextOf
 refine Uj (wpAny_callSpecial?_slot (name:=Str.ofString "__next__") hit.typeIs F.slot_str_ascii_iterator_next
  (wpAny_call_entry F.slot_str_ascii_iterator_next hit.typeIs F.entry_str_ascii_iterator_next ?_ (F.args_str_ascii_iterator_next_1 _)))
 show wpAny _ _ (field (.ref it) 0>>=_) _ _ s
 refine Uj (wpAny_field ho hd (x:= .str x t) rfl ?_)
 show wpAny _ _ (field (.ref it) 1>>=_) _ _ s
 refine Uj (wpAny_field ho hd (x:= .int i 0) rfl ?_)
 simp only [Int.toNat_natCast,hx]
 refine Uj (wpAny_rule (Uj (wpAny_setField ho hd (by simp) (Uj (wpAny_letGo (Uj (iT λ h' e st=>wpAny_raiseNew_none hh ?_)))))))
 obtain ⟨o',_,ho',hc',_,k,_⟩:=st
 exact hE _ _ (λ b o'' hb h=>k b o'' ((Heap.SameBut.update ..).extBut b o'' hb h)) ⟨_,k _ _ (Heap.get?_update_self (h:=s.heap) _ ho (Obj.isFreed_of_fields (Obj.data_mapFields hd _)))⟩ ⟨o',ho',hc'⟩
theorem fC{e it:Addr}{x:Str}{t:Tok}{k:Nat}{i:Int}{old:Value}{Q:Option Value->Shared->Prop}(hh:A.handled=none)
  (hx:x.cps[k]?=none) (he:IsEnum s.heap e it i old) (hst:s.heap.IsStrIter it "str_ascii_iterator" x t k)
  (hQ:∀ h',Heap.ExtBut it s.heap h'->(∃ o,h'.get? it=some o)->Q none { s with heap:=h' }):wpAny (model prog w) A (pyNext (.ref e)) Q E s:=by
 have hT:s.TypeIs (.ref e) "enumerate" := ⟨_,he,rfl⟩
 unfold pyNext
 refine Uj (wpAny_attempt (wpAny_callSpecial?_slot (name:=Str.ofString "__next__") hT F.slot_enumerate_next
  (wpAny_call_entry F.slot_enumerate_next hT F.entry_enumerate_next ?_ (F.args_enumerate_next_1 _))))
 show wpAny _ _ (field (.ref e) 2>>=_) _ _ _
 refine Uj (wpAny_field he rfl (x:= .ref it) rfl ?_)
 exact Uj (i5 hh hst hx λ h' y he' hi hy=>Uj (wpAny_isInstance (T := "StopIteration") (b:=true) hy isSubtype_stop (Uk (hQ _ he' hi))))
end
section
variable{P:Params}{h₀:Heap}{s s' aL:Shared}{A:Around}{L e it:Addr}{x:Str}{t:Tok}{k:Nat}{m m':List (Str×V)}{G G':List Addr}{h':Heap}{tk:Nat}{tb:Tb}
noncomputable def Holds(G':List Addr)(h h':Heap):Prop:=∀ b o,b∉G'->h.get? b=some o->h'.get? b=some o
theorem vb{b:Addr}{o:Obj}(h0:∀ b∈G',h₀.get? b=none)(hb:h₀.get? b=some o):b∉G':=λ hm=>ns ((h0 b hm).symm.trans hb)
theorem Az(r:mQ P h₀ tb s)(h0:∀ b∈G',h₀.get? b=none)(hold:Holds G' s.heap h'):mQ P h₀ tb { s with heap:=h',toks:=tk }:=
 ⟨λ b o hb hn=>hold b o (vb h0 hb) (r.old b o hb hn),let ⟨_,q⟩:=r.tab.2.1;hold _ _ (vb h0 q) r.tab.1,r.tab.2⟩
theorem jc(hold:Holds G' s.heap h')(hz:s.heap.objs.size<=h'.objs.size):jy h₀ G' s { s with heap:=h',toks:=tk }:=⟨λ b o hb _ ho=>hold b o hb ho,λ _ _ h=>h,hz,rfl⟩
theorem k7(g:GL P h₀ L m s)(hL:L∉G')(h0:∀ b∈G',h₀.get? b=none)(hold:Holds G' s.heap h'):GL P h₀ L m { s with heap:=h',toks:=tk }:=
 let ⟨⟨tb,raw⟩,⟨o,ρ,F,ho,hr⟩,new⟩:=g
 ⟨⟨tb,Az raw h0 hold⟩,⟨o,ρ,F,hold _ _ hL ho,hr⟩,new⟩
theorem jy.step(e:jy h₀ G aL s)(e':jy h₀ G' s s')(h:∀ b∈G',b∈G∨aL.heap.objs.size<=b):jy h₀ G aL s':=
 ⟨λ b o hb h0 ho=>e'.heap b o (λ hm=>(h b hm).elim hb λ hz=>absurd (Heap.lt_size ho) (Nat.not_lt.mpr hz)) h0 (e.heap b o hb h0 ho),λ j x hx=>e'.gens j x (e.gens j x hx),Ul e.size e'.size,e'.os.trans e.os⟩
theorem fB{b:Addr}(r:mQ P h₀ tb s)(hb:s.heap.objs.size<=b):h₀.get? b=none:=by
 cases q:h₀.get? b with
 | none=>rfl
 | some o=>
  by_cases ht:b=b8
  ·exact absurd (Heap.lt_size r.tab.1) (Nat.not_lt.mpr (ht▸hb))
  ·exact absurd (Heap.lt_size (r.old b o q ht)) (Nat.not_lt.mpr hb)
theorem GL.lt(g:GL P h₀ L m s):L<s.heap.objs.size:=let ⟨_,_,_,ho,_⟩:=g.fr;Heap.lt_size ho
structure LS(P:Params)(h₀:Heap)(L e it:Addr)(x:Str)(t:Tok)(k:Nat)(m:List (Str×V))(s:Shared):Prop where
 g:GL P h₀ L m s
 en:∃ old,IsEnum s.heap e it (k:Int) old
 si:s.heap.IsStrIter it "str_ascii_iterator" x t k
 e0:h₀.get? e=none
 i0:h₀.get? it=none
 ei:e≠it
 eL:e≠L
 iL:it≠L
theorem LS.ext(l:LS P h₀ L e it x t k m s)(g:GL P h₀ L m' s')(x':jy h₀ [L] s s'):LS P h₀ L e it x t k m' s':=
 ⟨g,let ⟨old,h⟩:=l.en;⟨old,x'.heap _ _ (λ h=>l.eL (List.mem_singleton.mp h)) l.e0 h⟩,let ⟨o,ho,r⟩:=l.si;⟨o,x'.heap _ _ (λ h=>l.iL (List.mem_singleton.mp h)) l.i0 ho,r⟩,l.e0,l.i0,l.ei,l.eL,l.iL⟩
end
noncomputable def z3:gh:=λ _ _ _=>True
theorem F7:bA gF= .Tuple [.Name "pos" ⟨9,8,9,11⟩,.Name "ch" ⟨9,13,9,15⟩] 0 ⟨9,8,9,15⟩:=by kernel_rfl
theorem Mi:aJ gF= .Call (.Name "enumerate" ⟨9,19,9,28⟩) [.Name "addr" ⟨9,29,9,33⟩] [] ⟨9,19,9,34⟩:=by kernel_rfl
theorem Mg(x y:Str)(last i:Int)(esc:Bool)(ch:Option Str):cW gX gR cG (bA gF) (.d (.tup [.int i,.str y])) (gS (gm x last esc ch))=some (gS (gm x i esc (some y))):=by
 cases ch with
 | none=>exact IF ..
 | some z=>exact ID ..
theorem dg{A:Around}{s:Shared}{c:Code}{fs:List Frame}{P:End->Shared->Prop}{K:Flow->Sem PySem.Fin}{H:Value->Sem PySem.Fin}{gd:Bool->Bool}{lv:List Value->List Value}{env:Env}{b b':List Stmt}(e:b=b')
  (h:SX (model prog w) A c ((execs b' env).wrap K H gd lv) fs s P):SX (model prog w) A c ((execs b env).wrap K H gd lv) fs s P:=e▸h
structure eH(h₀:Heap)(L e it:Addr)(G:List Addr)(aL s:Shared):Prop where
 ext:jy h₀ G aL s
 hG:∀ b∈[L,e,it],b∈G∨aL.heap.objs.size<=b
 sub:∀ b∈G,b∈[L,e,it]
noncomputable abbrev RW(h₀:Heap)(A:Around)(I:gh)(Fs:List (Addr×Obj))(G:List Addr)(aL:Shared)(r:List D):End->Shared->Prop:=No h₀ Fs (BW h₀ A I r) G aL r
section
variable{h₀:Heap}{A:Around}{s s' aL:Shared}{G:List Addr}{L e it:Addr}{x:Str}{m:List (Str×V)}{c:Code}{fs:List Frame}{K:Flow->Sem PySem.Fin}{H:Value->Sem PySem.Fin}{gd:Bool->Bool}{lv:List Value->List Value}{Fs:List (Addr×Obj)}
theorem eH.step(r:eH h₀ L e it G aL s){G':List Addr}(x:jy h₀ G' s s')(h:G'⊆[L,e,it]):eH h₀ L e it G aL s':=⟨r.ext.step x λ b hb=>r.hG b (h hb),r.hG,r.sub⟩
theorem Cw{fs:List (Addr×Obj)}{i:Int}{y:Str}{v:Value}(h:DV fs (.tup [.int i,.str y]) v):∃ p∈fs,DV [p] (.tup [.int i,.str y]) v:=by
 cases h with
 | tup _ xs T n hm hs=>
  refine ⟨_,hm,.tup _ xs T n (.head _) ?_⟩
  cases hs with
  | cons _ x1 _ xs h1 hs=>cases hs with
   | cons _ x2 _ xs h2 hs=>
    cases hs
    cases h1;cases h2
    exact .cons _ _ _ _ (.int _ _) (.cons _ _ _ _ (.str _ _) .nil)
theorem yA(a:aB h₀ gX bz){ye:Expr}{yp sp:Pos}{y1:Int}{y2:Str}{r:List D}(hfs:splitAtGen fs=none)(hgd:gd false=false)(hfg:fs.any Frame.guarded=false)(hA:bD 6 (A.over c fs))
  (hm:x8 m=true) (hev:gR.E cG ye (gS m)=some (.d (.tup [.int y1,.str y2]),gS m)) (g:GL w.params h₀ L m s) (ru:eH h₀ L e it G aL s) (he:∃ o,s.heap.get? e=some o) (hi:∃ o,s.heap.get? it=some o) (e0:h₀.get? e=none) (i0:h₀.get? it=none) (eL:e≠L) (iL:it≠L)
  (go:∀ ac oe oi,GP h₀ L m s ac->ac.heap.get? e=some oe->ac.heap.get? it=some oi->s.heap.get? e=some oe->s.heap.get? it=some oi->∀ s'' Fs'',GL w.params h₀ L m s''->s''.heap.get? e=some oe->s''.heap.get? it=some oi->SX (model prog w) A c (K .next) fs s'' (RW h₀ A z3 Fs'' [L,e,it] s'' r)) :
  SX (model prog w) A c ((exec (.Expr (.Yield (some ye) yp) sp) (eY L)).wrap K H gd lv) fs s (RW h₀ A z3 Fs G aL (.tup [.int y1,.str y2]::r)):=by
 refine yB hfs hgd hfg (aC (P9 a hm (λ _=>rfl) g hev hA) λ v ac ⟨gp,fs',hv,hfr⟩ l k p hk=>?_) (by kernel_rfl) (by rfl)
 obtain ⟨q,hq,hv1⟩:=Cw hv
 obtain ⟨f1,f2,f3,f4⟩:=hfr q hq
 obtain ⟨oe,hoe⟩:=he
 obtain ⟨oi,hoi⟩:=hi
 have f4:∀ {b o},s.heap.get? b=some o->h₀.get? b=none->b≠q.1:=λ h h0=>f4 _ _ h h0 λ _ h=>nm h
 have hoe':=gp.ext.heap e oe (λ h=>eL (List.mem_singleton.mp h)) e0 hoe
 have hoi':=gp.ext.heap it oi (λ h=>iL (List.mem_singleton.mp h)) i0 hoi
 have ru':=ru.step gp.ext λ b hb=>List.mem_singleton.mp hb▸ .head _
 obtain ⟨oL,ρ,F,hoL,hrL⟩:=gp.g.fr
 obtain ⟨tb,raw⟩:=gp.g.raw
 have no:∀ b∈[L,e,it],b≠q.1:=λ b hb=>by
  cases hb with
  | head=>exact λ e=>f3 e.symm
  | tail _ hb=>cases hb with
   | head=>exact f4 hoe e0
   | tail _ hb=>exact List.mem_singleton.mp hb▸f4 hoi i0
 have mem:∀ p∈[(L,oL),(e,oe),(it,oi)],ac.heap.get? p.1=some p.2∧h₀.get? p.1=none∧p.1∈[L,e,it]:=λ p hp=>by
  cases hp with
  | head=>exact ⟨hoL,g.new,.head _⟩
  | tail _ hp=>cases hp with
   | head=>exact ⟨hoe',e0,.tail _ (.head _)⟩
   | tail _ hp=>exact List.mem_singleton.mp hp▸⟨hoi',i0,.tail _ (.tail _ (.head _))⟩
 refine ⟨⟨ru'.ext,tb,raw⟩,[q],[(L,oL),(e,oe),(it,oi)],hv1.mono λ _ h=>List.mem_append.mpr (.inl h),λ p hp=>?_,λ p hp=>⟨(mem p hp).1,(mem p hp).2.1,ru.hG _ (mem p hp).2.2⟩,?_⟩
 ·cases List.mem_singleton.mp hp
  refine ⟨f1,f2,?_,λ p hp=>no _ (mem p hp).2.2⟩
  cases h:aL.heap.get? q.1 with
  | none=>rfl
  | some o=>exact absurd rfl (f4 (ru.ext.heap _ o (λ hm=>no _ (ru.sub _ hm) rfl) f2 h) f2)
 ·show dJ h₀ A z3 r _ _
  rw [fq]
  exact λ s'' Fs'' tb'' raw'' hp'' _=>⟨_,_,_,rfl,hk s'' _ (go ac oe oi gp hoe' hoi' hoe hoi s'' Fs'' ⟨⟨_,raw''⟩,⟨oL,ρ,F,hp'' (L,oL) (.head _),hrL⟩,g.new⟩ (hp'' (e,oe) (.tail _ (.head _))) (hp'' (it,oi) (.tail _ (.tail _ (.head _)))))⟩
end
section
variable{h₀:Heap}{A:Around}{L e it:Addr}{x:Str}{t:Tok}{fs:List Frame}
structure x5(h₀:Heap)(L e it:Addr)(s:Shared):Prop where
 he:∃ o,s.heap.get? e=some o
 hi:∃ o,s.heap.get? it=some o
 e0:h₀.get? e=none
 i0:h₀.get? it=none
 eL:e≠L
 iL:it≠L
theorem LS.live{P:Params}{k:Nat}{m:List (Str×V)}{s:Shared}(l:LS P h₀ L e it x t k m s):x5 h₀ L e it s:=⟨let ⟨_,h⟩:=l.en;⟨_,h⟩,let ⟨_,h,_⟩:=l.si;⟨_,h⟩,l.e0,l.i0,l.eL,l.iL⟩
theorem x5.ext{s s':Shared}(l:x5 h₀ L e it s)(x:jy h₀ [L] s s'):x5 h₀ L e it s':=⟨let ⟨_,h⟩:=l.he;⟨_,x.heap _ _ (λ h=>l.eL (List.mem_singleton.mp h)) l.e0 h⟩,let ⟨_,h⟩:=l.hi;⟨_,x.heap _ _ (λ h=>l.iL (List.mem_singleton.mp h)) l.i0 h⟩,l.e0,l.i0,l.eL,l.iL⟩
noncomputable abbrev xN(L e:Addr):Code:= .forLoop (bA gF) (.ref e) (a9 gF) [] (eY L)
noncomputable def QY(h₀:Heap)(A:Around)(L e it:Addr)(x:Str)(t:Tok)(fs:List Frame)(cs:List Nat):Prop:=∀ k last esc ch s aL G Fs,x.cps.toList.drop k=cs->LS w.params h₀ L e it x t k (gm x last esc ch) s->eH h₀ L e it G aL s ->
 SX (model prog w) A (xN L e) (denote table (xN L e)) fs s (RW h₀ A z3 Fs G aL (jm cs k esc last))
theorem eH.self{s:Shared}:eH h₀ L e it [L,e,it] s s:=⟨.refl _ _ _,λ _ h=> .inl h,λ _ h=>h⟩
theorem FW{s:Shared}{h':Heap}(hk:∀ b o,b≠e->b≠it->s.heap.get? b=some o->h'.get? b=some o):Holds [e,it] s.heap h':=λ b o hb h=>hk b o (λ q=>hb (q▸ .head _)) (λ q=>hb (q▸ .tail _ (.head _))) h
theorem FL(e0:h₀.get? e=none)(i0:h₀.get? it=none):∀ b∈[e,it],h₀.get? b=none:=λ b hb=>by
 cases hb with
 | head=>exact e0
 | tail _ hb=>exact List.mem_singleton.mp hb▸i0
theorem G2(a:aB h₀ gX bz)(hfs:splitAtGen fs=none)(hfg:fs.any Frame.guarded=false)(hA:bD 6 (A.over (xN L e) fs))
  (hfin:∀ k last esc ch s aL G Fs,GL w.params h₀ L (gm x last esc ch) s->eH h₀ L e it G aL s->x5 h₀ L e it s->SX (model prog w) A (.block [] (eY L)) (leafOf (.ok .next)) fs s (RW h₀ A z3 Fs G aL (jm [] k esc last))):∀ cs,QY h₀ A L e it x t fs cs:=by
 intro cs
 have hh:(A.over (xN L e) fs).in1.handled=none:=hA.handled
 induction cs with
 | nil=>
  intro k last esc ch s aL G Fs hk l ru
  have hkx:x.cps[k]?=none:=by
   have:=List.drop_eq_nil_iff.mp hk
   simpa using this
  obtain ⟨old,hen⟩:=l.en
  refine fy (b7 (fC hh hkx hen l.si λ h' hk' hi hz=>?_))
  have hold:Holds [e,it] s.heap h':=FW λ b o _ hb ho=>hk' b o hb ho
  have hL:L∉[e,it]:=λ h=>by
   cases h with
   | head=>exact l.eL rfl
   | tail _ h=>exact l.iL (List.mem_singleton.mp h).symm
  exact hfin k last esc ch _ _ _ _ (k7 (tk:=s.toks) l.g hL (FL l.e0 l.i0) hold) (ru.step (jc (tk:=s.toks) hold hz) λ _ h=> .tail _ h) ⟨⟨_,hk' _ _ l.ei hen⟩,hi,l.e0,l.i0,l.eL,l.iL⟩
 | cons cp cs ih=>
  intro k last esc ch s aL G Fs hk l ru
  have hcp:x.cps[k]?=some cp:=by
   have:(x.cps.toList.drop k)[0]?=some cp:=by rw [hk];rfl
   rw [List.getElem?_drop] at this
   simpa using this
  have hlt:k<x.cps.size:=(Array.getElem?_eq_some_iff.mp hcp).1
  have hk1:x.cps.toList.drop (k+1)=cs:=by
   rw [← List.drop_drop,hk];rfl
  obtain ⟨old,hen⟩:=l.en
  obtain ⟨tb,raw⟩:=l.g.raw
  have hL:L∉[e,it]:=λ h=>by
   cases h with
   | head=>exact l.eL rfl
   | tail _ h=>exact l.iL (List.mem_singleton.mp h).symm
  refine fy (wpAny_pyNext_enum_itemD (Draws.strAscii hh it x t) hen l.si hlt l.ei (by simp [l.ei]) λ y ab tk hP heo hsi htu L6 L8=>?_)
  obtain ⟨c,u,hc,rfl⟩:=hP
  cases hcp.symm.trans hc
  rw [F7]
  refine wpAny_letOwnedTupleGo_enum heo λ ik Ma vG=>?_
  rw [← F7]
  have hold:Holds [e,it] s.heap ik:=FW λ b o hb hb2 ho=>(vG.2 b hb).trans (L8 b o hb hb2 ho)
  have Md:GL w.params h₀ L (gm x last esc ch) { s with heap:=ik,toks:=tk+1 }:=k7 l.g hL (FL l.e0 l.i0) hold
  have KF:eH h₀ L e it G aL { s with heap:=ik,toks:=tk+1 }:=ru.step (jc hold (by have:=vG.1.trans L6;omega)) λ _ h=> .tail _ h
  have Iw:=(vG.2 _ (Nat.ne_of_lt (Heap.lt_size hen)).symm).trans htu
  obtain ⟨oi,hoi,ri⟩:=hsi
  have l₂:LS w.params h₀ L e it x t (k+1) (gm x last esc ch) { s with heap:=ik,toks:=tk+1 }:=⟨Md,⟨_,Ma⟩,⟨oi,(vG.2 _ l.ei.symm).trans hoi,ri⟩,l.e0,l.i0,l.ei,l.eL,l.iL⟩
  have own:[L]⊆[L,e,it]:=λ b hb=>List.mem_singleton.mp hb▸ .head _
  refine aC (Ix a (fs:=[(s.heap.objs.size,aF "tuple" [.int k tk,.str ⟨#[cp]⟩ u] 0)]) (d:= .tup [.int (k:Int),.str ⟨#[cp]⟩]) (d6 _ _ _ _) (λ en=>by rfl) (.tup _ _ _ _ (.head _) (.cons _ _ _ _ (.int _ _) (.cons _ _ _ _ (.str _ _) .nil))) Md (λ p hp=>?_) (Mg ..) hA) λ _ a8 Dp H=>?_
  ·cases List.mem_singleton.mp hp
   exact ⟨Iw,fB raw (Nat.le_refl _),(Nat.ne_of_lt l.g.lt).symm⟩
  have bb:=l₂.ext Dp.g Dp.ext
  refine dg AX (cb (uH (aC (Iy a (d6 _ _ _ _) bb.g (IB ..) hA) λ b dy ⟨eb,o3⟩=>?_)))
  subst eb
  have m7:=bb.ext o3.g o3.ext
  have FB:=(KF.step Dp.ext own).step o3.ext own
  have next:∀ {m:List (Str×V)} {ac s'':Shared} {oe oi:Obj},LS w.params h₀ L e it x t (k+1) m ac->ac.heap.get? e=some oe->ac.heap.get? it=some oi->GL w.params h₀ L m s''->s''.heap.get? e=some oe->s''.heap.get? it=some oi->LS w.params h₀ L e it x t (k+1) m s'':=λ l h1 h2 g h3 h4=>
   ⟨g,let ⟨old,h⟩:=l.en;⟨old,h3.trans (h1.symm.trans h)⟩,let ⟨o,ho,r⟩:=l.si;⟨o,h4.trans (h2.symm.trans ho),r⟩,l.e0,l.i0,l.ei,l.eL,l.iL⟩
  have yld:∀ {ye yp sp m ac} {y2:Str} {r:List D} {K:Flow->Sem PySem.Fin},x8 m=true->gR.E cG ye (gS m)=some (.d (.tup [.int k,.str y2]),gS m)->LS w.params h₀ L e it x t (k+1) m ac->eH h₀ L e it G aL ac ->
    (∀ s'' Fs'',LS w.params h₀ L e it x t (k+1) m s''->SX (model prog w) A (xN L e) (K .next) fs s'' (RW h₀ A z3 Fs'' [L,e,it] s'' r))->SX (model prog w) A (xN L e) ((exec (.Expr (.Yield (some ye) yp) sp) (eY L)).wrap K H id id) fs ac (RW h₀ A z3 Fs G aL (.tup [.int k,.str y2]::r)):=λ hm hev l ru go=>
   yA a hfs rfl hfg hA hm hev l.g ru l.live.he l.live.hi l.e0 l.i0 l.eL l.iL λ ac oe oi p h1 h2 _ _ s'' Fs'' g h3 h4=>go s'' Fs'' (next (l.ext p.g p.ext) h1 h2 g h3 h4)
  cases b with
  | true=>
   refine dg AU (cb (yld (d6 _ _ _ _) (Qc ..) m7 FB λ s'' Fs'' l'=>?_))
   refine cb (ni (aC (Me a (d6 _ _ _ _) l'.g (Qe ..) hA) λ f iQ ⟨ef,p⟩=>?_))
   subst ef
   exact X.s_again _ _ _ _ _ _ _ _ rfl (ih (k+1) _ _ _ _ _ _ _ hk1 (l'.ext p.g p.ext) (eH.self.step p.ext own))
  | false=>
   refine dg AW (cb (uH (aC (Iy a (d6 _ _ _ _) m7.g (Qg ..) hA) λ b iQ ⟨eb,HD⟩=>?_)))
   have pj:=m7.ext HD.g HD.ext
   have FA:=FB.step HD.ext own
   have hesc:jm (cp::cs) k false last=if b=true then jm cs (k+1) true k else .tup [.int k,.str ⟨#[cp]⟩]::jm cs (k+1) false k:=eb▸rfl
   rw [hesc]
   cases b with
   | true=>
    refine dg xt (cb (ni (aC (Me a (d6 _ _ _ _) pj.g (Qd ..) hA) λ f Kk ⟨ef,p⟩=>?_)))
    subst ef
    exact X.s_again _ _ _ _ _ _ _ _ rfl (ih (k+1) _ _ _ _ _ _ _ hk1 (pj.ext p.g p.ext) (FA.step p.ext own))
   | false=>
    refine dg xv (cb (yld (d6 _ _ _ _) (Qb ..) pj FA λ s'' Fs'' l'=>?_))
    exact X.s_again _ _ _ _ _ _ _ _ rfl (ih (k+1) _ _ _ _ _ _ _ hk1 l' eH.self)
end
theorem Ml:bt gB 0= .Assign [.Name "pos" ⟨7,4,7,7⟩] (.Constant (.int 0) 0 ⟨7,10,7,11⟩) ⟨7,4,7,11⟩:=by kernel_rfl
theorem Mk:bt gB 1= .Assign [.Name "escape" ⟨8,4,8,10⟩] (.Constant (.bool false) 0 ⟨8,13,8,18⟩) ⟨8,4,8,18⟩:=by kernel_rfl
theorem Gq:cG.fr=0:=by kernel_rfl
noncomputable def m1(x:Str):List (Str×V):=[("addr",.d (.str x)),("pos",.d (.int 0))]
section
variable{h₀:Heap}{A:Around}{L e it:Addr}{x:Str}{s aL:Shared}{G:List Addr}{Fs:List (Addr×Obj)}
theorem Ed(g:GL w.params h₀ L [("addr",.d (.str x))] s):wpAny (model prog w) A (exec (bt gB 0) (eY L)) (λ f s'=>f= .next∧GP h₀ L (m1 x) s s'∧s'.heap.objs.size=s.heap.objs.size) ah s:=by
 rw [Ml]
 exact wpAny_Assign_Name (wpAny_mkInt (aC (tY sf Gq (by rfl) g.tok (.mkInt _ _) (by kernel_rfl)) λ _ s' q=>⟨rfl,⟨q.1.g,jy.tok.trans q.1.ext⟩,q.2⟩))
theorem Ec(g:GL w.params h₀ L (m1 x) s):wpAny (model prog w) A (exec (bt gB 1) (eY L)) (λ f s'=>f= .next∧GP h₀ L (gm x 0 false none) s s'∧s'.heap.objs.size=s.heap.objs.size) ah s:=by
 rw [Mk]
 exact wpAny_Assign_Name (Uk (aC (tY sf Gq (by rfl) g (.mkBool _) (by kernel_rfl)) λ _ s' q=>⟨rfl,q.1,q.2⟩))
theorem CI(a:aB h₀ gX bz)(hA:bD 6 (A.over (.func gB (eY L)) [])){H:Value->Sem PySem.Fin}{lv:List Value->List Value}{k:Nat}{last:Int}{esc:Bool}{ch:Option Str}(g:GL w.params h₀ L (gm x last esc ch) s)(ru:eH h₀ L e it G aL s)(l:x5 h₀ L e it s) :
  SX (model prog w) A (.func gB (eY L)) ((execs [.If (mn gI) (gc gI) [] (bE gI)] (eY L)).wrap (λ f=> .pure (.done (.ret (match f with | .ret v=>v | _=> .none)))) H id lv) [] s (RW h₀ A z3 Fs G aL (jm [] k esc last)):=by
 have own:[L]⊆[L,e,it]:=λ b hb=>List.mem_singleton.mp hb▸ .head _
 have fin:∀ {m aL s G Fs},GL w.params h₀ L m s->eH h₀ L e it G aL s->SX (model prog w) A (.func gB (eY L)) (leafOf (.ok (.ret .none))) [] s (RW h₀ A z3 Fs G aL []):=λ g ru=>X.s_end _ _ _ _ _ _ (.ok (.ret .none)) _ rfl ⟨ru.ext,g.raw⟩
 refine cb (uH (aC (Iy a (d6 _ _ _ _) g (Qf ..) hA) λ b dy ⟨eb,o3⟩=>?_))
 subst eb
 cases b with
 | false=>exact fin o3.g (ru.step o3.ext own)
 | true=>
  have m7:=l.ext o3.ext
  exact dg AV (cb (yA a rfl rfl rfl hA (d6 _ _ _ _) (Qa ..) o3.g (ru.step o3.ext own) m7.he m7.hi m7.e0 m7.i0 m7.eL m7.iL λ ac oe oi p _ _ _ _ s'' Fs'' g'' _ _=>fin g'' eH.self))
theorem Qh:aX gX.glob cG "enumerate" (gS (gm x 0 false none))=some (.glob (.type "enumerate")):=by kernel_rfl
theorem Qi:aX gX.glob cG "addr" (gS (gm x 0 false none))=some (.d (.str x)):=by kernel_rfl
theorem Ee(a:aB h₀ gX bz)(g:GL w.params h₀ L (gm x 0 false none) s)(hx:aR x=true) :
  wpAny (model prog w) A (eval (aJ gF) (eY L)) (λ v s'=>v= .ref (s.heap.objs.size+1)∧∃ t,LS w.params h₀ L (s.heap.objs.size+1) s.heap.objs.size x t 0 (gm x 0 false none) s'∧jy h₀ [] s s') ah s:=by
 rw [Mi]
 show wpAny _ A (eval (.Name "enumerate" _) (eY L)>>=λ fv=>callWith _ fv [] (backTo _ (starEach [.Name "addr" _] (eY L))) []) _ ah s
 refine Uj (wpAny_Name (pG a.G sf (d6 _ _ _ _) g Qh λ z hz=>?_) (by decide))
 cases hz
 refine aN (aU (λ e he=>by cases he;rfl) ?_)
 rw [aV rfl]
 refine Calls.spliced_cons (wpAny_Name (pG a.G sf (d6 _ _ _ _) g Qi λ z hz=>?_) (by decide))
 obtain ⟨t,rfl⟩:=hz.str
 refine Calls.spliced_nil ⟨λ Q hq=>Uk (hq _),?_⟩
 obtain ⟨tb,raw⟩:=g.raw
 have hty:strIterType x = "str_ascii_iterator" := by
  unfold strIterType
  unfold aR at hx
  simp [hx]
 refine call_enumerate_str λ h' he hi hz hk=>⟨rfl,t,?_⟩
 rw [hty] at hi
 have hold:Holds [] s.heap h':=λ b o _ h=>hk b o h
 exact ⟨⟨k7 (tk:=s.toks) g (λ h=>nm h) (λ _ h=>nm h) hold,⟨_,he⟩,hi,fB raw (Nat.le_succ _),fB raw (Nat.le_refl _),Nat.succ_ne_self _,(Nat.ne_of_lt (Nat.lt_succ_of_lt g.lt)).symm,(Nat.ne_of_lt g.lt).symm⟩,jc (tk:=s.toks) hold (hz▸Nat.le_add_right _ _)⟩
theorem bD.overF{n:Nat}(h:bD (n+1) A){t:Expr}{it:Value}{b body:List Stmt}{env env':Env}{k:Result->Sem PySem.Fin}{g:Bool}{l:List Value}{p q:Pos}:bD n (A.over (.forLoop t it body [] env) [.ret k none g l (.func b env') p []]):=
 h.go h.handled (Nat.add_le_add_left (by decide:1<=8) _) (Nat.add_le_add_left (by decide:3<=16) _)
theorem bD.over0{n:Nat}(h:bD (n+1) A){b:List Stmt}{env:Env}:bD n (A.over (.func b env) []):=h.go h.handled (Nat.add_le_add_left (by decide:1<=8) _) (Nat.add_le_add_left (by decide:3<=16) _)
theorem qR(a:aB h₀ gX bz)(hA:bD 8 A){ρ:List Addr}{F:Fz}{o:Obj}(hr:OR w.params ρ F (Cm [("addr",.d (.str x))]) o)(new:h₀.get? L=none)(hx:aR x=true) :
  dJ h₀ A z3 (jm x.cps.toList 0 false 0) (.fresh (.func gB (eY L))) [(L,o)]:=by
 rw [fq]
 refine λ s Fs tb raw hp _=>⟨_,_,_,rfl,uG (dg Mj ?_)⟩
 refine cb (ni (aC (Ed ⟨⟨tb,raw⟩,⟨o,ρ,F,hp (L,o) (.head _),hr⟩,new⟩) λ f ac ⟨e₁,cq,OJ⟩=>?_))
 subst e₁
 refine cb (ni (aC (Ec cq.g) λ f az ⟨IQ,mX,OI⟩=>?_))
 subst IQ
 refine cb (yC (λ z=>by rfl) (aC (Ee a mX.g hx) λ v a8 ⟨ev,t,ls,OL⟩=>?_))
 subst ev
 obtain ⟨old,hen⟩:=id ls.en
 have hz:=OI.trans OJ
 refine wpAny_pyIter_enum hen λ k p hk=>G2 a rfl rfl ((hA.le (Nat.le_succ 7)).overF (q:=p)) (λ k' last esc ch s' Ra G' Fs' g ru l=>X.s_pop _ _ _ _ _ _ _ (.ok .next) _ rfl _ _ _ _ _ _ _ (hk _ _ (CI a (hA.le (Nat.le_succ 7)).over0 g ru l))) _ 0 0 false none a8 s [L] Fs rfl ls
  ⟨(cq.ext.trans mX.ext).step OL λ _ h=>nm h,λ b hb=>?_,λ b hb=>List.mem_singleton.mp hb▸ .head _⟩
 rw [hz] at hb
 cases hb with
 | head=>exact .inl (.head _)
 | tail _ hb=>exact .inr (by cases hb with
  | head=>exact Nat.le_succ _
  | tail _ hb=>exact Up (List.mem_singleton.mp hb).symm)
end
noncomputable abbrev bZ:=Fl->(Nat->D)->St->Prop
noncomputable abbrev fu:=V->(Nat->D)->St->Prop
inductive LQ(G:Heap->Prop)(W:Wd)(P:bZ)(x:Flow)(s':Shared):Prop
 | mk (h:Heap) (f:Fl) (W':Wd) (σ':St) (g:G h) (l:W.lf W') (r:FR W' f x) (R:ae w.params h W' σ' s') (p:P f W'.F.en σ')
inductive LV(G:Heap->Prop)(W:Wd)(P:fu)(x:Value)(s':Shared):Prop
 | mk (h:Heap) (v:V) (W':Wd) (σ':St) (g:G h) (l:W.lf W') (r:VR W'.ρ W'.F v x) (R:ae w.params h W' σ' s') (p:P v W'.F.en σ')
structure jw(h₀:Heap)(N:Nat)(c:aw)(en:Nat->D)(σ:St)(W:Wd)(A:Around)(s:Shared):Prop where
 e:W.F.en=en
 ok:c.Ok W.ρ.length
 a:bD N A
 R:ae w.params h₀ W σ s
structure TF(h₀:Heap)(G:Heap->Prop)(N:Nat)(c:aw)(t:Env->Sem Flow)(en:Nat->D)(σ:St)(P:bZ):Prop where
 ap:∀ W A s,jw h₀ N c en σ W A s->wpAny (model prog M.Internal.w) A (t (c.env W.ρ)) (LQ G W P) ah s
structure TV(h₀:Heap)(G:Heap->Prop)(N:Nat)(c:aw)(t:Env->Sem Value)(en:Nat->D)(σ:St)(P:fu):Prop where
 ap:∀ W A s,jw h₀ N c en σ W A s->wpAny (model prog M.Internal.w) A (t (c.env W.ρ)) (LV G W P) ah s
section
variable{h₀:Heap}{G G₁:Heap->Prop}{N:Nat}{c:aw}{en:Nat->D}{σ:St}{W W₁:Wd}{A:Around}{s:Shared}{P P':bZ}{V':fu}
theorem LQ.lf{x:Flow}(h:LQ G W₁ P x s)(l:W.lf W₁):LQ G W P x s:=let ⟨h,f,W',σ',g,l',r,R,p⟩:=h;⟨h,f,W',σ',g,l.trans l',r,R,p⟩
theorem LV.lf{x:Value}(h:LV G W₁ V' x s)(l:W.lf W₁):LV G W V' x s:=let ⟨h,f,W',σ',g,l',r,R,p⟩:=h;⟨h,f,W',σ',g,l.trans l',r,R,p⟩
theorem aw.Ok.lf{W':Wd}(h:c.Ok W.ρ.length)(l:W.lf W'):c.Ok W'.ρ.length:=h.mono l.rho.length_le
theorem jw.env{W':Wd}(a:jw h₀ N c en σ W A s)(l:W.lf W'):c.env W'.ρ=c.env W.ρ:=aw.env_pre l.rho a.ok
theorem jw.to{ab:Heap}{W':Wd}{σ':St}{s':Shared}(a:jw h₀ N c en σ W A s)(l:W.lf W')(R:ae w.params ab W' σ' s'):jw ab N c W'.F.en σ' W' A s':=⟨rfl,a.ok.lf l,a.a,R⟩
theorem jw.at{X:Cx}{r:b5}{M:Nat}(a:jw h₀ N c en σ W A s)(hM:M<=N)(k:cx X.K X.O en):At ⟨h₀,X,M,r⟩ c (c.env W.ρ) A W σ s:=⟨⟨a.e.symm▸k,a.a.le hM,a.R⟩,a.ok,rfl⟩
theorem TF.go{ab:Heap}{t:Env->Sem Flow}{σ':St}{W':Wd}{s':Shared}(h:TF ab G N c t W'.F.en σ' P)(a:jw h₀ N c en σ W A s)(l:W.lf W')(R:ae w.params ab W' σ' s'):wpAny (model prog w) A (t (c.env W.ρ)) (LQ G W P) ah s':=
 a.env l▸aC (h.ap W' A s' (a.to l R)) λ _ _ q=>q.lf l
theorem TF.nil(h:P .next en σ):TF h₀ (Eq h₀) N c (execs []) en σ P:= .mk λ _ _ _ a=>wpAny_execs_nil ⟨_,.next,_,_,rfl,.refl _,trivial,a.R,a.e▸h⟩
theorem TF.re{t:Env->Sem Flow}{en':Nat->D}{σ':St}(ag:bQ σ.length en σ en' σ')(h:TF h₀ G N c t en' σ' P):TF h₀ G N c t en σ P:= .mk λ W A s a=>by
 obtain ⟨ρ',l,R⟩:=a.R.again (n₀:=σ.length) (en':=en') (σ':=σ') (a.e.symm▸ag)
 rw [List.take_of_length_le (Up a.R.len.symm)] at l
 exact TF.go (W':={ W with ρ:=ρ',F:=⟨en',W.F.fs⟩ }) h a ⟨l,λ _ h=>h,rfl,rfl,rfl⟩ R
noncomputable def GM(G₁ G:Heap->Prop)(N:Nat)(c:aw)(us:List Stmt)(P:bZ):bZ:=λ f en' σ'=>match f with
 | .next=>∀ h,G₁ h->TF h G N c (execs us) en' σ' P
 | f=>P f en' σ'∧∀ h,G₁ h->G h
theorem TF.cons{t:Stmt}{us:List Stmt}(h:TF h₀ G₁ N c (exec t) en σ (GM G₁ G N c us P)):TF h₀ G N c (execs (t::us)) en σ P:= .mk λ W A s a=>
 wpAny_execs_cons (aC (h.ap W A s a) λ x ac ⟨ab,f,W₁,σ₁,g,l,fr,ax,hp⟩=>by
  cases f with
  | next=>
   rw [show x= .next from FR.next fr]
   exact TF.go (hp ab g) a l ax
  | _=>cases x with
   | next=>exact False.elim fr
   | _=>exact ⟨ab,_,W₁,σ₁,hp.2 ab g,l,fr,ax,hp.1⟩)
theorem TF.run{X:Cx}{H:Hk}(ok:aB h₀ X H){M:Nat}(hM:M+X.need<=N){ts:List Stmt}{f:Fl}{σ₁:St}(k:cx X.K X.O en)(e:af (cy X H M) c ts σ=some (f,σ₁))(h:P f en σ₁):TF h₀ (Eq h₀) N c (execs ts) en σ P:= .mk λ W A s a=>
 aC (aE (aZ ok M) ts σ _ e _ A W s (a.at hM k)) λ x ac ⟨W₁,le,fr,ax⟩=>⟨_,f,W₁,σ₁,rfl,le.lf,fr,ax,(le.fz.en.trans a.e).symm▸h⟩
theorem TF.runs{X:Cx}{H:Hk}(ok:aB h₀ X H){M:Nat}(hM:M+X.need<=N)(ts:List Stmt){us:List Stmt}{σ₁:St}(k:cx X.K X.O en)(e:af (cy X H M) c ts σ=some (.next,σ₁))(h:TF h₀ G N c (execs us) en σ₁ P):TF h₀ G N c (execs (ts++us)) en σ P:=by
 induction ts generalizing σ with
 | nil=>exact (Prod.mk.inj (Option.some.inj e)).2▸h
 | cons t ts ih=>
  obtain ⟨⟨f,cu⟩,hp,e⟩:=cY e
  cases f with
  | next=>exact TF.cons (G₁:=Eq h₀) <| .mk λ W A s a=>aC ((aZ ok M).X c t σ _ hp _ A W s (a.at hM k)) λ x ac ⟨W₁,le,fr,ax⟩=>⟨_,.next,W₁,cu,rfl,le.lf,fr,ax,λ ab q=>q▸(le.fz.en.trans a.e).symm▸ih e⟩
  | _=>exact nomatch e
end
noncomputable abbrev Fn:=Nat->List (Addr×Obj)->List (Nat×GenState)->List (Addr×Obj)->Prop
noncomputable abbrev qg(W:Wd)(p:List (Addr×Obj))(g:List (Nat×GenState)):Wd:={ W with pv:=p++W.pv,gg:=g++W.gg }
inductive Fm(h₀:Heap)(W:Wd)(σ:St)(y:Option Value)(s':Shared):Prop
 | mk (e:y=none) (tb:Tb) (htb:tb.os=W.tb.os) (R:ae w.params h₀ { W with tb:=tb } σ s')
inductive BY(h₀:Heap)(A:Around)(t:Expr)(it:Value)(S:Fn)(W:Wd)(σ:St)(k:Nat)(d:D)(y:Option Value)(s':Shared):Prop
 | mk (x:Value) (e:y=some x) (p:List (Addr×Obj)) (g:List (Nat×GenState)) (fs:List (Addr×Obj)) (tb:Tb) (htb:tb.os=W.tb.os) (hx:DV (fs++W.F.fs) d x) (hS:S (k+1) p g (fs++W.F.fs))
  (own:∀ Q:Unit->Shared->Prop,Q () s'->wpAny (model prog w) A (letOwnedTupleGo t it x) Q ah s') (R:ae w.params h₀ (qg { W with F:=⟨W.F.en,fs++W.F.fs⟩,tb:=tb } p g) σ s')
noncomputable def JB(h₀:Heap)(A:Around)(t:Expr)(it:Value)(S:Fn)(W:Wd)(σ:St)(k:Nat):Option D->Option Value->Shared->Prop
 | none=>Fm h₀ W σ
 | some d=>BY h₀ A t it S W σ k d
structure sE(h₀:Heap)(A:Around)(t:Expr)(it:Value)(L:List D)(dw:List Addr)(C:(Nat->D)->St->Prop)(pv:List (Addr×Obj))(gg:List (Nat×GenState))(S:Fn):Prop where
 mono:∀ k p g fs fs',S k p g fs->fs⊆fs'->S k p g fs'
 next:∀ k p g W σ s,dw <+: W.ρ->C W.F.en σ->W.pv=pv->W.gg=gg->S k p g W.F.fs->ae w.params h₀ (qg W p g) σ s->wpAny (model prog w) A (pyNext it) (JB h₀ A t it S W σ k L[k]?) ah s
noncomputable def fQ(n₀:Nat)(Next:(Nat->D)->St->Prop)(P:bZ):bZ:=λ f en' σ'=>match f with
 | .next=>∃ en'' σ'',bQ n₀ en' σ' en'' σ''∧Next en'' σ''
 | .cont=>∃ en'' σ'',bQ n₀ en' σ' en'' σ''∧Next en'' σ''
 | .brk=>P .next en' σ'
 | .ret u=>P (.ret u) en' σ'
inductive dG(h₀:Heap)(N n₀:Nat)(c:aw)(t:Expr)(body:List Stmt)(Next:(Nat->D)->St->Prop)(P:bZ)(d:D)(en:Nat->D)(σ:St):Prop
 | mk (X:Cx) (H:Hk) (M:Nat) (u:D) (bJ:St) (ok:aB h₀ X H) (hM:M+X.need<=N) (k:cx X.K X.O en) (hu:den en u=d) (ha:cW X (cy X H M) c t (.d u) σ=some bJ) (h:TF h₀ (Eq h₀) N c (execs body) en bJ (fQ n₀ Next P))
inductive j4(h₀:Heap)(L:List D)(S:Fn)(Inv:Nat->(Nat->D)->St->Prop)(W:Wd)(m:Nat)(s:Shared):Prop
 | mk (k:Nat) (σ:St) (W₁:Wd) (p:List (Addr×Obj)) (g:List (Nat×GenState)) (hm:m+k=L.length) (hi:Inv k W₁.F.en σ) (l:W.lf W₁) (hS:S k p g W₁.F.fs) (R:ae w.params h₀ (qg W₁ p g) σ s)
section
variable{h₀:Heap}{N n₀:Nat}{c:aw}{σ:St}{W W₁ ay:Wd}{A:Around}{s:Shared}{P:bZ}{L:List D}{S:Fn}{it:Value}{t:Expr}{Inv:Nat->(Nat->D)->St->Prop}{C:(Nat->D)->St->Prop}
theorem ae.out{p:List (Addr×Obj)}{g:List (Nat×GenState)}(l:(qg W p g).lf ay)(R:ae w.params h₀ ay σ s):W.lf { ay with pv:=W.pv,gg:=W.gg }∧ae w.params h₀ { ay with pv:=W.pv,gg:=W.gg } σ s:=
 ⟨⟨l.rho,l.fs,rfl,rfl,l.tb⟩,⟨R.len,R.nod,R.fr,R.lt,R.fz,λ q hq=>R.pv q (l.pv▸List.mem_append.mpr (.inr hq)),λ q hq=>R.gg q (l.gg▸List.mem_append.mpr (.inr hq)),R.slot,R.old,R.tab⟩⟩
theorem Wd.lf_it{p:List (Addr×Obj)}{g:List (Nat×GenState)}{fs:List (Addr×Obj)}{tb:Tb}(htb:tb.os=W.tb.os):W.lf { W with F:=⟨W.F.en,fs++W.F.fs⟩,tb:=tb }:=⟨List.prefix_refl _,λ _ h=>List.mem_append.mpr (.inr h),rfl,rfl,htb⟩
theorem j4.next{p:List (Addr×Obj)}{g:List (Nat×GenState)}{aP:Wd}{σ':St}{m k:Nat}(I:sE h₀ A t it L W.ρ C W.pv W.gg S)(hn:W.ρ.length<=n₀)(hm:m+1+k=L.length)(l:W.lf W₁)(bb:(qg W₁ p g).lf aP)(hS:S (k+1) p g W₁.F.fs)(R:ae w.params h₀ aP σ' s)
  (h:∃ en'' σ'',bQ n₀ aP.F.en σ' en'' σ''∧Inv (k+1) en'' σ''):∃ m',m'<m+1∧j4 h₀ L S Inv W m' s:=by
 obtain ⟨en',σ'',ag,hi⟩:=h
 obtain ⟨ρ',l',R'⟩:=R.again ag
 have hρ:W.ρ <+: ρ':=(List.prefix_take_iff.mpr ⟨l.rho.trans bb.rho,hn⟩).trans l'
 refine ⟨m,Nat.lt_succ_self m,k+1,σ'',{ aP with ρ:=ρ',F:=⟨en',aP.F.fs⟩,pv:=W₁.pv,gg:=W₁.gg },p,g,by rw [← hm,Nat.add_assoc m 1 k,Nat.add_comm 1 k],hi,⟨hρ,λ _ h=>bb.fs (l.fs h),l.pv,l.gg,bb.tb.trans l.tb⟩,I.mono _ _ _ _ _ hS bb.fs,?_⟩
 rw [show (qg { aP with ρ:=ρ',F:=⟨en',aP.F.fs⟩,pv:=W₁.pv,gg:=W₁.gg } p g)={ aP with ρ:=ρ',F:=⟨en',aP.F.fs⟩ } from by rw [show aP.pv=p++W₁.pv from bb.pv,show aP.gg=g++W₁.gg from bb.gg]]
 exact R'
theorem rn{Next:(Nat->D)->St->Prop}{Go:Shared->Prop}{Q:Flow->Shared->Prop}{f:Fl}{y:Flow}{en':Nat->D}{σ':St}(fr:FR W f y)(hc:fQ n₀ Next P f en' σ')(go:(∃ en'' σ'',bQ n₀ en' σ' en'' σ''∧Next en'' σ'')->Go s)
  (out:∀ f y,FR W f y->P f en' σ'->Q y s):Cc Go Q y s:=by
 cases f with
 | next=>exact FR.next fr▸go hc
 | cont=>cases y with
  | cont=>exact go hc
  | _=>exact False.elim fr
 | brk=>cases y with
  | brk=>exact out .next .next trivial hc
  | _=>exact False.elim fr
 | ret u=>cases y with
  | ret v=>exact out (.ret u) (.ret v) fr hc
  | _=>exact False.elim fr
inductive QM(h₀:Heap)(A:Around)(t:Expr)(it:Value)(L:List D)(S:Fn)(Inv:Nat->(Nat->D)->St->Prop)(W:Wd)(m:Nat)(y:Option Value)(s':Shared):Prop
 | stop (e:y=none) (σ:St) (W₁:Wd) (hi:Inv L.length W₁.F.en σ) (l:W.lf W₁) (R:ae w.params h₀ W₁ σ s')
 | item (x:Value) (e:y=some x) (m':Nat) (em:m=m'+1) (k:Nat) (hm:m'+1+k=L.length) (σ:St) (d:D) (W₁:Wd) (p:List (Addr×Obj)) (g:List (Nat×GenState)) (hL:L[k]?=some d) (hi:Inv k W₁.F.en σ) (l:W.lf W₁) (hx:DV W₁.F.fs d x) (hS:S (k+1) p g W₁.F.fs)
  (own:∀ Q:Unit->Shared->Prop,Q () s'->wpAny (model prog w) A (letOwnedTupleGo t it x) Q ah s') (R:ae w.params h₀ (qg W₁ p g) σ s')
theorem j4.step{m:Nat}(I:sE h₀ A t it L W.ρ C W.pv W.gg S)(hC:∀ k en σ,Inv k en σ->C en σ)(h:j4 h₀ L S Inv W m s):wpAny (model prog w) A (pyNext it) (QM h₀ A t it L S Inv W m) ah s:=by
 obtain ⟨k,σ,W₁,p,g,hm,hi,l,hS,R⟩:=h
 refine aC (I.next k p g W₁ σ s l.rho (hC _ _ _ hi) l.pv l.gg hS R) λ y ac q=>?_
 cases hL:L[k]? with
 | none=>
  rw [hL] at q
  obtain ⟨e,tb,htb,R'⟩:=q
  exact .stop e σ { W₁ with tb:=tb } (Nat.le_antisymm (hm▸Nat.le_add_left k m) (List.getElem?_eq_none_iff.mp hL)▸hi) ⟨l.rho,l.fs,l.pv,l.gg,htb.trans l.tb⟩ R'
 | some d=>
  rw [hL] at q
  obtain ⟨x,e,p',g',fs,tb,htb,hx,hS',own,R'⟩:=q
  cases m with
  | zero=>exact absurd (List.getElem?_eq_some_iff.mp hL).1 (Nat.not_lt.mpr (Up (hm.symm.trans (Nat.zero_add k))))
  | succ m=>exact .item x e m rfl k hm σ d { W₁ with F:=⟨W₁.F.en,fs++W₁.F.fs⟩,tb:=tb } p' g' hL hi (l.trans (Wd.lf_it (p:=p') (g:=g') (fs:=fs) htb)) hx hS' own R'
theorem A1{body:List Stmt}{p:List (Addr×Obj)}{g:List (Nat×GenState)}(I:sE h₀ A t it L W.ρ C W.pv W.gg S)(a:bD N A)(ok:c.Ok W.ρ.length)(hn:W.ρ.length<=n₀)
  (turn:∀ k d en σ,L[k]?=some d->Inv k en σ->dG h₀ N n₀ c t body (Inv (k+1)) P d en σ) (hend:∀ en σ,Inv L.length en σ->P .next en σ) (hC:∀ k en σ,Inv k en σ->C en σ) (h0:Inv 0 W.F.en σ) (hS:S 0 p g W.F.fs) (R:ae w.params h₀ (qg W p g) σ s) :
  codeAny (model prog w) A (.forLoop t it body [] (c.env W.ρ)) (J3 (LQ (Eq h₀) W P)) s:=by
 refine t0 (j4 h₀ L S Inv W) (λ m s hI=>aC (hI.step I hC) λ y ac q=>?_) L.length ⟨0,σ,W,p,g,rfl,h0,.refl W,hS,R⟩
 cases q with
 | stop e σ W₁ hi l R'=>exact e▸⟨_,.next,W₁,σ,rfl,l,trivial,R',hend _ _ hi⟩
 | item x e m em k hm σ d W₁ p g hL hi l hx hS own R'=>
  subst e em
  obtain ⟨X,H,M,u,bJ,aok,hM,kk,hu,ha,hT⟩:=turn k d _ σ hL hi
  have FH:c.Ok W₁.ρ.length:=ok.lf l
  have he:c.env W₁.ρ=c.env W.ρ:=aw.env_pre l.rho ok
  refine own _ (aC (dl (aZ aok M) aok.CO.toClsOk t (.d u) σ _ ha _ A (qg W₁ p g) ac x ⟨⟨kk,a.le hM,R'⟩,FH,he⟩ (.d u x (hu.symm▸hx))) λ _ az ⟨ay,aq,aG⟩=>?_)
  have hT:TF h₀ (Eq h₀) N c (execs body) ay.F.en bJ _:=aq.fz.en.symm▸hT
  refine aC (he▸hT.go (W:=qg W₁ p g) (s:=ac) ⟨rfl,FH,a,R'⟩ aq.lf aG) λ y a8 ⟨ab,f,aP,bk,e,bb,fr,bf,hc⟩=>?_
  exact rn fr hc (λ h=>j4.next I hn hm l bb hS (e▸bf) h) λ f y fr hp=>⟨_,f,_,bk,e,l.trans (ae.out bb bf).1,fr,(ae.out bb bf).2,hp⟩
end
inductive QN(src:iK)(it:Addr)(k:Nat)(p:List (Addr×Obj))(g:List (Nat×GenState))(fs:List (Addr×Obj)):Prop
 | mk (o:Obj) (ep:p=[(it,o)]) (eg:g=[]) (h:∀ W:Wd,fs⊆W.F.fs->aY W src k o)
section
variable{h₀:Heap}{N:Nat}{c:aw}{en:Nat->D}{σ:St}{W:Wd}{A:Around}{s:Shared}{P:bZ}{L:List D}{it:Addr}{t:Expr}{src:iK}{pv:List (Addr×Obj)}{gg:List (Nat×GenState)}{dw:List Addr}
theorem rJ(hs:ku L src)(hg:grs L=true)(hA:A.handled=none)(ht:a6 t src=true)(hd:∀ q∈pv,q.1≠it):sE h₀ A t (.ref it) L dw (λ _ _=>True) pv gg (QN src it) where
 mono:=λ _ _ _ _ _ ⟨o,ep,eg,h⟩ hf=>⟨o,ep,eg,λ W' q=>h W' (hf.trans q)⟩
 next:=λ k p g W σ s _ _ e _ ⟨o,ep,eg,h⟩ R=>by
  subst ep eg e
  refine aC (wO (W:=W) hs hA R hd (h W (List.Subset.refl _))) λ y s' q=>?_
  have q:=q.inv
  cases hL:L[k]? with
  | none=>
   rw [hL] at q
   exact ⟨q.1,W.tb,rfl,q.2⟩
  | some d=>
   rw [hL] at q
   obtain ⟨x,e,rx,o',hi',R'⟩:=q
   have rx:DV W.F.fs (den W.F.en d) x:=rx.inv
   rw [pQ _ d (vK.mp hg d (List.mem_of_getElem? hL))] at rx
   exact ⟨x,e,[(it,o')],[],[],W.tb,rfl,rx,⟨o',rfl,rfl,λ W' hf=>hi'.lf hs hg hf⟩,λ _ h=>i1 ht hi' (R'.pv (it,o') (.head _)).1 h,R'⟩
theorem TF.for{X:Cx}{H:Hk}(aok:aB h₀ X H){M:Nat}(hM:M+X.need<=N){e:Expr}{body:List Stmt}{p:Pos}{v:V}{σ₁:St}(hp:iC e=true)(k:cx X.K X.O en)(he:(cy X H M).E c e σ=some (v,σ₁))(hL:dR en v=some L)(ht:Ki en t v=true)
  (Inv:Nat->(Nat->D)->St->Prop) (turn:∀ k d en σ,L[k]?=some d->Inv k en σ->dG h₀ N σ₁.length c t body (Inv (k+1)) P d en σ) (hend:∀ en σ,Inv L.length en σ->P .next en σ) (h0:Inv 0 en σ₁):TF h₀ (Eq h₀) N c (exec (.For t e body [] p)) en σ P:= .mk λ W A s a=>by
 rw [exec_For]
 refine Uj (wpAny_standAt (Uj (aC ((aZ aok M).E c e σ _ he _ A W s (a.at hM k)) λ z ac ⟨W₁,le,rv,ax⟩=>?_)))
 have ee:W₁.F.en=en:=le.fz.en.trans a.e
 obtain ⟨hg,hi⟩:=nq (A:=A) ax rv (t:=t) (ee.symm▸ht) L (ee.symm▸hL)
 refine Uj (wpAny_of_eq (vi hp) (Uj (wpAny_standAt (Uj (Uo (aC hi λ u az ⟨src,hs,hok,⟨it,o,e1,hi,aG,hd⟩⟩=>?_))))))
 subst e1
 refine wpAny_runOwn (a.a.mark.symm▸a.env le.lf▸codeAny_mono (A1 (W:=W₁) (rJ hs hg a.a.handled hok hd) a.a (a.ok.lf le.lf) (Up ax.len.symm) turn hend (λ _ _ _ _=>trivial) (ee.symm▸h0) ⟨o,rfl,rfl,λ W' hf=>hi.lf hs hg hf⟩ aG) λ r s' q=>?_)
 cases r with
 | ok x=>exact LQ.lf q le.lf
 | error _=>exact q.elim
end
inductive B8(h₀:Heap)(A:Around)(I:gh)(W:Wd)(σ:St)(code:Addr->Code)(items:List D)(r:Value)(s':Shared):Prop
 | mk (ga gn:Nat) (oga:Obj) (L:Addr) (oL:Obj) (tb:Tb) (e:r= .ref ga) (htb:tb.os=W.tb.os) (R:ae w.params h₀ { W with pv:=(ga,oga)::([(L,oL)]++W.pv),tb:=tb } σ s') (g:kB h₀ A.in1 I W.gg ga gn oga [(L,oL)] W.pv (.fresh (code L)) items s')
section
variable{h₀:Heap}{A:Around}{W:Wd}{σ:St}{s:Shared}
theorem ae.genNew{P:Params}(R:ae P h₀ W σ s){gs:GenState}{o:Obj}(hf:o.isFreed=false){tk:Nat}:ae P h₀ { W with pv:=(s.heap.objs.size,o)::W.pv } σ { s with gens:=s.gens.push gs,toks:=tk,heap:=s.heap.push o }:=
 have ax:=R.pvNew (o:=o) hf tk
 ⟨ax.len,ax.nod,ax.fr,ax.lt,ax.fz,ax.pv,λ x hx=>(Array.getElem?_push_lt (Array.getElem?_eq_some_iff.mp (R.gg x hx)).1).trans (congrArg some (Array.getElem?_eq_some_iff.mp (R.gg x hx)).2),ax.slot,ax.old,ax.tab⟩
theorem vM{X:Cx}(G:GC h₀ X.glob X.fns)(Dd:GD h₀ X){fa:Addr}{fd:FuncData}{body:List Stmt}{m:List (Str×V)}{as:List V}{xs:List Value}{b:List (Str×V)}{items:List D}{I:gh}(hfd:X.fns fa=some fd)(hc:jL true fd=true)(hb:fd.body= .stmts body)
  (hbind:eF (fd.params.args.map (·.arg)) (fd.params.kwonlyargs.map (·.arg)) (X.dfl fa) (X.kdf fa) as=some b) (hst:bU (bC fd fa []).1 b (bC fd fa []).2=some [some (Cm m)])
  (ready:∀ L oL ρ F,OR w.params ρ F (Cm m) oL->h₀.get? L=none->dJ h₀ A.in1 I items (.fresh (.func body ((bC fd fa []).1.env [L]))) [(L,oL)])
  (R:ae w.params h₀ W σ s) (hx:VRs [] ⟨W.F.en,kN W.ρ σ s.heap++W.F.fs⟩ as xs) (a:bD 1 A):wpAny (model prog w) A (call (.ref fa) xs []) (B8 h₀ A I W σ (λ L=> .func body ((bC fd fa []).1.env [L])) items) ah s:=by
 have Fg:=(R.enterF W.F.en).clear
 have pf:=iD hc
 obtain ⟨⟨o,fx,ho,hd⟩,hcode⟩:=R.code G hfd
 obtain ⟨bx,hkr,hba⟩:=qL G Dd Fg hfd hc hx b hbind
 refine ca (codeAny_call_generator a.room ho hd pf.co pf.ge hb hcode (bn (hba (bn (cP pf.env ?_)))))
 refine iz (clo:=[]) (around:=none) Fg pf.ki pf.co (λ p hp=>nm hp) hkr (λ o q=>ns q) hst λ W' az le R' ok' hL=>⟨R'.nolimit G,?_⟩
 have hl:=R'.len
 obtain ⟨ρ,F,pv,gg,tb⟩:=W'
 obtain ⟨L,e⟩:=List.length_eq_one_iff.mp hl.symm
 subst e
 have e:L=s.heap.objs.size:=Option.some.inj hL
 obtain ⟨oL,hgL,hrL,_,hnL⟩:=R'.slot 0 (Cm m) L rfl rfl
 have hlt:s.heap.objs.size<az.heap.objs.size:=e▸Heap.lt_size hgL
 have old:∀ {q:Addr×Obj},s.heap.get? q.1=some q.2->q.1≠L:=λ h q=>Nat.lt_irrefl _ (e▸q▸Heap.lt_size h)
 have h0:h₀.get? L=none:=e▸R.new_none
 have ax:=R.leaveF R' le.fz.fs le.pv le.gg (Nat.le_of_lt hlt)
 have aG:=ax.pvAdd (p:=(L,oL)) hgL (λ h=>Nat.lt_irrefl _ (e▸R.lt L h)) h0 λ q hq=>old (R.fz q hq).1
 have nga:∀ {b o},az.heap.get? b=some o->b≠az.heap.objs.size:=λ h e=>Nat.lt_irrefl _ (e▸Heap.lt_size h)
 exact ⟨_,az.gens.size,_,L,oL,tb,rfl,le.tb,aG.genNew rfl,ready L oL _ _ hrL h0,⟨_,_,rfl,rfl,rfl⟩,Array.getElem?_push_size,λ x hx q=>Nat.lt_irrefl _ (q▸(Array.getElem?_eq_some_iff.mp (ax.gg x hx)).1),
  λ h=>nga hgL (List.mem_singleton.mp h).symm,λ p hp h=>old (R.pv p hp).1 (List.mem_singleton.mp h),λ p hp=>nga (ax.pv p hp).1⟩
end
inductive QX(h₀:Heap)(A:Around)(I:gh)(ga:Addr)(L:List D)(pv:List (Addr×Obj))(gg:List (Nat×GenState))(k:Nat)(p:List (Addr×Obj))(g:List (Nat×GenState))(fs:List (Addr×Obj)):Prop
 | mk (gn:Nat) (oga:Obj) (ps:List (Addr×Obj)) (gs:GenState) (ep:p=(ga,oga)::ps) (eg:g=[(gn,gs)]) (h:∀ s,s.gens[gn]?=some gs->kB h₀ A.in1 I gg ga gn oga ps pv gs (L.drop k) s)
section
variable{h₀:Heap}{N:Nat}{c:aw}{en:Nat->D}{σ:St}{W:Wd}{A:Around}{s:Shared}{P:bZ}{L:List D}{ga gn:Nat}{oga:Obj}{es:List Expr}{kk:Nat}{tp:Pos}{pv:List (Addr×Obj)}{gg:List (Nat×GenState)}{dw:List Addr}{I:gh}{C:(Nat->D)->St->Prop}
theorem xq{es:List Expr}{kk:Nat}{tp:Pos}{v:Value}{Q:Unit->Shared->Prop}(h0:s.heap.get? ga=some oga)(hg:Mf gn oga)(h:Q () s):wpAny (model prog w) A (letOwnedTupleGo (.Tuple es kk tp) (.ref ga) v) Q ah s:=by
 obtain ⟨nm,qn,h1,h2,h3⟩:=hg
 cases v with
 | ref=>
  refine Uj (wpAny_load h0 ?_)
  rw [h1,h2]
  exact Uk h
 | _=>exact Uk h
theorem kB.at{A':Around}{s':Shared}{ps:List (Addr×Obj)}{gs:GenState}{r:List D}(g:kB h₀ A' I gg ga gn oga ps pv gs r s)(h:s'.gens[gn]?=some gs):kB h₀ A' I gg ga gn oga ps pv gs r s':=⟨g.rd,g.go,h,g.hgg,g.dga,g.dpv,g.dgv⟩
theorem rN{glob:Str->Option Value}{fns:Addr->Option FuncData}(G:GC h₀ glob fns)(hA:bD 1 A)(hI:∀ W σ s p g,dw <+: W.ρ->C W.F.en σ->ae w.params h₀ (qg W p g) σ s->∀ ps,ps⊆p->I W.F.fs ps s.heap):sE h₀ A (.Tuple es kk tp) (.ref ga) L dw C pv gg (QX h₀ A I ga L pv gg) where
 mono:=λ _ _ _ _ _ ⟨gn,oga,ps,gs,ep,eg,h⟩ _=>⟨gn,oga,ps,gs,ep,eg,h⟩
 next:=λ k p g W σ s hρ hC e1 e2 ⟨gn,oga,ps,gs,ep,eg,h⟩ R=>by
  subst ep eg e1 e2
  have R':ae w.params h₀ { W with pv:=(ga,oga)::(ps++W.pv) } σ s:=⟨R.len,R.nod,R.fr,R.lt,R.fz,R.pv,λ x hx=>R.gg x (.tail _ hx),R.slot,R.old,R.tab⟩
  refine aC (yZ G hA R' (h s (R.gg (gn,gs) (.head _))) (hI W σ s _ _ hρ hC R ps λ _ h=> .tail _ h)) λ y s' q=>?_
  have hd:(L.drop k)[0]?=L[k]?:=by rw [List.getElem?_drop];rfl
  rw [← hd]
  have q:=q.inv
  cases hL:L.drop k with
  | nil=>
   rw [hL] at q
   obtain ⟨tb,e,htb,R'⟩:=q
   exact ⟨e,tb,htb,R'⟩
  | cons d r=>
   rw [hL] at q
   obtain ⟨v,nw,ps',gs',tb,e,htb,hv,R',g'⟩:=q
   have er:L.drop (k+1)=r:=by rw [← List.drop_drop,hL];rfl
   exact ⟨v,e,(ga,oga)::ps',[(gn,gs')],nw,tb,htb,hv,⟨gn,oga,ps',gs',rfl,rfl,λ s'' h''=>er▸g'.at h''⟩,λ _ h=>xq (R'.pv (ga,oga) (.head _)).1 g'.go h,⟨R'.len,R'.nod,R'.fr,R'.lt,R'.fz,R'.pv,λ x hx=>(List.mem_cons.mp hx).elim (λ e=>e▸g'.hgs) (R'.gg x),R'.slot,R'.old,R'.tab⟩⟩
end
noncomputable def m8:FuncData:=(fi 45).get (by kernel_rfl)
theorem Ej:gX.fns 45=some m8:=by kernel_rfl
theorem Ei:jL true m8=true:=by kernel_rfl
theorem IN:m8.body= .stmts gB:=by kernel_rfl
theorem xC(x:Str):eF (m8.params.args.map (·.arg)) (m8.params.kwonlyargs.map (·.arg)) (gX.dfl 45) (gX.kdf 45) [V.d (.str x)]=some [(("addr" : Str),V.d (.str x))]:=by kernel_rfl
theorem Eh(x:Str):bU (bC m8 45 []).1 [("addr",.d (.str x))] (bC m8 45 []).2=some [some (Cm [("addr",.d (.str x))])]:=by kernel_rfl
theorem A5(L:Addr):eY L=(bC m8 45 []).1.env [L]:=congrArg (λ c:aw=>c.env [L]) (show cG=(bC m8 45 []).1 by kernel_rfl)
section
variable{h₀:Heap}{N:Nat}{c:aw}{en:Nat->D}{σ:St}{P:bZ}
theorem I6{glob:Str->Option Value}{f:Str}:Ok (aX glob c f σ) λ _=>(f==("__debug__" : Str))=false:= .ifn λ q _ _=>Bool.eq_false_iff.mpr q
theorem mE{X:Cx}{H:Hk}(aok:aB h₀ X H){M:Nat}(hM:M+X.need<=N){f:Str}{fp pos:Pos}{args:List Expr}{g:Value}{vs:List V}{σ₁:St}{W:Wd}{A:Around}{s:Shared}{Q:Value->Shared->Prop}(k:cx X.K X.O en)
  (hf:aX X.glob c f σ=some (.glob g)) (hk:fc X (.glob g)=true) (ha:c7 (cy X H M) c args σ=some (vs,σ₁)) (a:jw h₀ N c en σ W A s)
  (h:∀ xs W₁ ac,W.le W₁->VRs W₁.ρ W₁.F vs xs->ae w.params h₀ W₁ σ₁ ac->wpAny (model prog w) A (call g xs []) Q ah ac):wpAny (model prog w) A (eval (.Call (.Name f fp) args [] pos) (c.env W.ρ)) Q ah s:=by
 show wpAny _ A (eval (.Name f fp) (c.env W.ρ)>>=λ fv=>callWith pos fv [] (backTo pos (starEach args (c.env W.ρ))) []) _ ah s
 refine Uj (wpAny_Name (aT aok.G a.R a.ok hf λ y hy=>?_) (I6 _ hf))
 have e:g=y:=hy.inv
 subst e
 exact aN (aU (cH (Z:=⟨h₀,X,M,cy X H M⟩) (c.env W.ρ) pos args σ _ ha).1 (aC (cU (aZ aok M) pos args σ _ ha _ A W s (a.at hM k)) λ xs ac ⟨W₁,le,rv,ax⟩=>⟨lJ aok.G ax (.glob g) hk,h xs W₁ ac le rv ax⟩))
theorem TF.gfor{X:Cx}{H:Hk}(aok:aB h₀ X H)(aog:aB h₀ gX bz){M:Nat}(hM:M+X.need<=N)(hN:9<=N){arg:Expr}{body:List Stmt}{es:List Expr}{kk:Nat}{tp fp pos p:Pos}{f:Str}{u:D}{x:Str}(k:cx X.K X.O en)
  (hf:aX X.glob c f σ=some (.glob (.ref 45))) (hk:fc X (.glob (.ref 45))=true) (he:c7 (cy X H M) c [arg] σ=some ([.d u],σ)) (hux:den en u= .str x) (hx:aR x=true)
  (Inv:Nat->(Nat->D)->St->Prop) (turn:∀ k d en σ',(jm x.cps.toList 0 false 0)[k]?=some d->Inv k en σ'->dG h₀ N σ.length c (.Tuple es kk tp) body (Inv (k+1)) P d en σ') (hend:∀ en σ,Inv (jm x.cps.toList 0 false 0).length en σ->P .next en σ) (h0:Inv 0 en σ) :
  TF h₀ (Eq h₀) N c (exec (.For (.Tuple es kk tp) (.Call (.Name f fp) [arg] [] pos) body [] p)) en σ P:= .mk λ W A s a=>by
 rw [exec_For]
 refine Uj (wpAny_standAt (Uj (mE aok hM k hf hk he a λ xs W₁ ac le rv ax=>?_)))
 have ee:W₁.F.en=en:=le.fz.en.trans a.e
 obtain ⟨z,ys,hz,hys,e⟩:=rv.inv
 have hys:[]=ys:=hys.inv
 have hz:DV W₁.F.fs (den W₁.F.en u) z:=hz.inv
 rw [ee,hux] at hz
 obtain ⟨t,et⟩:=hz.inv
 subst hys et e
 refine aC (vM (X:=gX) aog.G aog.D Ej Ei IN (xC x) (Eh x) (λ L oL ρ F hr h0=>A5 L▸qR aog ((a.a.le hN).in1) hr h0 hx) ax (.cons _ _ _ _ (.mkStr x t) .nil) (a.a.le (Ul (by decide) hN))) λ r az ⟨ga,gn,oga,L,oL,tb,er,htb,aG,g⟩=>?_
 subst er
 have hga:=aG.pv (ga,oga) (.head _)
 obtain ⟨nm,qn,g1,g2,g3⟩:=g.go
 refine Uj (wpAny_of_eq rfl (Uj (wpAny_standAt (Uj (Uo (wpAny_pyIter_gen ⟨oga,nm,qn,hga.1,g1,g2,g3⟩ (wpAny_runOwn ?_)))))))
 have l₁:W.lf { W₁ with tb:=tb }:=⟨le.rho,le.fz.fs,le.pv,le.gg,htb.trans le.tb⟩
 refine a.a.mark.symm▸a.env l₁▸codeAny_mono (A1 (W:={ W₁ with tb:=tb }) (p:=[(ga,oga),(L,oL)]) (g:=[(gn,.fresh (.func gB ((bC m8 45 []).1.env [L])))]) (rN (L:=jm x.cps.toList 0 false 0) (I:=z3) (C:=λ _ _=>True) aok.G (a.a.le (Ul (by decide) hN)) λ _ _ _ _ _ _ _ _ _ _=>trivial) a.a (a.ok.lf l₁) (Up ax.len.symm) turn hend (λ _ _ _ _=>trivial) (ee.symm▸h0)
  ⟨gn,oga,[(L,oL)],_,rfl,rfl,λ s h=>g.at h⟩ ⟨aG.len,aG.nod,aG.fr,aG.lt,aG.fz,aG.pv,λ x hx=>(List.mem_cons.mp hx).elim (λ e=>e▸g.hgs) (aG.gg x),aG.slot,aG.old,aG.tab⟩) λ r s' q=>?_
 cases r with
 | ok x=>exact LQ.lf q l₁
 | error _=>exact q.elim
end
inductive Nj(h₀:Heap)(N n₀:Nat)(c:aw)(t:Expr)(body:List Stmt)(Next:(Nat->D)->St->Prop)(P:bZ)(en:Nat->D)(σ:St):Prop
 | mk (X:Cx) (H:Hk) (M:Nat) (b:Bool) (bJ:St) (ok:aB h₀ X H) (hM:M+X.need<=N) (k:cx X.K X.O en) (ht:(cy X H M).T c t σ=some (b,bJ)) (h:if b then TF h₀ (Eq h₀) N c (execs body) en bJ (fQ n₀ Next P) else P .next en bJ)
inductive Ua(h₀:Heap)(Inv:Nat->(Nat->D)->St->Prop)(W:Wd)(m:Nat)(s:Shared):Prop
 | mk (σ:St) (W₁:Wd) (hi:Inv m W₁.F.en σ) (l:W.lf W₁) (R:ae w.params h₀ W₁ σ s)
noncomputable def ng(X:Cx)(r:b5)(c:aw)(elt t:Expr)(ifs:List Expr)(acc:Nat)(u:D)(σ:St):Option St:=(cW X r c t (.d u) σ).bind λ σ₁=>(lB r c ifs true σ₁).bind λ q=>if q.1=true then (r.E c elt q.2).bind λ p=>lU X X.frz acc p.1 p.2 else some q.2
inductive sI(h₀:Heap)(N n₀ acc:Nat)(c:aw)(elt t:Expr)(ifs:List Expr)(Next:(Nat->D)->St->Prop)(d:D)(en:Nat->D)(σ:St):Prop
 | mk (X:Cx) (H:Hk) (M:Nat) (u:D) (σ₁:St) (ok:aB h₀ X H) (hM:M+X.need<=N) (k:cx X.K X.O en) (hu:den en u=d) (ht:ng X (cy X H M) c elt t ifs acc u σ=some σ₁) (h:∃ en'' σ'',bQ n₀ en σ₁ en'' σ''∧Next en'' σ'')
inductive JI(h₀:Heap)(W:Wd)(P:(Nat->D)->St->Prop)(s:Shared):Prop
 | mk (W₁:Wd) (σ:St) (l:W.lf W₁) (R:ae w.params h₀ W₁ σ s) (p:P W₁.F.en σ)
section
variable{h₀:Heap}{N n₀ acc:Nat}{c:aw}{en:Nat->D}{σ:St}{W:Wd}{A:Around}{s:Shared}{P:bZ}{L:List D}{Inv:Nat->(Nat->D)->St->Prop}
theorem TF.while{t:Expr}{body:List Stmt}{p:Pos}(Inv:Nat->(Nat->D)->St->Prop)(turn:∀ m en σ',Inv m en σ'->Nj h₀ N σ.length c t body (λ en' σ'=>∃ m',m'<m∧Inv m' en' σ') P en σ'){m:Nat}(h0:Inv m en σ):TF h₀ (Eq h₀) N c (exec (.While t body [] p)) en σ P:= .mk λ W A s a=>
 wpAny_While (codeAny_mono (qj (R:=LQ (Eq h₀) W P) (Ua h₀ Inv W) (λ m s ⟨σ',W₁,hi,l,R⟩=>by
  obtain ⟨X,H,M,b,bJ,ok,hM,k,ht,h⟩:=turn m _ σ' hi
  have a₁:=a.to l R
  rw [← a.env l]
  refine ((aZ ok M).T c t σ' _ ht).go (a₁.at hM k) λ az ay aq bj=>?_
  have l₂:=l.trans aq.lf
  cases b with
  | false=>exact ⟨_,.next,ay,bJ,rfl,l₂,trivial,bj.R,aq.fz.en.symm▸h⟩
  | true=>
   have h:TF h₀ (Eq h₀) N c (execs body) ay.F.en bJ _:=aq.fz.en.symm▸h
   refine aC (h.go a₁ aq.lf bj.R) λ y a8 ⟨ab,f,aP,bk,e,bb,fr,bf,hc⟩=>rn fr hc (λ ⟨en'',σ'',ag,m',hm,hi⟩=>?_) λ f y fr hp=>⟨ab,f,aP,bk,e,l.trans bb,fr,bf,hp⟩
   obtain ⟨ρ',l',R'⟩:=(e▸bf).again ag
   exact ⟨m',hm,σ'',{ aP with ρ:=ρ',F:=⟨en'',aP.F.fs⟩ },hi,⟨(List.prefix_take_iff.mpr ⟨l.rho.trans bb.rho,Up a.R.len.symm⟩).trans l',λ _ h=>bb.fs (l.fs h),bb.pv.trans l.pv,bb.gg.trans l.gg,bb.tb.trans l.tb⟩,R'⟩) m ⟨σ,W,a.e.symm▸h0,.refl W,a.R⟩) λ r s' z=>by cases r<;>first | exact z.elim | exact z)
theorem wI{Z:Zx}(S:cO Z)(CO:ClsOk Z.h₀ Z.X){elt t:Expr}{ifs:List Expr}{u:D}:Ok (ng Z.X Z.r c elt t ifs acc u σ) λ σ'=>∀ env A W s x D (Go:Shared->Prop),At Z c env A W σ s->VR W.ρ W.F (.d u) x->W.ρ[acc]?=some D->(∀ s' W',W.le W'->ae w.params Z.h₀ W' σ' s'->Go s') ->
  wpAny (model prog w) A (assign t env x) (λ _ az=>wpAny (model prog w) A (oo ifs env true) (λ b a8=>if b=true then wpAny (model prog w) A (eval elt env) (λ x dy=>wpAny (model prog w) A (call (.builtin "list.append") [.ref D,x]) (λ _ iQ=>Go iQ) ah dy) ah a8 else Go a8) ah az) ah s:=by
 refine .bind (dl S CO t (.d u) σ) λ σ₁ ha=> .bind (gV S ifs true σ₁) λ q hb=> .ite (λ hq=> .bind (S.E c elt q.2) λ p he σ' hp env A W s x D Go a hx hD go=>?_) λ hq=> .some λ env A W s x D Go a hx hD go=>?_
 ·refine aC (ha _ _ _ _ _ a hx) λ _ az ⟨ay,aq,aG⟩=>hb.go (a.to aq aG) λ a8 aP br fP=>?_
  rw [if_pos hq]
  exact he.go fP λ x dy bM fV zr ut=>aC (lI ut.k ut.R (.ref _ _ (bF (aq.rho.trans (br.rho.trans fV.rho)) hD)) zr _ hp) λ _ iQ ⟨jZ,dC,_,mI⟩=>go _ jZ (((aq.trans br).trans fV).trans dC) mI
 ·refine aC (ha _ _ _ _ _ a hx) λ _ az ⟨ay,aq,aG⟩=>hb.go (a.to aq aG) λ a8 aP br fP=>?_
  rw [if_neg hq]
  exact go _ aP (aq.trans br) fP.R
theorem EI{elt t iter:Expr}{ifs:List Expr}{scope:Scope}{pos:Pos}{S:Fn}{it:Value}{D:Addr}{C:(Nat->M.Internal.D)->St->Prop}{p:List (Addr×Obj)}{g:List (Nat×GenState)}{Pc:(Nat->M.Internal.D)->St->Prop}(I:sE h₀ A t it L W.ρ C W.pv W.gg S)(a:bD N A)(ok:c.Ok W.ρ.length)(hn:W.ρ.length<=n₀)(hD:W.ρ[acc]?=some D)
  (turn:∀ k d en σ,L[k]?=some d->Inv k en σ->sI h₀ N n₀ acc c elt t ifs (Inv (k+1)) d en σ) (hend:∀ en σ,Inv L.length en σ->Pc en σ) (hC:∀ k en σ,Inv k en σ->C en σ) (h0:Inv 0 W.F.en σ) (hS:S 0 p g W.F.fs) (R:ae w.params h₀ (qg W p g) σ s) :
  codeAny (model prog w) A (.compLoop (.ListComp elt [⟨t,iter,ifs,0⟩] scope pos) 0 it (.ref D) (c.env W.ρ)) (GA (JI h₀ W Pc)) s:=by
 refine nZ (j4 h₀ L S Inv W) (λ m s hI=>aC (hI.step I hC) λ y ac q=>?_) L.length ⟨0,σ,W,p,g,rfl,h0,.refl W,hS,R⟩
 cases q with
 | stop e σ W₁ hi l R'=>exact e▸⟨W₁,σ,l,R',hend _ _ hi⟩
 | item x e m em k hm σ d W₁ p g hL hi l hx hS own R'=>
  subst e em
  obtain ⟨X,H,M,u,σ₁,aok,hM,kk,hu,ht,hc⟩:=turn k d _ σ hL hi
  exact own _ (wI (aZ aok M) aok.CO.toClsOk _ ht _ A (qg W₁ p g) ac x D _ ⟨⟨kk,a.le hM,R'⟩,(show c.Ok W₁.ρ.length from ok.lf l),aw.env_pre l.rho ok⟩ (.d u x (hu.symm▸hx)) (bF l.rho hD) λ a8 aP br bf=>j4.next I hn hm l br.lf hS bf (br.fz.en.symm▸hc))
end
noncomputable abbrev sd(c:aw)(scope:Scope)(cl:List (Str×Nat))(σ:St):St:=MU c scope cl (iF []) σ
noncomputable abbrev km(c:aw)(scope:Scope)(cl:List (Str×Nat))(σ:St):aw:=xO c scope cl (iF []) σ
inductive sG(h₀:Heap)(N:Nat)(c:aw)(elt t iter:Expr)(ifs:List Expr)(scope:Scope)(en:Nat->D)(σ:St)(n:Nat)(Pc:(Nat->D)->St->Prop):Prop
 | mk (X:Cx) (H:Hk) (M:Nat) (v:V) (σ₁:St) (L:List D) (cl:List (Str×Nat)) (Inv:Nat->(Nat->D)->St->Prop) (ok:aB h₀ X H) (hM:M+X.need<=N) (k:cx X.K X.O en) (hb:n7 iter scope=true) (he:(cy X H M).E c iter σ=some (v,σ₁)) (hL:dR en v=some L) (ht:Ki en t v=true) (hcl:dL scope.names c.cells []=some cl) (hn:σ₁.length=n)
  (turn:∀ k d en σ,L[k]?=some d->Inv k en σ->sI h₀ N (sd c scope cl σ₁).length σ₁.length (km c scope cl σ₁) elt t ifs (Inv (k+1)) d en σ) (hend:∀ en σ,Inv L.length en σ->(∃ (o:AO) (m:List (Str×V)),σ.at (n+1)=some ⟨o.cls,o.dict,.dict m⟩)∧Pc en (σ.set (n+1) none)) (h0:Inv 0 en (sd c scope cl σ₁))
section
variable{h₀:Heap}{N n:Nat}{c:aw}{en:Nat->D}{σ:St}{W:Wd}{A:Around}{s:Shared}{P:bZ}{elt t iter:Expr}{ifs:List Expr}{scope:Scope}{pos:Pos}{Pc:(Nat->D)->St->Prop}
theorem r8{use:Option (Value->Sem Unit)}{Q:Value->Shared->Prop}(r:sG h₀ N c elt t iter ifs scope en σ n Pc)(a:jw h₀ N c en σ W A s)
  (hQ:∀ (ay:Wd) (bk:St) (az:Shared) (C D:Addr) (o:AO) (m:List (Str×V)),W.lf ay->ae w.params h₀ ay bk az->ay.ρ[n+1]?=some C->ay.ρ[n]?=some D->bk.at (n+1)=some ⟨o.cls,o.dict,.dict m⟩->W.ρ.length<=n+1->Pc ay.F.en (bk.set (n+1) none)->x6 A use Q D C az) :
  wpAny (model prog w) A (comprehension (.ListComp elt [⟨t,iter,ifs,0⟩] scope pos) scope (c.env W.ρ) (firstIterPos [⟨t,iter,ifs,0⟩] pos) (newList []) (firstAsync [⟨t,iter,ifs,0⟩]) (firstIter [⟨t,iter,ifs,0⟩] (c.env W.ρ)) use) Q ah s:=by
 obtain ⟨X,H,M,v,σ₁,L,cl,Inv,aok,hM,k,hb,he,hL,ht,hcl,hn,turn,hend,h0⟩:=r
 subst hn
 refine jH (ao:=iF []) (o:={ cls:= .type "list",data:= .seq #[] }) (W:=W) a.ok rfl (λ h g=>codeAny_compStart_list h g) (λ h=>wpAny_newList (items:=[]) h (by simp)) rfl (λ ρ F=>me .nil 0) (pn []) hb hcl (((aZ aok M).E c iter σ _ he).go (a.at hM k) λ x ac W₁ aK gu a₁=>?_)
 have ee:W₁.F.en=en:=aK.fz.en.trans a.e
 obtain ⟨hg,hi⟩:=nq (A:=A) a₁.R gu (t:=t) (ee.symm▸ht) L (ee.symm▸hL)
 refine aC hi λ y az ⟨src,hs,hok,⟨it,o',e',hi,aG,hd⟩⟩=>⟨h₀,{ W₁ with pv:=(it,o')::W₁.pv },σ₁,it,e',aK.rho,aG,λ bM dy D C b=>?_⟩
 have hi4:aY bM src 0 o':=hi.lf hs hg b.le.fz.fs
 have h4:bM.pv=(it,o')::W₁.pv:=b.le.pv
 have e4:qg { bM with pv:=W₁.pv } [(it,o')] []=bM:=by cases bM;cases h4;rfl
 refine ⟨codeAny_mono (EI (W:={ bM with pv:=W₁.pv }) (n₀:=(sd c scope cl σ₁).length) (p:=[(it,o')]) (g:=[]) (rJ hs hg a.a.handled hok hd) a.a b.ok (Up b.R.len.symm) b.acc turn hend (λ _ _ _ _=>trivial) ((b.le.fz.en.trans ee).symm▸h0) ⟨o',rfl,rfl,λ W' hf=>hi.lf hs hg ((b.le.fz.fs:_⊆_).trans hf)⟩ (e4.symm▸b.R)) λ r s' q=>?_,λ Q hq=>jI hi4 (b.R.pv (it,o') (h4▸ .head _)).1 hq⟩
 cases r with
 | error _=>exact q.elim
 | ok f=>
  obtain ⟨jZ,yd,pj,mI,⟨o,m,ho⟩,hp⟩:=q
  have l4:bM.ρ <+: jZ.ρ:=pj.rho
  exact hQ jZ yd s' _ _ o m ⟨aK.rho.trans (b.le.rho.trans l4),λ _ h=>pj.fs (b.le.fz.fs (aK.fz.fs h)),pj.pv.trans aK.pv,pj.gg.trans (b.le.gg.trans aK.gg),pj.tb.trans (b.le.tb.trans aK.tb)⟩ mI (bF l4 b.C) (bF l4 b.acc) ho (Nat.le_succ_of_le (Ul aK.rho.length_le (Up a₁.R.len.symm))) hp
theorem TV.comp(r:sG h₀ N c elt t iter ifs scope en σ n Pc):TV h₀ (Eq h₀) N c (eval (.ListComp elt [⟨t,iter,ifs,0⟩] scope pos)) en σ (λ v en' σ'=>v= .ref n∧Pc en' σ'):= .mk λ W A s a=>
 r8 (use:=none) r a λ ay bk az C D o m l R hC hD hfr _ hp=>rV R hC hfr λ h' R'=>⟨h₀,_,ay,_,rfl,l,.ref _ _ hD,R',rfl,hp⟩
theorem TF.comp{x:Str}{tp p:Pos}(r:sG h₀ N c elt t iter ifs scope en σ n λ en' σ'=>∃ σ'',aS c x (.ref n) σ'=some σ''∧P .next en' σ''):TF h₀ (Eq h₀) N c (exec (.Assign [.Name x tp] (.ListComp elt [⟨t,iter,ifs,0⟩] scope pos) p)) en σ P:= .mk λ W A s a=>by
 cases hb:oq c x tp (.ListComp elt [⟨t,iter,ifs,0⟩] scope pos) with
 | false=>
  refine wpAny_Assign_Name (aC ((TV.comp r).ap W A s a) λ z ac ⟨ab,v,W₁,σ₁,e,l,rv,ax,ev,σ'',hst,hp⟩=>?_) (by rw [gw a.ok,hb])
  subst e ev
  exact a.env l▸bv ax (a.ok.lf l) hst rv λ h' tk aG=>⟨_,.next,W₁,σ'',rfl,l,trivial,aG,hp⟩
 | true=>
  rw [exec_Assign_Name_used _ _ _ _ (by rw [gw a.ok,hb])]
  exact Uj (wpAny_standAt (Uj (Uj (r8 (use:=some (assign (.Name x tp) (c.env W.ρ))) r a λ ay bk az C D o m l R hC hD hfr hge ⟨σ'',hst,hp⟩=>pN a.ok hge l.rho R hC hD hfr hst λ s' R'=>Uk (Uk ⟨_,.next,ay,σ'',rfl,l,trivial,R',hp⟩)))))
end
structure TC(h₀:Heap)(G:Heap->Prop)(N:Nat)(a:Addr)(as:List V)(en:Nat->D)(σ:St)(P:fu):Prop where
 ap:∀ W A s xs,W.F.en=en->bD N A->ae M.Internal.w.params h₀ W σ s->VRs W.ρ W.F as xs->wpAny (model prog M.Internal.w) A (call (.ref a) xs []) (LV G W P) ah s
structure TB(h₀:Heap)(N:Nat)(c:aw)(e:Expr)(en:Nat->D)(σ:St)(P:Bool->(Nat->D)->St->Prop):Prop where
 ap:∀ W A s,jw h₀ N c en σ W A s->wpAny (model prog M.Internal.w) A (isTrue e (c.env W.ρ) (eval e (c.env W.ρ))) (λ b s'=>JI h₀ W (P b) s') ah s
inductive NZ(G:Heap->Prop)(N:Nat)(c:aw)(t:Expr)(P:bZ)(v:V)(en:Nat->D)(σ:St):Prop
 | mk (X:Cx) (H:Hk) (M:Nat) (σ':St) (ok:∀ h,G h->aB h X H) (hM:M+X.need<=N) (k:cx X.K X.O en) (ha:cW X (cy X H M) c t v σ=some σ') (p:P .next en σ')
inductive Cf(h₀:Heap)(N:Nat)(op:CmpOp)(gu:V)(iv:Nat->D)(P:Bool->(Nat->D)->St->Prop)(qk:V)(Bi:Nat->D)(cu:St):Prop
 | mk (X:Cx) (H:Hk) (yh:V) (b:Bool) (ok:aB h₀ X H) (hN:X.need<=N) (k:cx X.K X.O Bi) (e:z8 iv id gu=z8 Bi id yh) (hc:ui X op yh qk cu=some (.bool b)) (p:P b Bi cu)
inductive B6(h₀:Heap)(N:Nat)(c:aw)(ie:Expr)(P:fu)(v:V)(en:Nat->D)(σ:St):Prop
 | mk (X:Cx) (H:Hk) (M:Nat) (i u:V) (σ':St) (ok:aB h₀ X H) (hM:M+X.need<=N) (k:cx X.K X.O en) (he:(cy X H M).E c ie σ=some (i,σ')) (hs:CJ X v i σ'=some u) (p:P u en σ')
section
variable{h₀:Heap}{G:Heap->Prop}{N:Nat}{c:aw}{en:Nat->D}{σ:St}{W W₁ ay:Wd}{A:Around}{s:Shared}{P:bZ}{V':fu}
theorem VR.re{v v':V}{x:Value}(h:VR W₁.ρ W₁.F v x)(l:W₁.lf ay)(e:z8 W₁.F.en id v=z8 ay.F.en id v'):VR ay.ρ ay.F v' x:=
 have h:VR ay.ρ ⟨W₁.F.en,ay.F.fs⟩ v x:=VR.mono (F:=W₁.F) (F':=⟨W₁.F.en,ay.F.fs⟩) l.rho ⟨rfl,l.fs⟩ h
 VR.down (λ _ _ h=>h) (e▸h.up)
theorem TC.def{X:Cx}(GG:GC h₀ X.glob X.fns)(Dd:GD h₀ X){a:Addr}{fd:FuncData}{body:List Stmt}{as:List V}{b:List (Str×V)}{σ₁:St}(hfd:X.fns a=some fd)(hc:iZ fd=true)(hb:fd.body= .stmts body)(hbind:eF (fd.params.args.map (·.arg)) (fd.params.kwonlyargs.map (·.arg)) (X.dfl a) (X.kdf a) as=some b)
  (hst:bU (bC fd a σ).1 b (bC fd a σ).2=some σ₁) (h:TF h₀ G N (bC fd a σ).1 (execs body) en σ₁ λ f=>V' (oW f)):TC h₀ G (N+1) a as en σ V':= .mk λ W A s xs e ha R hx=>
 ca (ia GG Dd hfd hc hb hbind hst ha R hx λ A' W' s' ha' le R' ok'=>aC (h.ap W' A' s' ⟨le.fz.en.trans e,ok',ha',R'⟩) λ x az ⟨ab,f,ay,cu,g,l,r,aG,p⟩=>⟨ab,_,ay,cu,g,le.lf.trans l,kY r,aG,p⟩)
theorem ae.enterP{Q:Params}(R:ae Q h₀ W σ s)(en:Nat->D):ae Q h₀ { W with ρ:=[],F:=⟨en,W.F.fs⟩,pv:=kN W.ρ σ s.heap++W.pv } [] s:=
 ⟨rfl,List.nodup_nil,λ _ h=>nm h,λ _ h=>nm h,R.fz,λ p hp=>(List.mem_append.mp hp).elim (λ hp=>let ⟨i,ao,h1,h2,hf,h4⟩:=lY hp;⟨h4,λ h=>nm h,R.fr _ (List.mem_of_getElem? h2),λ q hq=>(R.slot i ao p.1 (St.at_some h1) h2).ne hf hq⟩) λ hp=>⟨(R.pv p hp).1,λ h=>nm h,(R.pv p hp).2.2⟩,R.gg,λ _ _ _ h=>M.Internal.ns h,R.old,R.tab⟩
theorem ae.leaveP{Q:Params}(R:ae Q h₀ W σ s){σ₁:St}{s':Shared}(ax:ae Q h₀ W₁ σ₁ s')(hpv:W₁.pv=kN W.ρ σ s.heap++W.pv)(hfs:W.F.fs⊆W₁.F.fs)(hgg:W₁.gg=W.gg)(hz:s.heap.objs.size<=s'.heap.objs.size):ae Q h₀ { W with F:=⟨W.F.en,W₁.F.fs⟩,tb:=W₁.tb } σ s':=by
 refine ⟨R.len,R.nod,R.fr,λ a ha=>Nat.lt_of_lt_of_le (R.lt a ha) hz,ax.fz,λ p hp=>⟨(ax.pv p (hpv▸List.mem_append.mpr (.inr hp))).1,(R.pv p hp).2.1,(R.pv p hp).2.2.1,(ax.pv p (hpv▸List.mem_append.mpr (.inr hp))).2.2.2⟩,λ x hx=>ax.gg x (hgg▸hx),λ i ao a hi ha=>?_,ax.old,ax.tab⟩
 have S:=R.slot i ao a hi ha
 obtain ⟨o,ho,r,f,n⟩:=S
 have r':=OR.mono (F:=W.F) (F':=⟨W.F.en,W₁.F.fs⟩) (List.prefix_refl _) ⟨rfl,hfs⟩ r
 cases hf:ao.data.isFro with
 | false=>
  have:=ax.pv (a,o) (hpv▸List.mem_append.mpr (.inl (o6 ⟨i,ao,St.at_of hi,ha,hf,ho⟩)))
  exact ⟨o,this.1,r',λ e=>ft (hf.symm.trans e),λ _=>this.2.2.2⟩
 | true=>
  obtain ⟨o',hm⟩:=f hf
  have e:o'=o:=Option.some.inj ((R.fz _ hm).1.symm.trans ho)
  exact ⟨o,e▸(ax.fz _ (hfs hm)).1,r',λ _=>⟨o',hfs hm⟩,λ e=>ft (Eq.symm (hf.symm.trans e))⟩
theorem eC{a:Addr}{as:List V}{en:Nat->D}{ds:List D}{d:D}(h:TC h₀ (Eq h₀) N a as en [] λ v en' _=>∃ u,v= .d u∧den en' u=d)(hv:∀ F xs,DVs F ds xs->VRs [] ⟨en,F⟩ as xs){xs:List Value}(hA:bD N A)(R:ae w.params h₀ W σ s)(hx:DVs W.F.fs ds xs):wpAny (model prog w) A (call (.ref a) xs []) (PD h₀ W d σ) ah s:=
 b7 (aC (h.ap _ A s xs rfl hA (R.enterP en) (hv _ _ hx)) λ x s' ⟨ab,v,W₁,σ₁,e,l,rv,ax,u,ev,hu⟩ hz=>by
  subst e ev hu
  exact ⟨{ W with F:=⟨W.F.en,W₁.F.fs⟩,tb:=W₁.tb },⟨List.prefix_refl _,⟨rfl,l.fs⟩,rfl,rfl,l.tb⟩,VR.inv rv,R.leaveP ax l.pv l.fs l.gg hz⟩)
theorem TV.call{X:Cx}{H:Hk}(aok:aB h₀ X H){M:Nat}(hM:M+X.need<=N){f:Str}{fp pos:Pos}{args:List Expr}{a:Addr}{vs:List V}{σ₁:St}(k:cx X.K X.O en)(hf:aX X.glob c f σ=some (.glob (.ref a)))(hk:fc X (.glob (.ref a))=true)(ha:c7 (cy X H M) c args σ=some (vs,σ₁))
  (h:TC h₀ G N a vs en σ₁ V'):TV h₀ G N c (eval (.Call (.Name f fp) args [] pos)) en σ V':= .mk λ W A s aa=>
 mE aok hM k hf hk ha aa λ xs W₁ ac le rv ax=>aC (h.ap W₁ A ac xs (le.fz.en.trans aa.e) aa.a ax rv) λ _ _ q=>q.lf le.lf
theorem TF.asgT{es:List Expr}{kk:Nat}{tp p:Pos}{e:Expr}(hc:fH e=false)(hs:fG e=false)(h:TV h₀ G N c (eval e) en σ (NZ G N c (.Tuple es kk tp) P)):TF h₀ G N c (exec (.Assign [.Tuple es kk tp] e p)) en σ P:= .mk λ W A s a=>
 sm hc (l8 hs) (λ _=>rfl) (aC (h.ap W A s a) λ z ac ⟨ab,v,W₁,σ₁,g,l,r,ax,X,H,M,σ',ok,hM,k,ha,hp⟩=>aC (dl (aZ (ok ab g) M) (ok ab g).CO.toClsOk _ v σ₁ _ ha _ A W₁ ac z ⟨⟨k,a.a.le hM,ax⟩,a.ok.lf l,a.env l⟩ r) λ _ az ⟨ay,aq,aG⟩=>⟨ab,.next,ay,σ',g,l.trans aq.lf,trivial,aG,aq.fz.en.symm▸hp⟩)
theorem TF.ite{t:Expr}{b o:List Stmt}{p:Pos}(h:TB h₀ N c t en σ λ x en' σ'=>TF h₀ G N c (execs (if x then b else o)) en' σ' P):TF h₀ G N c (exec (.If t b o p)) en σ P:= .mk λ W A s a=>
 wpAny_If (aC (h.ap W A s a) λ z ac ⟨W₁,σ₁,l,ax,hp⟩=>by
  have:=hp.go a l ax
  cases z<;>exact this)
theorem TF.ret{e:Expr}{p:Pos}(h:TV h₀ G N c (eval e) en σ λ v=>P (.ret v)):TF h₀ G N c (exec (.Return (some e) p)) en σ P:= .mk λ W A s a=>
 wpAny_Return_some (aC (h.ap W A s a) λ x ac ⟨ab,v,W₁,σ₁,g,l,r,ax,hp⟩=>⟨ab,.ret v,W₁,σ₁,g,l,r,ax,hp⟩)
theorem TV.run{X:Cx}{H:Hk}(ok:aB h₀ X H){M:Nat}(hM:M+X.need<=N){e:Expr}{v:V}{σ₁:St}(k:cx X.K X.O en)(he:(cy X H M).E c e σ=some (v,σ₁))(h:V' v en σ₁):TV h₀ (Eq h₀) N c (eval e) en σ V':= .mk λ W A s a=>
 aC ((aZ ok M).E c e σ _ he _ A W s (a.at hM k)) λ x ac ⟨W₁,le,r,ax⟩=>⟨_,v,W₁,σ₁,rfl,le.lf,r,ax,(le.fz.en.trans a.e).symm▸h⟩
theorem v5{op:CmpOp}{l r:Expr}{Q:Bool->(Nat->D)->St->Prop}(h:TV h₀ (Eq h₀) N c (eval l) en σ λ gu iv σ₁=>TV h₀ (Eq h₀) N c (eval r) iv σ₁ (Cf h₀ N op gu iv Q))(a:jw h₀ N c en σ W A s) :
  wpAny (model prog w) A (eval l (c.env W.ρ)) (λ x ac=>wpAny (model prog w) A (eval r (c.env W.ρ)) (λ y az=>wpAny (model prog w) A (compareOp op x y) (λ z a8=>∃ b,z= .bool b∧JI h₀ W (Q b) a8) ah az) ah ac) ah s:=
 aC (h.ap W A s a) λ x ac ⟨ab,gu,W₁,σ₁,e,l₁,dP,ax,hp⟩=>by
  subst e
  have a₁:=a.to l₁ ax
  refine a.env l₁▸aC (hp.ap W₁ A ac a₁) λ y az ⟨ik,qk,ay,cu,e,l₂,dH,aG,X,H,yh,b,ok,hN,k,ev,hc,hp⟩=>?_
  subst e
  refine aC (iW (Z:=⟨h₀,X,N,Jh⟩) (ok.O N hN) op ⟨k,a.a,aG⟩ (dP.re l₂ ev) dH _ hc) λ z a8 ⟨aP,br,GO,bf⟩=>⟨b,GO.bool,aP,cu,(l₁.trans l₂).trans br.lf,bf,br.fz.en.symm▸hp⟩
theorem TB.compare{op:CmpOp}{l r:Expr}{p:Pos}{Q:Bool->(Nat->D)->St->Prop}(hb:behindInMarks op r=false)(h:TV h₀ (Eq h₀) N c (eval l) en σ λ gu iv σ₁=>TV h₀ (Eq h₀) N c (eval r) iv σ₁ (Cf h₀ N op gu iv Q)):TB h₀ N c (.Compare l [op] [r] p) en σ Q:= .mk λ W A s a=>
 wpAny_isTrue_Compare1 (aC (v5 h a) λ x ac HC=>aC HC λ y az jK=>aC jK λ z a8 ⟨b,e,q⟩=>e▸wpAny_truthy_bool q) hb
theorem TV.compare{op:CmpOp}{l r:Expr}{p:Pos}(hb:behindInMarks op r=false)(h:TV h₀ (Eq h₀) N c (eval l) en σ λ gu iv σ₁=>TV h₀ (Eq h₀) N c (eval r) iv σ₁ (Cf h₀ N op gu iv λ b=>V' (.d (.bool b)))):TV h₀ (Eq h₀) N c (eval (.Compare l [op] [r] p)) en σ V':= .mk λ W A s a=>
 wpAny_Compare1 (aC (v5 h a) λ x ac HC=>aC HC λ y az jK=>aC jK λ z a8 ⟨b,e,W',σ',l,R,hp⟩=>⟨_,_,W',σ',rfl,l,e▸ .mkBool b,R,hp⟩) hb
theorem TV.sub{ve ie:Expr}{p:Pos}(h:TV h₀ (Eq h₀) N c (eval ve) en σ (B6 h₀ N c ie V')):TV h₀ (Eq h₀) N c (eval (.Subscript ve ie p)) en σ V':= .mk λ W A s a=>by
 rw [eval_Subscript]
 refine Uj (aC (h.ap W A s a) λ x ac ⟨ab,gu,W₁,σ₁,e,l₁,dP,ax,X,H,M,i,u,cu,aok,hM,k,he,hsub,hp⟩=>?_)
 subst e
 have a₁:=a.to l₁ ax
 refine a.env l₁▸Uj (Uo (((aZ aok M).E c ie σ₁ _ he).go (a₁.at hM k) λ y az ay aq dH bj=>?_))
 obtain ⟨hp',key⟩:=qG bj.toHt (dP.le aq) dH _ hsub
 refine Uj (wpAny_standAt (Uj (nr hp' (Uj (aC (Q:=LV (Eq h₀) W V') ?_ λ z a8 tG=>Uj (wpAny_letTemporaryGo (Uk tG)))))))
 exact aC ((qw ie x y).elim (λ e=>e▸wpAny_operate' key) λ e=>e▸wpAny_operate' key) λ z a8 ⟨aP,br,GO,bf⟩=>⟨_,u,aP,cu,rfl,(l₁.trans aq.lf).trans br.lf,GO,bf,(br.fz.en.trans aq.fz.en).symm▸hp⟩
end
noncomputable def cD:List D->Option (List Int)
 | []=>some []
 | d::r=>(pA d).bind λ i=>(cD r).map (i::·)
noncomputable def ir:List D->Option (List Str)
 | []=>some []
 | d::r=>(iy d).bind λ i=>(ir r).map (i::·)
theorem fj{F:List (Addr×Obj)}{ds:List D}{xs:List Value}(h:DVs F ds xs):Ok (cD ds) (IntsAre xs):=
 h.ind (P:=λ ds xs=>Ok (cD ds) (IntsAre xs)) (.some .nil) λ v x vs xs h _ ih=> .bind (dS v) λ i e=> .map ih λ ns k=>by subst e;obtain ⟨t,q⟩:=h.inv;exact q▸ .cons i t k
theorem jl{F:List (Addr×Obj)}{ds:List D}{xs:List Value}(h:DVs F ds xs):Ok (ir ds) λ ts=>∃ l:List (Str×Tok),strValues l=xs∧l.map (·.1)=ts:=
 h.ind (P:=λ ds xs=>Ok (ir ds) λ ts=>∃ l:List (Str×Tok),strValues l=xs∧l.map (·.1)=ts) (.some ⟨[],rfl,rfl⟩) λ v x vs xs h _ ih=> .bind (cR v) λ i e=> .map ih λ ts ⟨l,q1,q2⟩=>by subst e;obtain ⟨t,q⟩:=h.inv;exact ⟨(i,t)::l,q▸q1▸rfl,q2▸rfl⟩
theorem AK{F:List (Addr×Obj)}{xs:List Value}{ns:List Int}(h:IntsAre xs ns):DVs F (ns.map .int) xs:=by
 induction h with
 | nil=>exact .nil
 | cons n t h ih=>exact .cons _ _ _ _ (.int n t) ih
theorem qx{F:List (Addr×Obj)}:∀ l:List (Str×Tok),DVs F ((l.map (·.1)).map .str) (strValues l)
 | []=> .nil
 | (x,t)::l=> .cons _ _ _ _ (.str x t) (qx l)
noncomputable def pB(a:Int):List Int->List Int
 | []=>[a]
 | b::l=>if a<=b then a::b::l else b::pB a l
noncomputable def iV:List Int->List Int
 | []=>[]
 | a::l=>pB a (iV l)
theorem nP(a:Int)(l:List Int):(pB a l).Perm (a::l):=by
 induction l with
 | nil=>exact .refl _
 | cons b l ih=>
  unfold pB
  split
  ·exact .refl _
  ·exact (ih.cons b).trans (.swap a b l)
theorem sZ(l:List Int):(iV l).Perm l:=by
 induction l with
 | nil=>exact .refl _
 | cons a l ih=>exact (nP a _).trans (ih.cons a)
theorem rP(a:Int){l:List Int}(h:l.Pairwise (·<=·)):(pB a l).Pairwise (·<=·):=by
 induction h with
 | nil=>exact List.pairwise_singleton _ _
 | @cons b l hb hl ih=>
  unfold pB
  split
  ·rename_i hab
   exact List.pairwise_cons.mpr ⟨λ c hc=>(List.mem_cons.mp hc).elim (λ e=>e▸hab) λ hc=>Int.le_trans hab (hb c hc),List.pairwise_cons.mpr ⟨hb,hl⟩⟩
  ·rename_i hab
   exact List.pairwise_cons.mpr ⟨λ c hc=>(List.mem_cons.mp ((nP a l).mem_iff.mp hc)).elim (λ e=>e▸Int.le_of_lt (Int.not_le.mp hab)) (hb c),ih⟩
theorem oy(l:List Int):(iV l).Pairwise (·<=·):=by
 induction l with
 | nil=>exact .nil
 | cons a l ih=>exact rP a ih
theorem mT{l m:List Int}(h:l.Perm m)(h1:l.Pairwise (·<=·))(h2:m.Pairwise (·<=·)):l=m:=h.eq_of_pairwise (λ a b _ _=>Int.le_antisymm) h1 h2
noncomputable def P8(a b:D):Option D:=(md a).bind λ l=>((pA b).bind λ i=>(cD l).bind λ ns=>if ns.length<=1048576∧ns.contains i=true then some (.int (ns.idxOf i:Nat)) else none).or
 ((iy b).bind λ x=>(ir l).bind λ ts=>if ts.length<=1048576∧ts.contains x=true then some (.int (ts.idxOf x:Nat)) else none)
noncomputable def vz(a b:D):Option D:=(iy a).bind λ sep=>(md b).bind λ l=>(ir l).bind λ ts=>if JoinOk sep ts=true then some (.str (Txt.join sep ts)) else none
noncomputable def G4(a b c:D):Option D:=(iy a).bind λ x=>(iy b).bind λ y=>(pA c).bind λ k=>if y.length≠0∧d5 k=true∧x.length+2<=1048576 then some (.lst ((Txt.splitMax x y k).map .str)) else none
noncomputable def Kv(a:D):Option D:=(md a).bind λ l=>(cD l).bind λ ns=>if ns.length<64 then some (.lst ((iV ns).map .int)) else none
noncomputable def Kl(a:D):Option D:=(pA a).bind λ i=>if i.natAbs.log2<1920 then some (.str (Str.ofString (toString i))) else none
noncomputable def vp(k:Nat)(ds:List D):Option D:=match k with
 | 1=>w9 P8 ds
 | 2=>w9 vz ds
 | 3=>Oe G4 ds
 | 4=>rh Kv ds
 | 5=>rh Kl ds
 | _=>none
noncomputable def FD(ds:List D):Option D:=Oe (λ a b c=>(iy a).bind λ x=>(iy b).bind λ y=>(iy c).bind λ z=>if (y==z)=false∧x.length<=1048576∧z.length<=14 then some (.str (Txt.replace x y z)) else none) ds
noncomputable def t6(l:List D):Option (List Str):=(ir l).bind λ ts=>if PyData.layable0 (.list (ts.map PyData.str))=true then some ts else none
noncomputable def MN(p:CmpOp)(x y:D):Option D:=(md x).bind λ a=>(md y).bind λ b=>match p with
 | .Eq=>(cD a).bind λ ns=>(cD b).map λ ms=> .bool (decide (ns=ms))
 | .NotEq=>((cD a).bind λ ns=>(cD b).map λ ms=> .bool (!decide (ns=ms))).or ((t6 a).bind λ ts=>(t6 b).map λ us=> .bool (!decide (ts=us)))
 | _=>none
noncomputable def M3(p:Operator)(x y:D):Option D:=match p with
 | .Mult=>(md x).bind λ a=>(pA y).bind λ k=>if 0<=k∧k<=1024∧a.length<=1024∧a.isEmpty=false then some (.lst (List.replicate k.toNat a).flatten) else none
 | _=>none
noncomputable abbrev Ca:=Addr->List D->Option D
noncomputable def mO(f:Ca):eI:=λ o ds=>match o with
 | .cmp p=>w9 (MN p) ds
 | .bin p=>w9 (M3 p) ds
 | .meth k=>if k=6 then FD ds else vp k ds
 | .fn a=>f a ds
 | _=>none
noncomputable def uC(h₀:Heap)(f:Ca)(need:Nat):Prop:=∀ a ds,Ok (f a ds) λ d=>∀ W σ s A xs,bD need A->ae w.params h₀ W σ s->DVs W.F.fs ds xs->wpAny (model prog w) A (call (.ref a) xs []) (PD h₀ W d σ) ah s
section
variable{h₀:Heap}{n:Nat}{W:Wd}{σ:St}{s:Shared}{A:Around}
theorem lD{h:Heap}:∀ l:List (Str×Tok),ReadsAll h (strValues l) ((l.map (·.1)).map PyData.str) []
 | []=> .nil
 | (x,t)::l=>ReadsAll.cons (as:=[]) (.str x t) (lD l)
theorem Bh(ts us:List Str):PyData.eqvAll (ts.map PyData.str) (us.map PyData.str)=decide (ts=us):=by
 induction ts generalizing us with
 | nil=>cases us<;>rfl
 | cons a r ih=>cases us with
  | nil=>rfl
  | cons b t=>
   show (decide (a=b)&&PyData.eqvAll _ _)=_
   rw [ih,Bool.eq_iff_iff,Um,decide_eq_true_iff,decide_eq_true_iff,decide_eq_true_iff]
   exact List.cons.injEq a r b t▸Iff.rfl
theorem nU{h:Heap}{F:List (Addr×Obj)}{l:List D}{x:Value}(k:HV h F (.lst l) x):Ok (t6 l) λ ts=>∃ as,Reads h x (.list (ts.map PyData.str)) as∧SeqAt.shaped (.list (ts.map PyData.str))=true:=by
 obtain ⟨xs,a,n,g,r,e⟩:=(k.inv:ix "list" h F l x)
 refine .bind (jl r) λ ts ⟨l',e1,e2⟩=> .ifs λ hl=> .some ?_
 subst e1 e2 e
 exact ⟨_,.list g rfl rfl (show ReadsAll h (strValues l').toArray.toList _ [] from lD l'),SeqAt.shaped_of_layable hl⟩
theorem Ja(p:CmpOp)(a b:D):Ok (MN p a b) λ d=>∀ W σ s A x y,bD n A->ae w.params h₀ W σ s->HV s.heap W.F.fs a x->HV s.heap W.F.fs b y->wpAny (model prog w) A (compareOp p x y) (PD h₀ W d σ) ah s:=by
 refine .bind (cV a) λ l e1=> .bind (cV b) λ m e2=>?_
 subst e1 e2
 have hu:∀ {A:Around},bD n A->A.units+64<cLine:=λ hA=>Nat.lt_of_le_of_lt (Nat.add_le_add_right (Ul (Nat.le_add_right _ _) hA.units) 64) (by decide)
 have ii:Ok ((cD l).bind λ ns=>(cD m).map λ ms=>(ns,ms)) λ q=>∀ W σ s A x y,bD n A->ae w.params h₀ W σ s->HV s.heap W.F.fs (.lst l) x->HV s.heap W.F.fs (.lst m) y->wpAny (model prog w) A (compareOp .Eq x y) (PD h₀ W (.bool (decide (q.1=q.2))) σ) ah s∧wpAny (model prog w) A (compareOp .NotEq x y) (PD h₀ W (.bool (!decide (q.1=q.2))) σ) ah s:=
  .bind .self λ ns h1=> .map .self λ ms h2 W σ s A x y hA R ha hb=>by
   obtain ⟨xs,la,na,ga,ra,e⟩:=(ha.inv:ix "list" _ _ l x)
   obtain ⟨ys,lb,nb,gb,rb,e'⟩:=(hb.inv:ix "list" _ _ m y)
   subst e e'
   exact ⟨ke_eq_ints (au ga) (au gb) (fj ra _ h1) (fj rb _ h2) (hu hA) (PD.here (.bool _) R),ke_ne_ints (au ga) (au gb) (fj ra _ h1) (fj rb _ h2) (hu hA) (PD.here (.bool _) R)⟩
 cases p with
 | Eq=>exact .bind .self λ ns h1=> .map .self λ ms h2 W σ s A x y hA R ha hb=>(ii (ns,ms) (by rw [h1,h2];rfl) W σ s A x y hA R ha hb).1
 | NotEq=>
  refine .or (.bind .self λ ns h1=> .map .self λ ms h2 W σ s A x y hA R ha hb=>(ii (ns,ms) (by rw [h1,h2];rfl) W σ s A x y hA R ha hb).2) (.bind .self λ ts h1=> .map .self λ us h2 W σ s A x y hA R ha hb=>?_)
  obtain ⟨as,r1,s1⟩:=nU ha ts h1
  obtain ⟨bs,r2,s2⟩:=nU hb us h2
  refine ne_dataH r1 r2 s1 s2 (hu hA) ?_
  rw [show PyData.eqv (.list (ts.map PyData.str)) (.list (us.map PyData.str))=decide (ts=us) from Bh ts us]
  exact PD.here (.bool _) R
 | _=>exact .none
theorem zE(k:Nat){F:List (Addr×Obj)}{ds:List D}{xs:List Value}(h:DVs F ds xs):DVs F (List.replicate k ds).flatten (List.replicate k xs).flatten:=by
 induction k with
 | zero=>exact .nil
 | succ k ih=>exact h.append ih
theorem Jj(p:Operator)(a b:D):Ok (M3 p a b) λ d=>∀ W σ s A x y,bD n A->ae w.params h₀ W σ s->HV s.heap W.F.fs a x->HV s.heap W.F.fs b y->wpAny (model prog w) A (binaryOp p x y) (PD h₀ W d σ) ah s:=by
 cases p with
 | Mult=>
  refine .bind (cV a) λ l e1=> .bind (dS b) λ k e2=> .ifs λ ⟨h0,h1,h2,h3⟩=> .some λ W σ s A x y hA R ha hb=>?_
  subst e1 e2
  obtain ⟨xs,la,na,ga,ra,e⟩:=(ha.inv:ix "list" _ _ l x)
  obtain ⟨u,e'⟩:=hb.inv
  subst e e'
  have hlen:xs.length=l.length:=ra.length.symm
  have hne:xs.toArray.isEmpty=false:=by
   cases l with
   | nil=>exact ft h3.symm
   | cons d l=>obtain ⟨z,zs,_,_,q⟩:=ra.inv;exact q▸rfl
  have e1:xs.toArray.size<=1024:=Ul (Up (List.size_toArray.trans hlen)) h2
  have e2:k.toNat<=1024:=Int.toNat_le.mpr h1
  have hsz:xs.toArray.size * k.toNat<=1048576:=Nat.mul_le_mul e1 e2
  refine wpAny_binaryOp_repeat_ref (T := "list") (U := "int") (by decide) ⟨_,ga,rfl⟩ (λ s'=>typeIs_int s' k u) noFill_list_mul F.fills_int_mul F.slot_int_rmul repeat_list F.slot_int_index.lookup
   (call_meets F.slot_int_rmul (typeIs_int s k u) F.entry_int_rmul (F.args_int_rmul_2 _ _) (int___rmul___int_list k u la xs.toArray na)
    ⟨ga,rfl,⟨_,ga,rfl⟩,call_meets F.slot_list_mul ⟨_,ga,rfl⟩ F.entry_list_mul (F.args_list_mul_2 _ _)
     (AutoListH.list___mul___list_int_3 la xs.toArray na k u (by simp [Builtin.List.listFitsIndex];omega) (by omega) (by simp [Builtin.List.listTooLong,sizeLine];simp at hsz;omega)) ⟨ga,?_⟩⟩)
  have e:(List.foldl (λ x1 x2=>x1++x2) #[] (List.replicate (if xs.toArray.isEmpty=true then 0 else k.toNat) xs.toArray))=(List.replicate k.toNat xs).flatten.toArray:=by
   rw [hne,if_neg Bool.false_ne_true,listMul_foldl]
   simp
  rw [e]
  exact PD.newList R (zE k.toNat ra) 0 s.toks
 | _=>exact .none
theorem tK{h:Heap}{F:List (Addr×Obj)}{ds:List D}{xs:List Value}{f:D->Option D}{Q:D->Prop}(k:ws h F ds xs)(g:∀ a x,xs=[x]->HV h F a x->Ok (f a) Q):Ok (rh f ds) Q:=by
 cases ds with
 | nil=>exact .none
 | cons a ds=>cases ds with
  | cons=>exact .none
  | nil=>
   obtain ⟨x,ys,hx,ht,e⟩:=k.inv
   have ht:[]=ys:=ht.inv
   exact g a x (ht▸e.symm) hx
theorem tJ{h:Heap}{F:List (Addr×Obj)}{ds:List D}{xs:List Value}{f:D->D->Option D}{Q:D->Prop}(k:ws h F ds xs)(g:∀ a x b y,xs=[x,y]->HV h F a x->HV h F b y->Ok (f a b) Q):Ok (w9 f ds) Q:=by
 cases ds with
 | nil=>exact .none
 | cons a ds=>
  obtain ⟨x,ys,hx,ht,e⟩:=k.inv
  have:=tK (f:=f a) ht λ b y e' hb=>g a x b y (e'▸e.symm) hx hb
  cases ds with
  | nil=>exact .none
  | cons b ds=>cases ds<;>exact this
theorem HN{h:Heap}{F:List (Addr×Obj)}{ds:List D}{xs:List Value}{f:D->D->D->Option D}{Q:D->Prop}(k:ws h F ds xs)(g:∀ a x b y c z,xs=[x,y,z]->HV h F a x->HV h F b y->HV h F c z->Ok (f a b c) Q):Ok (Oe f ds) Q:=by
 cases ds with
 | nil=>exact .none
 | cons a ds=>
  obtain ⟨x,ys,hx,ht,e⟩:=k.inv
  have:=tJ (f:=f a) ht λ b y c z e' hb hc=>g a x b y c z (e'▸e.symm) hx hb hc
  cases ds with
  | nil=>exact .none
  | cons b ds=>cases ds with
   | nil=>exact .none
   | cons c ds=>cases ds<;>exact this
theorem ur{α:Type}[BEq α][LawfulBEq α]{k:α}{l:List α}:∀ {j:Nat},j<l.idxOf k->∀ (h:j<l.length),(l[j]==k)=false:=by
 induction l with
 | nil=>exact λ _ h=>absurd h (Nat.not_lt_zero _)
 | cons a l ih=>
  intro j hj h
  rw [List.idxOf_cons] at hj
  cases e:(a==k) with
  | true=>rw [e] at hj;exact absurd hj (Nat.not_lt_zero _)
  | false=>
   rw [e] at hj
   cases j with
   | zero=>exact e
   | succ j=>exact ih (Nat.lt_of_succ_lt_succ hj) (Nat.lt_of_succ_lt_succ h)
theorem nQ{α:Type}[BEq α][LawfulBEq α]{ns:List α}{k:α}{kv:Value}{p:Value->Bool}{la:Addr}{ys:List Value}{m:Nat}(R:ae w.params h₀ W σ s)(ga:s.heap.get? la=some (aF "list" ys m))(hl:ys.length=ns.length)(hp:∀ (j:Nat) (h1:j<ys.length) (h2:j<ns.length),p ys[j]=(ns[j]==k))
  (he:∀ y∈ys,MeetsSeq.EqGives y kv (p y)) (hc:ns.length<=1048576∧ns.contains k=true):wpAny (model prog w) A (call (.builtin "list.index") [.ref la,kv] []) (PD h₀ W (.int (ns.idxOf k:Nat)) σ) ah s:=by
 have hj:ns.idxOf k<ns.length:=List.idxOf_lt_length_iff.mpr (List.contains_iff_mem.mp hc.2)
 have hj':ns.idxOf k<ys.length:=hl▸hj
 exact call_meets PySem.F.slot_list_index ⟨_,ga,rfl⟩ PySem.F.entry_list_index (PySem.F.args_list_index_2 _ _)
  (SeqAt.list_indexAt la ys.toArray m none #[] kv p (ns.idxOf k) hj' (Int.lt_trans (Int.ofNat_lt.mpr hj) (Int.lt_of_le_of_lt (Int.ofNat_le.mpr hc.1) (by decide))) ((hp _ hj' hj).trans (beq_iff_eq.mpr (List.getElem_idxOf hj))) λ j hjs hlt=>(hp j hjs (hl▸hjs)).trans (ur hlt _)) ⟨ga,λ y hy=>(he y (List.mem_toArray.mp hy)).at _ _,PD.here (.int _ _) (R.toks _)⟩
theorem mj(k:Str){vs:List Value}{ns:List Str}(h:StrsAre vs ns):vs.length=ns.length∧∀ (j:Nat) (h1:j<vs.length) (h2:j<ns.length),isStrOf k vs[j]=(ns[j]==k):=by
 induction h with
 | nil=>exact ⟨rfl,λ j h=>absurd h (Nat.not_lt_zero _)⟩
 | cons n t r ih=>exact ⟨congrArg Nat.succ ih.1,λ j h1 h2=>by
   cases j with
   | zero=>rfl
   | succ j=>exact ih.2 j (Nat.lt_of_succ_lt_succ h1) (Nat.lt_of_succ_lt_succ h2)⟩
theorem PD.frz{ds:List D}{xs:List Value}(R:ae w.params h₀ W σ s)(h:DVs W.F.fs ds xs){a:Addr}{h':Heap}{e tk:Nat}(hn:s.heap.objs.size<=a)(k:∀ b o,s.heap.get? b=some o->h'.get? b=some o)(ho:h'.get? a=some (aF "list" xs e)):PD h₀ W (.lst ds) σ (.ref a) { s with heap:=h',toks:=tk }:=
 ⟨{ W with F:=⟨W.F.en,(a,aF "list" xs e)::W.F.fs⟩ },Wd.le_frz W _,.lst ds xs a e (.head _) (h.mono λ _ h=> .tail _ h),R.frz (Ul hn (Nat.le_of_lt (Heap.lt_size ho))) hn k ho⟩
theorem yJ{x y:Str}{k:Int}{t u v:Tok}(R:ae w.params h₀ W σ s)(hc:y.length≠0∧d5 k=true∧x.length+2<=1048576):wpAny (model prog w) A (call (.builtin "str.split") [.str x t,.str y u,.int k v] []) (PD h₀ W (.lst ((Txt.splitMax x y k).map .str)) σ) ah s:=by
 obtain ⟨hy0,hk0,hsz⟩:=hc
 have hk:=dZ hk0
 have hy:(y.length==0)=false:=beq_eq_false_iff_ne.mpr hy0
 have hk':(decide (k < -(2 ^ 63:Int))||decide (k ≥ 2 ^ 63))=false:=by
  rw [Bool.or_eq_false_iff,decide_eq_false_iff_not,decide_eq_false_iff_not];constructor<;>omega
 have hn:(Builtin.Str.partsBetween x (Builtin.Str.occurrences x y 0 x.length (limitOf x k)) y.length).length<=sizeLine:=by
  have e1:=StrLaws.occ_length_le_len x y 0 x.length (limitOf x k)
  rw [length_partsBetween]
  exact Ul (Nat.succ_le_succ (Ul e1 (by omega))) (by decide:1048576<=sizeLine)
 have h':∀ (l:List (Str×Tok)) tk,l.map (·.1)=Txt.splitMax x y k->PD h₀ W (.lst ((Txt.splitMax x y k).map .str)) σ (.ref s.heap.objs.size) { s with heap:=s.heap.push { cls:= .type "list",data:= .seq (strValues l).toArray },toks:=tk }:=λ l tk e=>e▸PD.newList R (qx l) 0 tk
 cases h1:(decide (x.length<y.length)||decide (Builtin.Str.strKind x<Builtin.Str.strKind y)) with
 | true=>exact call_meets F.slot_str_split (typeIs_str _ _ _) F.entry_str_split (F.args_str_split_3 _ _ _) (meets_str_split_max_cannot_occur x y k t u v hk' h1) (h' [(x,t)] s.toks (if_pos h1).symm)
 | false=>cases hf:(Builtin.Str.occurrences x y 0 x.length (limitOf x k)).isEmpty with
  | true=>exact call_meets F.slot_str_split (typeIs_str _ _ _) F.entry_str_split (F.args_str_split_3 _ _ _) (meets_str_split_max_not_found x y k t u v hk' h1 hy hf) (h' [(x,t)] s.toks ((if_neg (ne_true_of_eq_false h1)).trans (if_pos hf)).symm)
  | false=>
   refine call_meets F.slot_str_split (typeIs_str _ _ _) F.entry_str_split (F.args_str_split_3 _ _ _) (meets_str_split_sep_max x y k t u v hk' h1 hy hf (Ul (Ul (Nat.le_add_right _ 2) hsz) (by decide:1048576<=sizeLine)) hn) ?_
   rw [strsFrom_eq]
   exact h' (numbered s.toks _) _ ((numbered_texts _ _).trans ((if_neg (ne_true_of_eq_false h1)).trans (if_neg (ne_true_of_eq_false hf))).symm)
theorem z9(k:Nat)(ds:List D):Ok (vp k ds) λ d=>∀ W σ s A xs,bD 0 A->ae w.params h₀ W σ s->ws s.heap W.F.fs ds xs->wpAny (model prog w) A (gE k xs) (PD h₀ W d σ) ah s:=λ d hd W σ s A xs hA R hx=>by
 revert d
 show Ok (vp k ds) λ d=>wpAny (model prog w) A (gE k xs) (PD h₀ W d σ) ah s
 match k with
 | 1=>
  refine tJ hx λ a x b y e ha hb=> .bind (cV a) λ l e1=>?_
  subst e e1
  obtain ⟨ys,la,m,ga,ra,e⟩:=(ha.inv:ix "list" _ _ l x)
  subst e
  refine .or (.bind (dS b) λ i e2=> .bind (fj ra) λ ns hi=> .ifs λ hc=> .some ?_) (.bind (cR b) λ i e2=> .bind (jl ra) λ ts ⟨l',q1,q2⟩=> .ifs λ hc=> .some ?_)
  ·subst e2
   obtain ⟨t,e⟩:=hb.inv
   exact e▸nQ R ga hi.length (λ j h1 h2=>isInt_at i hi j h1 h2) (eq_isInt i t hi) hc
  ·subst e2 q1 q2
   obtain ⟨t,e⟩:=hb.inv
   have hi:=strsAre_of_values l'
   exact e▸nQ R ga (mj i hi).1 (mj i hi).2 (eq_isStrOf i t hi) hc
 | 2=>
  refine tJ hx λ a x b y e ha hb=> .bind (cR a) λ sep e1=> .bind (cV b) λ l e2=>?_
  subst e e1 e2
  obtain ⟨t,e⟩:=ha.inv
  obtain ⟨ys,la,m,ga,ra,e'⟩:=(hb.inv:ix "list" _ _ l y)
  subst e e'
  exact .bind (jl ra) λ ts ⟨l',q1,q2⟩=> .ifs λ hc=> .some (by subst q1;exact SC.join (au ga) q2 hc λ t' k=>PD.here (.str _ _) (R.toks k))
 | 3=>
  refine HN hx λ a x b y c z e ha hb hz=> .bind (cR a) λ x' e1=> .bind (cR b) λ y' e2=> .bind (dS c) λ k e3=> .ifs λ hc=> .some ?_
  subst e e1 e2 e3
  obtain ⟨t,e⟩:=ha.inv
  obtain ⟨u,e'⟩:=hb.inv
  obtain ⟨v,e''⟩:=hz.inv
  exact e▸e'▸e''▸yJ R hc
 | 4=>
  refine tK hx λ a x e ha=> .bind (cV a) λ l e1=>?_
  subst e e1
  obtain ⟨ys,la,m,ga,ra,e⟩:=(ha.inv:ix "list" _ _ l x)
  subst e
  refine .bind (fj ra) λ ns hi=> .ifs λ hc=> .some (sorted_ints (au ga) hi (hi.length▸hc) λ out ns' a1 a2 a3=>?_)
  obtain ⟨e,he⟩:=sortedAll_at s.heap ys out
  have e1:ns'=iV ns:=mT (a2.trans (sZ ns).symm) a3 (oy ns)
  exact PD.frz R (e1▸AK a1) (Nat.le_succ _) (λ _ _=>sortedAll_old) (show (sortedAll s.heap ys out).get? (s.heap.objs.size+1)=some (aF "list" out.toList e) from he) (tk:=s.toks)
 | 5=>
  refine tK hx λ a x e ha=> .bind (dS a) λ i e1=> .ifs λ hc=> .some ?_
  subst e e1
  obtain ⟨t,e⟩:=ha.inv
  exact e▸P.str_of_int hc (PD.here (.str _ _) (R.toks _))
 | 0=>exact .none
 | k+6=>exact .none
theorem tO{f:Ca}{need:Nat}(hf:uC h₀ f need){X:Cx}(hX:X.O=mO f){n:Nat}(hn:need<=n)(hc:sH h₀ X n):j3 h₀ X n where
 cmp p a b:=hX▸Ja p a b
 bin p a b:=hX▸Jj p a b
 meth k ds hk:=by
  rw [hX]
  show Ok (if k=6 then FD ds else vp k ds) _
  rw [if_neg hk]
  exact z9 k ds
 fn a ds:=hX▸(hf a ds).mono λ d h W σ s A xs hA=>h W σ s A xs (hA.le hn)
 cal:=hc
theorem o9{X:Cx}{n:Nat}(h:X.cal=λ _ _ _=>none):sH h₀ X n:=λ _ _ _=>h▸ .none
structure aI(h₀:Heap):Prop where
 G:GC h₀ gX.glob gX.fns
 D:GD h₀ gX
 CO:cI h₀ gX
theorem aI.all(b:aI h₀){f:Ca}{need:Nat}(hf:uC h₀ f need)(K:bK)(frz:Bool){H:Hk}(hH:JC h₀ (vm K (mO f) frz need) H):aB h₀ (vm K (mO f) frz need) H:=
 ⟨b.G,⟨b.D.df,b.D.kd,b.D.kv⟩,λ _ hn=>tO hf rfl hn (o9 rfl),⟨⟨b.CO.get,b.CO.meth,b.CO.bound,b.CO.set⟩,b.CO.fld⟩,oI (tO hf rfl (Nat.le_refl need) (o9 rfl)) (ph _ _ _ _) (pe _ _ _ _),hH⟩
noncomputable def JO:Ca:=λ _ _=>none
theorem iE:uC h₀ JO 0:=λ _ _=> .none
theorem aI.gx(b:aI h₀):aB h₀ gX bz:=
 have O:∀ n,j3 h₀ gX n:=λ n=>⟨λ _ _ _=> .none,λ _ _ _=> .none,λ _ _ _=> .none,λ _ _=> .none,o9 rfl⟩
 ⟨b.G,b.D,λ n _=>O n,b.CO,oI (O 0) (ph _ _ _ _) (pe _ _ _ _),bi⟩
end
noncomputable def aO(O:eI)(en:Nat->D):bK->Prop
 | []=>True
 | p::K=>av O p.1 (dens en p.2.1)=some (den en p.2.2)∧aO O en K
theorem aO.ok{O:eI}{en:Nat->D}{K:bK}(h:aO O en K):cx K O en:=λ o ds d hm=>by
 induction K with
 | nil=>exact nm hm
 | cons p K ih=>exact (List.mem_cons.mp hm).elim (λ e=>(show (λ p:Op×List D×D=>av O p.1 (dens en p.2.1)=some (den en p.2.2)) (o,ds,d) from e▸h.1)) (ih h.2)
noncomputable abbrev fX(m:List (Str×V)):Option AO:=some ⟨.type "frame",none,.dict m⟩
noncomputable abbrev bS(d:D):Option AO:=some ⟨.type "list",none,.dseq d⟩
noncomputable abbrev vv(i:Nat):V:= .d (.var i)
noncomputable def Lf:Nat->List D->D
 | 0,l=>l.headD .none
 | i+1,l=>Lf i l.tail
noncomputable def jp(ds:List D):Nat->D:=λ i=>Lf i ds
noncomputable abbrev XE(K:bK):Cx:=vm K (mO JO) true 0
noncomputable abbrev XF(f:Ca)(n:Nat)(K:bK):Cx:=vm K (mO f) true n
noncomputable def cf(a:Addr):aw:=(ck (Df a) [] (o1 a ++ ".<locals>.") (some a) (pW a) none []).1
noncomputable def pM(a:Addr)(as:List V):Option (List Stmt×aw×St):=(fi a).bind λ fd=>if iZ fd then (ot fd.body).bind λ body=>(eF (fd.params.args.map (·.arg)) (fd.params.kwonlyargs.map (·.arg)) (Ez a) (λ n=>(LJ a).lookup n) as).bind λ b=>(bU (bC fd a []).1 b (bC fd a []).2).map λ σ₁=>(body,(bC fd a []).1,σ₁) else none
section
variable{h₀:Heap}{G:Heap->Prop}{N n₀:Nat}{c:aw}{en en':Nat->D}{σ σ':St}{P:bZ}{V':fu}
theorem TC.fn(b:aI h₀){a:Addr}{as:List V}{body:List Stmt}{σ₁:St}(he:pM a as=some (body,c,σ₁))(h:TF h₀ G N c (execs body) en σ₁ λ f=>V' (oW f)):TC h₀ G (N+1) a as en [] V':=by
 obtain ⟨fd,hfd,he⟩:=cY he
 refine (Ok.ifs (P:=λ q=>(body,c,σ₁)=q->TC h₀ G (N+1) a as en [] V') λ hc=> .bind (lF _) λ body hb=> .bind .self λ bs hbi=> .map .self λ σ₁ hst e=>?_) _ he rfl
 cases e
 exact TC.def (X:=gX) b.G b.D hfd hc hb hbi hst h
theorem dG.run{X:Cx}{H:Hk}{t:Expr}{body:List Stmt}{Next:(Nat->D)->St->Prop}{d:D}{f:Fl}{bJ:St}(aok:aB h₀ X H)(M:Nat)(u:D)(hM:M+X.need<=N)(k:cx X.K X.O en)(hu:den en u=d)(hrun:(cW X (cy X H M) c t (.d u) σ).bind (af (cy X H M) c body)=some (f,bJ))(h:fQ n₀ Next P f en bJ):dG h₀ N n₀ c t body Next P d en σ:=
 let ⟨σ₁,h1,h2⟩:=cY hrun
 ⟨X,H,M,u,σ₁,aok,hM,k,hu,h1,TF.run aok hM k h2 h⟩
theorem eG{O:eI}{p:Operator}{a b d:D}(h:EW p a b=some d):av O (.bin p) [a,b]=some d:=congrArg (Option.or · _) h
theorem gH{O:eI}{a:D}{n:Nat}(h:DN a=some n):av O .len [a]=some (.int n):=congrArg (Option.map λ n:Nat=>D.int n) h
theorem aQ{O:eI}{l:List D}{a:D}(h:l.length<=16777216):av O .push [.lst l,a]=some (.lst (l++[a])):=if_pos h
theorem nu{j:Nat}(h:j<=1000000):d5 (j:Int)=true:=Um.mpr ⟨decide_eq_true (Int.le_trans (by decide) (Int.natCast_nonneg j)),decide_eq_true (Int.le_trans (Int.ofNat_le.mpr h) (by decide))⟩
theorem vE{j n:Nat}(h:j<n):jh (j:Int) n=some j:=(if_pos (Int.natCast_nonneg j)).trans (if_pos (Int.ofNat_lt.mpr h))
theorem rO{l:List D}{j:Nat}{d:D}(h:l[j]?=some d)(hj:j<=1000000):kj (.lst l) (.int j)=some d:=
 (if_pos (nu hj)).trans ((congrArg (Option.bind · (l[·]?)) (vE (List.getElem?_eq_some_iff.mp h).1)).trans h)
theorem a7{l:List Int}{j:Nat}(h:j<l.length)(hl:l.length<=1000):kj (.lst (l.map .int)) (.int j)=some (.int (l.getD j 0)):=
 rO (by rw [List.getElem?_map,List.getD_eq_getElem?_getD,List.getElem?_eq_getElem h];rfl) (Ul (Nat.le_of_lt h) (Ul hl (by decide)))
theorem jb{O:eI}{l:List Int}(h:l.length<=1000):av O .len [.lst (l.map .int)]=some (.int l.length):=gH ((if_pos (by rw [List.length_map];exact Ul h (by decide))).trans (congrArg some (List.length_map ..)))
theorem TF.iteR{X:Cx}{H:Hk}(ok:aB h₀ X H){M:Nat}(hM:M+X.need<=N){t:Expr}{b o:List Stmt}{p:Pos}{x:Bool}{σ₁:St}(k:cx X.K X.O en)(ht:(cy X H M).T c t σ=some (x,σ₁))(h:TF h₀ G N c (execs (if x then b else o)) en σ₁ P):TF h₀ G N c (exec (.If t b o p)) en σ P:=
 TF.ite <| .mk λ W A s a=>aC ((aZ ok M).T c t σ _ ht _ A W s (a.at hM k)) λ y s' ⟨e,W',le,R⟩=>⟨W',σ₁,le.lf,R,e▸(le.fz.en.trans a.e).symm▸h⟩
theorem TF.then{t:Stmt}{us:List Stmt}{Q:bZ}(h:TF h₀ (Eq h₀) N c (exec t) en σ Q)(k:∀ f en' σ',Q f en' σ'->GM (Eq h₀) G N c us P f en' σ'):TF h₀ G N c (execs (t::us)) en σ P:=
 TF.cons <| .mk λ W A s a=>aC (h.ap W A s a) λ _ _ ⟨h,f,W',σ',g,l,r,R,p⟩=>⟨h,f,W',σ',g,l,r,R,k _ _ _ p⟩
theorem TF.end{X:Cx}{H:Hk}(ok:aB h₀ X H){M:Nat}(hM:M+X.need<=N){ts:List Stmt}{f:Fl}(k:cx X.K X.O en)(e:(af (cy X H M) c ts σ).map (·.1)=some f)(h:∀ σ',P f en σ'):TF h₀ (Eq h₀) N c (execs ts) en σ P:=by
 obtain ⟨⟨f',σ'⟩,h1,h2⟩:=Option.map_eq_some_iff.mp e
 exact TF.run ok hM k h1 (show P f' en σ' from (show f'=f from h2)▸h σ')
theorem TF.forL{α:Type}(g:α->D){X:Cx}{H:Hk}(aok:aB h₀ X H){M:Nat}(hM:M+X.need<=N){t e:Expr}{body:List Stmt}{p:Pos}{v:V}{σ₁:St}(hp:iC e=true)(k:cx X.K X.O en)(he:(cy X H M).E c e σ=some (v,σ₁))(l:List α)(hL:dR en v=some (l.map g))(ht:Ki en t v=true)
  (I:List α->(Nat->D)->St->Prop) (turn:∀ a r en σ,I (a::r) en σ->dG h₀ N σ₁.length c t body (I r) P (g a) en σ) (hend:∀ en σ,I [] en σ->P .next en σ) (h0:I l en σ₁):TF h₀ (Eq h₀) N c (exec (.For t e body [] p)) en σ P:=by
 refine TF.for aok hM hp k he hL ht (λ k=>I (l.drop k)) (λ k d en σ' hd hI=>?_) (λ en σ hI=>hend en σ ?_) h0
 ·obtain ⟨q,hq,e⟩:=Option.map_eq_some_iff.mp (List.getElem?_map.symm.trans hd)
  obtain ⟨hlt,e'⟩:=List.getElem?_eq_some_iff.mp hq
  rw [List.drop_eq_getElem_cons hlt,e'] at hI
  exact e▸turn q _ en σ' hI
 ·rw [List.length_map,List.drop_length] at hI
  exact hI
theorem jU(us:List Stmt)(env:Env)(ts:List Stmt):execs (ts++us) env=(execs ts env>>=λ f=>match f with | .next=>execs us env | f=>pure f):=by
 induction ts with
 | nil=>rfl
 | cons t ts ih=>
  rw [List.cons_append,execs_cons,execs_cons,bind_assoc]
  refine congrArg (exec t env>>=·) (funext λ f=>?_)
  cases f with
  | next=>exact ih
  | _=>rfl
theorem TF.runsA{X:Cx}{H:Hk}(ok:aB h₀ X H){M:Nat}(hM:M+X.need<=N)(ts:List Stmt){us:List Stmt}{σ₁:St}(k:cx X.K X.O en)(e:af (cy X H M) c ts σ=some (.next,σ₁))(ag:bQ σ.length en σ₁ en' σ')(h:TF h₀ G N c (execs us) en' σ' P):TF h₀ G N c (execs (ts++us)) en σ P:= .mk λ W A s a=>
 cP (jU ..) (Uj (aC (aE (aZ ok M) ts σ _ e _ A W s (a.at hM k)) λ x ac ⟨W₁,le,fr,ax⟩=>by
  obtain ⟨ρ',l,R⟩:=ax.again (n₀:=σ.length) ((le.fz.en.trans a.e).symm▸ag)
  rw [show x= .next from FR.next fr]
  exact TF.go (W':={ W₁ with ρ:=ρ',F:=⟨en',W₁.F.fs⟩ }) h a ⟨(List.prefix_take_iff.mpr ⟨le.rho,Up a.R.len.symm⟩).trans l,le.fz.fs,le.pv,le.gg,le.tb⟩ R))
end
noncomputable def P0(r:Bool)(x v:Int):Bool:=if r then decide (x<v) else decide (v<x)
noncomputable def mo(r:Bool)(x v:Int):Bool:=r==P0 r x v
noncomputable def dT(r:Bool)(l:List Int)(x:Int):Nat->Nat->Nat->Nat
 | 0,lo,_=>lo
 | f+1,lo,hi=>if lo<hi then (if mo r x (l.getD ((lo+hi) / 2) 0)=true then dT r l x f lo ((lo+hi) / 2) else dT r l x f ((lo+hi) / 2+1) hi) else lo
noncomputable def bI(r:Bool)(l:List Int)(x:Int):Nat:=dT r l x (l.length+1) 0 l.length
noncomputable def yb(r:Bool):Addr:=if r then 77 else 86
noncomputable abbrev cB(r:Bool):aw:=cf (yb r)
noncomputable def bB(r:Bool):List Stmt:=am (yb r)
noncomputable def wB(r:Bool):Stmt:=bt (gc (bt (bB r) 2)) 0
theorem BF(r:Bool):am (yb r)=(bB r).take 2++(.If (mn (bt (bB r) 2)) [.While (mn (wB r)) (a9 (wB r)) [] (bE (wB r))] (xn (bt (bB r) 2)) (bE (bt (bB r) 2))::[bt (bB r) 3]):=by cases r<;>kernel_rfl
noncomputable def CK:St:=[fX [("a",vv 0),("x",vv 1),("lo",.d (.int 0)),("hi",.d .none),("key",.d .none)]]
noncomputable def uL(lo hi m:Nat)(has:Bool):St:=[fX (("a",vv 0)::("x",vv 1)::("lo",vv lo)::("hi",vv hi)::("key",.d .none)::if has then [("mid",vv m)] else [])]
noncomputable def eB(l:List Int)(x:Int)(lo hi mid:Nat):Nat->D:=jp [.lst (l.map .int),.int x,.int lo,.int hi,.int mid,.int ((lo:Int)+hi),.int ((lo+hi) / 2:Nat),.int (l.getD ((lo+hi) / 2) 0),.int ((lo+hi) / 2+1:Nat)]
noncomputable def RP:bK:=[(.len,[.var 0],.var 3)]
noncomputable def P5(b:Bool):bK:=[(.cmp .Lt,[.var 2,.var 3],.bool b)]
noncomputable def RO(r b:Bool):bK:=[(.bin .Add,[.var 2,.var 3],.var 5),(.bin .FloorDiv,[.var 5,.int 2],.var 6),(.item,[.var 0,.var 6],.var 7),(.cmp .Lt,if r then [.var 1,.var 7] else [.var 7,.var 1],.bool b),(.bin .Add,[.var 6,.int 1],.var 8)]
theorem Tr(r:Bool):af (cy (XE RP) bz 8) (cB r) ((bB r).take 2) CK=some (.next,[fX [("a",vv 0),("x",vv 1),("lo",.d (.int 0)),("hi",vv 3),("key",.d .none)]]):=by cases r<;>kernel_rfl
theorem Tq(r:Bool):(cy (XE []) bz 8).T (cB r) (mn (bt (bB r) 2)) (uL 2 3 4 false)=some (true,uL 2 3 4 false):=by cases r<;>kernel_rfl
theorem Rj(r has b:Bool):(cy (XE (P5 b)) bz 8).T (cB r) (mn (wB r)) (uL 2 3 4 has)=some (b,uL 2 3 4 has):=by cases r<;>cases has<;>cases b<;>kernel_rfl
theorem To(r has b:Bool):af (cy (XE (RO r b)) bz 8) (cB r) (a9 (wB r)) (uL 2 3 4 has)=some (.next,if (r==b)=true then uL 2 6 6 true else uL 8 3 6 true):=by cases r<;>cases has<;>cases b<;>kernel_rfl
theorem Tp(r has:Bool):af (cy (XE []) bz 8) (cB r) [bt (bB r) 3] (uL 2 3 4 has)=some (.ret (vv 2),uL 2 3 4 has):=by cases r<;>cases has<;>kernel_rfl
inductive QW(r:Bool)(l:List Int)(x:Int)(f:Nat)(en:Nat->D)(σ:St):Prop
 | mk (lo hi mid:Nat) (has:Bool) (hh:hi<=l.length) (hf:hi<lo+f) (hb:dT r l x f lo hi=bI r l x) (es:σ=uL 2 3 4 has) (ee:en=eB l x lo hi mid)
theorem k9{lo hi:Nat}(h:lo<hi):(lo+hi) / 2<hi∧lo<=(lo+hi) / 2:=⟨(Nat.div_lt_iff_lt_mul (by decide)).mpr (Nat.mul_two hi▸Nat.add_lt_add_right h hi),(Nat.le_div_iff_mul_le (by decide)).mpr (Nat.mul_two lo▸Nat.add_le_add_left (Nat.le_of_lt h) lo)⟩
theorem fO(r:Bool)(l:List Int)(x:Int)(f lo hi:Nat):dT r l x (f+1) lo hi=if lo<hi then (if mo r x (l.getD ((lo+hi) / 2) 0)=true then dT r l x f lo ((lo+hi) / 2) else dT r l x f ((lo+hi) / 2+1) hi) else lo:=rfl
inductive Q0(r:Bool)(l:List Int)(x:Int)(f:Fl)(en:Nat->D)(σ:St):Prop
 | mk (e:f= .next) (lo hi mid:Nat) (has:Bool) (hb:lo=bI r l x) (es:σ=uL 2 3 4 has) (ee:en=eB l x lo hi mid)
section
variable{h₀:Heap}
theorem Mx(a b:Nat):EW .FloorDiv (.int ((a:Int)+b)) (.int 2)=some (.int (((a+b) / 2:Nat):Int)):=by
 have h:Builtin.divisionGoesByPylong ((a:Int)+b) 2=false:=by unfold Builtin.divisionGoesByPylong;exact Bool.and_eq_false_iff.mpr (.inl (by decide))
 show (if (2:Int)=0 then none else if Builtin.divisionGoesByPylong ((a:Int)+b) 2=true then none else some (D.int (((a:Int)+b).fdiv 2)))=_
 rw [h,Int.fdiv_eq_ediv_of_nonneg _ (by decide)]
 rfl
theorem yx(b:aI h₀)(r:Bool){l:List Int}(x:Int)(hl:l.length<=1000):TF h₀ (Eq h₀) 10 (cB r) (execs (am (yb r))) (eB l x 0 l.length 0) CK λ f en' _=>∃ u,oW f= .d u∧den en' u= .int (bI r l x:Nat):=by
 have ok:∀ K,aB h₀ (XE K) bz:=λ K=>b.all iE K true bi
 rw [BF]
 refine TF.runs (ok RP) (M:=8) (by decide) ((bB r).take 2) (aO.ok ⟨jb hl,trivial⟩) (Tr r) (TF.re (σ':=uL 2 3 4 false) (en':=eB l x 0 l.length 0) ⟨[],by kernel_rfl,by kernel_rfl⟩ ?_)
 refine TF.cons (G₁:=Eq h₀) (TF.iteR (ok []) (M:=8) (by decide) aD (Tq r) (TF.then (TF.while (P:=Q0 r l x) (QW r l x) ?_ (m:=l.length+1) ⟨0,l.length,0,false,Nat.le_refl _,Nat.lt_of_lt_of_eq (Nat.lt_succ_self _) (Nat.zero_add _).symm,rfl,rfl,rfl⟩) ?_))
 ·intro f en σ' ⟨lo,hi,mid,has,hh,hf,hb,es,ee⟩
  subst es ee
  cases f with
  | zero=>exact ⟨XE (P5 (decide ((lo:Int)<hi))),bz,8,_,_,ok _,(show 8+0<=10 by decide),aO.ok ⟨rfl,trivial⟩,Rj r has _,by
    rw [decide_eq_false (show ¬ ((lo:Int)<hi) from λ h=>Nat.lt_asymm (show hi<lo from hf) (Int.ofNat_lt.mp h))]
    exact ⟨rfl,lo,hi,mid,has,hb,rfl,rfl⟩⟩
  | succ f=>
   refine ⟨XE (P5 (decide ((lo:Int)<hi))),bz,8,_,_,ok _,(show 8+0<=10 by decide),aO.ok ⟨rfl,trivial⟩,Rj r has _,?_⟩
   rw [fO] at hb
   by_cases hlt:lo<hi
   ·rw [if_pos hlt] at hb
    rw [decide_eq_true (Int.ofNat_lt.mpr hlt)]
    have hm:=k9 hlt
    refine TF.run (ok (RO r (P0 r x (l.getD ((lo+hi) / 2) 0)))) (M:=8) (show 8+0<=10 by decide) (aO.ok ⟨rfl,eG (Mx lo hi),a7 (Nat.lt_of_lt_of_le hm.1 hh) hl,by cases r<;>rfl,rfl,trivial⟩) (To r has _) ?_
    cases hg:(r==P0 r x (l.getD ((lo+hi) / 2) 0)) with
    | true=>
     rw [if_pos (show mo r x (l.getD ((lo+hi) / 2) 0)=true from hg)] at hb
     exact ⟨eB l x lo ((lo+hi) / 2) ((lo+hi) / 2),uL 2 3 4 true,⟨[],by kernel_rfl,by kernel_rfl⟩,f,Nat.lt_succ_self f,lo,_,_,true,Ul (Nat.le_of_lt hm.1) hh,Nat.lt_of_lt_of_le hm.1 (Nat.le_of_lt_succ hf),hb,rfl,rfl⟩
    | false=>
     rw [if_neg (show ¬ mo r x (l.getD ((lo+hi) / 2) 0)=true from λ e=>ft (hg.symm.trans e))] at hb
     exact ⟨eB l x ((lo+hi) / 2+1) hi ((lo+hi) / 2),uL 2 3 4 true,⟨[],by kernel_rfl,by kernel_rfl⟩,f,Nat.lt_succ_self f,_,hi,_,true,hh,Nat.lt_of_lt_of_le hf (Ul (Nat.add_le_add_right hm.2 _) (Up (Nat.add_right_comm _ f 1))),hb,rfl,rfl⟩
   ·rw [if_neg hlt] at hb
    rw [decide_eq_false (λ h=>hlt (Int.ofNat_lt.mp h))]
    exact ⟨rfl,lo,hi,mid,has,hb,rfl,rfl⟩
 ·intro f en' σ' ⟨e,lo,hi,mid,has,hb,es,ee⟩
  subst e es ee hb
  exact λ ab e=>e▸TF.nil λ ik e=>e▸TF.run (ok []) (M:=8) (by decide) aD (Tp r has) ⟨.var 2,rfl,rfl⟩
theorem nW{l:List D}:Ok (cD l) λ ns=>l=ns.map .int:=by
 induction l with
 | nil=>exact .some rfl
 | cons d l ih=>exact .bind (dS d) λ i e=> .map ih λ ns k=>e▸k▸rfl
noncomputable def EV(r:Bool)(a b:D):Option D:=(md a).bind λ l=>(pA b).bind λ x=>(cD l).bind λ ns=>if ns.length<=1000 then some (.int (bI r ns x:Nat)) else none
noncomputable def QG(r:Bool)(a b c d:D):Option D:=if (EY c (.int 0)&&EY d .none)=true then EV r a b else none
noncomputable def xQ(r:Bool)(ds:List D):Option D:=(w9 (EV r) ds).or (Od (QG r) ds)
theorem Tn(r:Bool):pM (yb r) [vv 0,vv 1]=some (am (yb r),cB r,CK):=by cases r<;>kernel_rfl
theorem Pd(r:Bool):pM (yb r) [vv 0,vv 1,.d (.int 0),.d .none]=some (am (yb r),cB r,CK):=by cases r<;>kernel_rfl
noncomputable abbrev Fp(h₀:Heap)(N:Nat)(a:Addr)(ds:List D)(d:D):Prop:=∀ W σ s A xs,bD N A->ae w.params h₀ W σ s->DVs W.F.fs ds xs->wpAny (model prog w) A (call (.ref a) xs []) (PD h₀ W d σ) ah s
theorem wf(b:aI h₀)(r:Bool)(x y:D):Ok (EV r x y) λ d=>Fp h₀ 11 (yb r) [x,y] d∧Fp h₀ 11 (yb r) [x,y,.int 0,.none] d:=by
 refine .bind (cV x) λ l e1=> .bind (dS y) λ i e2=> .bind nW λ ns e3=> .ifs λ hl=> .some ?_
 subst e1 e2 e3
 exact ⟨λ W σ s A xs hA R hx=>eC (TC.fn b (Tn r) (yx b r i hl)) (λ F xs hx=>DVs.toVRs (F:=⟨eB ns i 0 ns.length 0,F⟩) (vs:=[.var 0,.var 1]) hx) hA R hx,
  λ W σ s A xs hA R hx=>eC (TC.fn b (Pd r) (yx b r i hl)) (λ F xs hx=>DVs.toVRs (F:=⟨eB ns i 0 ns.length 0,F⟩) (vs:=[.var 0,.var 1,.int 0,.none]) hx) hA R hx⟩
theorem we(b:aI h₀)(r:Bool)(ds:List D):Ok (xQ r ds) (Fp h₀ 11 (yb r) ds):=by
 have two:Ok (w9 (EV r) ds) (Fp h₀ 11 (yb r) ds):=by
  cases ds with
  | nil=>exact .none
  | cons x ds=>cases ds with
   | nil=>exact .none
   | cons y ds=>cases ds with
    | nil=>exact (wf b r x y).mono λ d h=>h.1
    | cons=>exact .none
 refine .or two ?_
 cases ds with
 | nil=>exact .none
 | cons x ds=>cases ds with
  | nil=>exact .none
  | cons y ds=>cases ds with
   | nil=>exact .none
   | cons z ds=>cases ds with
    | nil=>exact .none
    | cons u ds=>cases ds with
     | nil=>exact .and λ h1 h2=>pZ _ _ h1▸pZ _ _ h2▸(wf b r x y).mono λ d h=>h.2
     | cons=>exact .none
end
noncomputable abbrev Sg:=Int×Str
noncomputable def GV(p:Sg):D:= .tup [.int p.1,.str p.2]
noncomputable def fJ:List Nat->Nat->Bool->Int->List Sg
 | [],_,esc,last=>if esc then [(last, "\\")] else []
 | c::cs,i,true,_=>(i,("\\" : Str)++⟨#[c]⟩)::fJ cs (i+1) false i
 | c::cs,i,false,_=>if ((⟨#[c]⟩:Str) == "\\")=true then fJ cs (i+1) true i else (i,⟨#[c]⟩)::fJ cs (i+1) false i
theorem vQ(cs:List Nat):∀ i e l,jm cs i e l=(fJ cs i e l).map GV:=by
 induction cs with
 | nil=>intro i e l;cases e<;>rfl
 | cons c cs ih=>
  intro i e l
  cases e with
  | true=>exact congrArg (_::·) (ih ..)
  | false=>
   show (if _ then _ else _)=(if _ then _ else _:List Sg).map GV
   split
   ·exact ih ..
   ·exact congrArg (_::·) (ih ..)
theorem Bf(cs:List Nat):∀ i e l,(fJ cs i e l).length<=cs.length+1:=by
 induction cs with
 | nil=>intro i e l;cases e<;>first | exact Nat.zero_le _ | exact Nat.le_refl _
 | cons c cs ih=>
  intro i e l
  cases e with
  | true=>exact Nat.succ_le_succ (ih ..)
  | false=>
   show (if _ then _ else _:List Sg).length<=_
   split
   ·exact Nat.le_succ_of_le (ih ..)
   ·exact Nat.succ_le_succ (ih ..)
noncomputable abbrev Hn(x:Str):List Sg:=fJ x.cps.toList 0 false 0
section
variable{h₀:Heap}{N:Nat}{c:aw}{en:Nat->D}{σ:St}{P:bZ}
theorem TF.gesc{X:Cx}{H:Hk}(aok:aB h₀ X H)(aog:aB h₀ gX bz){M:Nat}(hM:M+X.need<=N)(hN:9<=N){arg:Expr}{body:List Stmt}{es:List Expr}{kk:Nat}{tp fp pos p:Pos}{f:Str}{u:D}{x:Str}(k:cx X.K X.O en)
  (hf:aX X.glob c f σ=some (.glob (.ref 45))) (hk:fc X (.glob (.ref 45))=true) (he:c7 (cy X H M) c [arg] σ=some ([.d u],σ)) (hux:den en u= .str x) (hx:aR x=true)
  (I:List Sg->(Nat->D)->St->Prop) (turn:∀ p r en σ',I (p::r) en σ'->dG h₀ N σ.length c (.Tuple es kk tp) body (I r) P (GV p) en σ') (hend:∀ en σ,I [] en σ->P .next en σ) (h0:I (Hn x) en σ) :
  TF h₀ (Eq h₀) N c (exec (.For (.Tuple es kk tp) (.Call (.Name f fp) [arg] [] pos) body [] p)) en σ P:=by
 refine TF.gfor aok aog hM hN k hf hk he hux hx (λ k=>I ((Hn x).drop k)) (λ k d en σ' hd hI=>?_) (λ en σ hI=>hend en σ ?_) h0
 ·rw [vQ] at hd
  obtain ⟨q,hq,e⟩:=Option.map_eq_some_iff.mp (List.getElem?_map.symm.trans hd)
  obtain ⟨hlt,e'⟩:=List.getElem?_eq_some_iff.mp hq
  rw [List.drop_eq_getElem_cons hlt,e'] at hI
  exact e▸turn q _ en σ' hI
 ·rw [vQ,List.length_map,List.drop_length] at hI
  exact hI
end
structure Sp where
 st:Int
 op:Option Int
 res:List Str
noncomputable def N9(x:Str)(s:Sp)(p:Sg)(q b:Bool):Sp:=⟨if (q&&s.op.isSome)=true then p.1+1 else s.st,if q=true then (match s.op with | none=>some p.1 | some _=>none) else s.op,if (q&&(s.op.isSome&&b))=true then s.res++[Txt.slice x (some s.st) (some (s.op.getD 0))] else s.res⟩
noncomputable def ci(x:Str)(s:Sp)(p:Sg):Sp:=N9 x s p (p.2 == "\"") (s.st != s.op.getD 0)
noncomputable def uM(x:Str):Sp:=(Hn x).foldl (ci x) ⟨0,none,[]⟩
noncomputable def dK(x:Str)(s:Sp):List Str:=if s.st<x.length then s.res++[Txt.slice x (some s.st) none] else s.res
noncomputable def bP(x:Str):Str:=if ml "\"" x then Txt.join "" (dK x (uM x)) else x
noncomputable def Jk:List Stmt:=am 52
noncomputable def Qo:Stmt:=bt Jk 4
noncomputable abbrev gfor(n:Nat)(f:Stmt):Stmt:= .For (.Tuple [.Name "pos" ⟨n,8,n,11⟩,.Name "ch" ⟨n,13,n,15⟩] 0 ⟨n,8,n,15⟩) (.Call (.Name "_iter_escaped_chars" ⟨n,19,n,38⟩) [.Name "addr" ⟨n,39,n,43⟩] [] ⟨n,19,n,44⟩) (a9 f) [] (bE f)
theorem xU:am 52=Jk.take 4++(gfor 25 Qo::Jk.drop 5):=by kernel_rfl
noncomputable abbrev JU:aw:=cf 52
noncomputable def wE(s o l:Nat)(op:Bool)(m:List (Str×V)):St:=[fX (("addr",vv 0)::("start",vv s)::("open_pos",if op then vv o else .d .none)::("result",.ref 1)::m),bS (.var l)]
noncomputable def Ck(p c:Nat)(has:Bool):List (Str×V):=if has then [("pos",vv p),("ch",vv c)] else []
noncomputable def Oz(x:Str)(s:Sp)(pos:Int)(ch:Str)(p:Sg):Nat->D:=jp [.str x,.int s.st,.int (s.op.getD 0),.lst (s.res.map .str),.int pos,.str ch,.int p.1,.str p.2,.str (Txt.slice x (some s.st) (some (s.op.getD 0))),.lst ((s.res++[Txt.slice x (some s.st) (some (s.op.getD 0))]).map .str),.int (p.1+1),
 .int x.length,.str (Txt.slice x (some s.st) none),.lst ((s.res++[Txt.slice x (some s.st) none]).map .str),.str (Txt.join "" (dK x s))]
noncomputable def DX(b:Bool):bK:=[(.cmp .NotIn,[.str "\"",.var 0],.bool b)]
noncomputable def Ot(q b:Bool):bK:=[(.cmp .Eq,[.var 7,.str "\""],.bool q),(.cmp .Is,[.var 2,.none],.bool false),(.cmp .NotEq,[.var 1,.var 2],.bool b),(.slice,[.var 0,.var 1,.var 2,.none],.var 8),(.push,[.var 3,.var 8],.var 9),(.bin .Add,[.var 6,.int 1],.var 10)]
noncomputable def LR(b:Bool):bK:=[(.len,[.var 0],.var 11),(.cmp .Lt,[.var 1,.var 11],.bool b),(.slice,[.var 0,.var 1,.none,.none],.var 12),(.push,[.var 3,.var 12],.var 13),(.meth 2,[.str "",if b then .var 13 else .var 3],.var 14)]
noncomputable def Rs(op q b:Bool):St:=wE (if q&&op then 10 else 1) (if q then 6 else 2) (if q&&(op&&b) then 9 else 3) (if q then !op else op) [("pos",vv 6),("ch",vv 7)]
theorem Pp:af (cy (XE (DX true)) bz 10) JU Jk [fX [("addr",vv 0)]]=some (.ret (vv 0),[fX [("addr",vv 0)]]):=by kernel_rfl
theorem Po:af (cy (XE (DX false)) bz 10) JU (Jk.take 4) [fX [("addr",vv 0)]]=some (.next,[fX [("addr",vv 0),("start",.d (.int 0)),("open_pos",.d .none),("result",.ref 1)],bS (.lst [])]):=by kernel_rfl
noncomputable def KI(op has q b:Bool):Option (Fl×St):=(cW (XE (Ot q b)) (cy (XE (Ot q b)) bz 10) JU (bA Qo) (.d (.tup [.var 6,.var 7])) (wE 1 2 3 op (Ck 4 5 has))).bind (af (cy (XE (Ot q b)) bz 10) JU (a9 Qo))
theorem TI(op has q b:Bool):KI op has q b=some (.next,Rs op q b):=by cases op<;>cases has<;>cases q<;>cases b<;>kernel_rfl
noncomputable def Hq(op has b:Bool):Option Fl:=(af (cy (XE (LR b)) bz 10) JU (Jk.drop 5) (wE 1 2 3 op (Ck 4 5 has))).map (·.1)
theorem Pn(op has b:Bool):Hq op has b=some (.ret (vv 14)):=by cases op<;>cases has<;>cases b<;>kernel_rfl
noncomputable def Ch(l:List Str):Nat:=(l.map (·.length)).sum+l.length
inductive ND(x:Str)(r:List Sg)(en:Nat->D)(σ:St):Prop
 | mk (s:Sp) (pos:Int) (ch:Str) (p:Sg) (has:Bool) (hf:r.foldl (ci x) s=uM x) (hr:Ch s.res+r.length * (x.length+1)<=1002001) (hp:∀ q r',r=q::r'->p=q) (es:σ=wE 1 2 3 s.op.isSome (Ck 4 5 has)) (ee:en=Oz x s pos ch p)
section
variable{h₀:Heap}
theorem qo(l:List Str)(a:Str):Ch (l++[a])=Ch l+(a.length+1):=by
 unfold Ch
 rw [List.map_append,List.sum_append,List.length_append,Nat.add_add_add_comm]
 rfl
theorem jT(l:List Str):ir (l.map .str)=some l:=by
 induction l with
 | nil=>rfl
 | cons a l ih=>exact congrArg (Option.map (a::·)) ih
theorem Ad(l:List Str)(a:Str):(l++[a]).map D.str=l.map D.str++[.str a]:=List.map_append
theorem qV{O:eI}{l:List Str}{a:Str}(h:l.length<=1048576):av O .push [.lst (l.map .str),.str a]=some (.lst ((l++[a]).map .str)):=(aQ (by rw [List.length_map];exact Ul h (by decide))).trans (congrArg (λ l=>some (D.lst l)) (Ad l a).symm)
theorem uE(l:List Str):l.length<=Ch l:=Nat.le_add_left _ _
theorem iB{O:eI}{x:Str}{a b:D}{i j:Option Int}(ha:gD a=some i)(hb:gD b=some j)(hx:x.length<=1000):av O .slice [.str x,a,b,.none]=some (.str (Txt.slice x i j)):=by
 show ((gD a).bind λ l=>(gD b).bind λ u=>if (none:Option Int)=none∧x.length<=sizeLine then some (D.str (Txt.slice x l u)) else none)=_
 rw [ha,hb]
 exact if_pos ⟨rfl,Ul hx (by decide)⟩
theorem len_str{O:eI}{x:Str}(h:x.length<=1000):av O .len [.str x]=some (.int x.length):=gH (if_pos (Ul h (by decide)))
theorem Fa(x:Str)(s:Sp)(p p':Sg)(pos:Int)(ch:Str)(q b:Bool):bQ 2 (Oz x s pos ch p) (Rs s.op.isSome q b) (Oz x (N9 x s p q b) p.1 p.2 p') (wE 1 2 3 (N9 x s p q b).op.isSome (Ck 4 5 true)):=
 ⟨[],by kernel_rfl,by obtain ⟨st,op,res⟩:=s;cases q<;>cases op<;>cases b<;>kernel_rfl⟩
theorem yn(x:Str)(s:Sp)(p:Sg)(q b:Bool):Ch (N9 x s p q b).res<=Ch s.res+(x.length+1):=by
 show Ch (if _ then _ else _)<=_
 split
 ·rw [qo];exact Nat.add_le_add_left (Nat.succ_le_succ (Txt.slice_le _ _ _)) _
 ·exact Nat.le_add_right _ _
theorem tS{l:List Str}(h:Ch l<=1048576):av (mO JO) (.meth 2) [.str "",.lst (l.map .str)]=some (.str (Txt.join "" l)):=by
 show (ir (l.map .str)).bind _=_
 rw [jT]
 exact if_pos (joinOk_of_weight h (by decide))
theorem OU(b:aI h₀){x:Str}(hx:aR x=true)(hl:x.length<=1000):TC h₀ (Eq h₀) 11 52 [vv 0] (jp [.str x]) [] λ v en' _=>∃ u,v= .d u∧den en' u= .str (bP x):=by
 have ok:∀ K,aB h₀ (XE K) bz:=λ K=>b.all iE K true bi
 refine TC.fn b (body:=am 52) (c:=JU) (σ₁:=[fX [("addr",vv 0)]]) (by kernel_rfl) ?_
 cases hq:ml "\"" x with
 | false=>exact TF.run (ok (DX true)) (M:=10) (Nat.le_refl _) (aO.ok ⟨congrArg (λ b=>some (D.bool (!b))) hq,trivial⟩) Pp ⟨.var 0,rfl,by unfold bP;rw [hq];rfl⟩
 | true=>
  rw [xU]
  refine TF.runs (ok (DX false)) (M:=10) (Nat.le_refl _) (Jk.take 4) (aO.ok ⟨congrArg (λ b=>some (D.bool (!b))) hq,trivial⟩) Po (TF.re (en':=Oz x ⟨0,none,[]⟩ 0 "" ((Hn x).headD (0, ""))) (σ':=wE 1 2 3 false (Ck 4 5 false)) ⟨[],by kernel_rfl,by kernel_rfl⟩ ?_)
  have h0:(Hn x).length * (x.length+1)<=1002001:=Nat.mul_le_mul (Ul (Bf ..) (Nat.succ_le_succ hl)) (Nat.succ_le_succ hl)
  refine TF.cons (G₁:=Eq h₀) (TF.gesc (ok []) b.gx (M:=9) (by decide) (by decide) aD (u:= .var 0) (x:=x) (by kernel_rfl) (by kernel_rfl) (by kernel_rfl) rfl hx (ND x) ?_ ?_ ⟨⟨0,none,[]⟩,0, "",_,false,rfl,Ul (Up (Nat.zero_add _)) h0,λ q r' e=>by rw [e];rfl,rfl,rfl⟩)
  ·intro p r en σ' ⟨s,pos,ch,p',has,hf,hr,hp,es,ee⟩
   obtain rfl:=hp p r rfl
   subst es ee
   rw [List.length_cons,Nat.succ_mul,Nat.add_comm (r.length * _),← Nat.add_assoc] at hr
   have hn:s.res.length<=1048576:=Ul (uE _) (Ul (Ul (Nat.le_add_right _ (x.length+1)) (Ul (Nat.le_add_right _ _) hr)) (by decide))
   exact dG.run (ok (Ot (p'.2 == "\"") (s.st != s.op.getD 0))) 10 (.tup [.var 6,.var 7]) (Nat.le_refl _) (aO.ok ⟨rfl,rfl,rfl,iB rfl rfl hl,qV hn,rfl,trivial⟩) rfl (TI s.op.isSome has _ _)
    ⟨_,_,Fa x s p' (r.headD (0, "")) pos ch _ _,_,_,_,_,true,hf,Ul (Nat.add_le_add_right (yn ..) _) hr,λ q r' e=>by rw [e];rfl,rfl,rfl⟩
  ·intro en σ ⟨s,pos,ch,p',has,hf,hr,hp,es,ee⟩
   subst es ee
   have hr:Ch s.res<=1002001:=Ul (Nat.le_add_right _ _) hr
   have hs:s=uM x:=hf
   refine λ h e=>e▸TF.end (ok (LR (decide (s.st<x.length)))) (M:=10) (Nat.le_refl _) (aO.ok ⟨len_str hl,rfl,iB rfl rfl hl,qV (Ul (uE _) (Ul hr (by decide))),?_,trivial⟩) (Pn _ has _) λ σ'=>⟨.var 14,rfl,?_⟩
   ·have hj:=tS (l:=dK x s) (by
     unfold dK
     split
     ·rw [qo];exact Ul (Nat.add_le_add hr (Nat.succ_le_succ (Ul (Txt.slice_le _ _ _) hl))) (by decide)
     ·exact Ul hr (by decide))
    cases hc:decide (s.st<x.length) with
    | true=>exact (congrArg (λ l:List Str=>av (mO JO) (.meth 2) [.str "",.lst (l.map .str)]) (show dK x s=_ from if_pos (of_decide_eq_true hc))).symm.trans hj
    | false=>exact (congrArg (λ l:List Str=>av (mO JO) (.meth 2) [.str "",.lst (l.map .str)]) (show dK x s=_ from if_neg (of_decide_eq_false hc))).symm.trans hj
   ·show D.str (Txt.join "" (dK x s))=_
    unfold bP
    rw [hq,hs];rfl
end
noncomputable def l3(x:Str):Bool:=aR x&&decide (x.length<=1000)
noncomputable def R4:Ca:=λ a ds=>if a=52 then rh (λ d=>(iy d).bind λ x=>if l3 x=true then some (.str (bP x)) else none) ds else none
theorem jN{f:D->Option D}{ds:List D}{Q:D->Prop}(k:∀ d,ds=[d]->Ok (f d) Q):Ok (rh f ds) Q:=by
 cases ds with
 | nil=>exact .none
 | cons d ds=>cases ds with
  | nil=>exact k d rfl
  | cons=>exact .none
theorem IJ{h₀:Heap}(b:aI h₀):uC h₀ R4 11:=λ a ds=>by
 show Ok (if a=52 then rh _ ds else none) _
 refine .ifs λ ea=>jN λ d ed=> .bind (cR d) λ x e=> .and λ h1 h2=> .some λ W σ s A xs hA R hx=>?_
 subst ea ed e
 exact eC (OU b h1 (of_decide_eq_true h2)) (λ F xs hx=>DVs.toVRs (F:=⟨jp [.str x],F⟩) (vs:=[.var 0]) hx) hA R hx
theorem dX{x:Str}:aR x=true↔∀ c∈x.cps.toList,c<128:=by
 unfold aR
 rw [← Array.all_toList,List.all_eq_true]
 exact ⟨λ h c hc=>of_decide_eq_true (h c hc),λ h c hc=>decide_eq_true (h c hc)⟩
theorem kn{x:Str}(h:aR x=true)(a b:Option Int):aR (Txt.slice x a b)=true:=by
 unfold Txt.slice
 split
 ·exact h
 ·rw [dX] at h ⊢
  intro c hc
  obtain ⟨i,_,hi⟩:=List.mem_filterMap.mp (show c∈List.filterMap (x.cps[·]?) _ from by simpa using hc)
  exact h c (Array.mem_toList_iff.mpr (Array.mem_of_getElem? hi))
theorem rG:∀ l:List Str,(Str.join "" l).cps.toList=(l.map (·.cps.toList)).flatten
 | []=>rfl
 | [x]=>(List.append_nil _).symm
 | x::y::r=>by
  have e:(Str.join "" (x::y::r)).cps=x.cps++("" : Str).cps++(Str.join "" (y::r)).cps:=rfl
  rw [e,List.map_cons,List.flatten_cons,← rG (y::r),Array.toList_append,Array.toList_append,show ("" : Str).cps.toList=[] by decide,List.append_nil]
theorem cQ(l:List Str):(Txt.join "" l).cps.toList=(l.map (·.cps.toList)).flatten:=(congrArg (λ s:Str=>s.cps.toList) (StrLaws.glued_eq_join "" l)).trans (rG l)
theorem uu{l:List Str}(h:∀ r∈l,aR r=true):aR (Txt.join "" l)=true:=dX.mpr λ c hc=>by
 rw [cQ] at hc
 obtain ⟨y,hy,hc⟩:=List.mem_flatten.mp hc
 obtain ⟨r,hr,e⟩:=List.mem_map.mp hy
 exact dX.mp (h r hr) c (e▸hc)
theorem mG{x:Str}{l:List Str}{c:Prop}[Decidable c]{a b:Option Int}(hx:aR x=true)(h:∀ r∈l,aR r=true):∀ r∈(if c then l++[Txt.slice x a b] else l),aR r=true:=by
 split
 ·exact λ r hr=>(List.mem_append.mp hr).elim (h r) λ hr=>List.mem_singleton.mp hr▸kn hx a b
 ·exact h
theorem qy{x:Str}(h:aR x=true):aR (bP x)=true:=by
 have key:∀ (l:List Sg) (s:Sp),(∀ r∈s.res,aR r=true)->∀ r∈(l.foldl (ci x) s).res,aR r=true:=λ l=>by
  induction l with
  | nil=>exact λ s hs=>hs
  | cons d l ih=>exact λ s hs=>ih _ (mG h hs)
 unfold bP
 split
 ·exact uu (mG h (key _ _ λ _ h=>nm h))
 ·exact h
noncomputable def xL:List Sg->Int->Bool
 | [],o=>o==0
 | p::r,o=>if (p.2 == "(")=true then xL r (o+1) else if (p.2 == ")")=true then (if decide (o-1<0)=true then false else xL r (o-1)) else xL r o
theorem mC(p:Sg)(r:List Sg)(o:Int):xL (p::r) o=if (p.2 == "(")=true then xL r (o+1) else if (p.2 == ")")=true then (if decide (o-1<0)=true then false else xL r (o-1)) else xL r o:=rfl
noncomputable def aW(x:Str):Bool:=xL (Hn (bP x)) 0
noncomputable def JW:List Stmt:=am 59
noncomputable def Qn:Stmt:=bt JW 2
noncomputable abbrev MX:aw:=cf 59
noncomputable abbrev J0(K:bK):Cx:=XF R4 11 K
theorem xS:am 59=JW.take 2++(gfor 40 Qn::JW.drop 3):=by kernel_rfl
noncomputable def qA(o:Nat)(m:List (Str×V)):St:=[fX (("addr",vv 0)::("opens",vv o)::m)]
noncomputable def MD(y:Str)(o pos:Int)(ch:Str)(p:Sg):Nat->D:=jp [.str y,.int o,.int pos,.str ch,.int p.1,.str p.2,.int (o+1),.int (o-1),.bool (o==0)]
noncomputable def LM:bK:=[(.fn 52,[.var 0],.var 1)]
noncomputable def Os(p q neg:Bool):bK:=[(.cmp .Eq,[.var 5,.str "("],.bool p),(.cmp .Eq,[.var 5,.str ")"],.bool q),(.aug .Add,[.var 1,.int 1],.var 6),(.aug .Sub,[.var 1,.int 1],.var 7),(.cmp .Lt,[.var 7,.int 0],.bool neg)]
noncomputable def LN:bK:=[(.cmp .Eq,[.var 1,.int 0],.var 8)]
theorem Pf:af (cy (J0 LM) bz 8) MX (JW.take 2) [fX [("addr",vv 0)]]=some (.next,[fX [("addr",vv 1),("opens",.d (.int 0))]]):=by kernel_rfl
noncomputable def KH(has p q neg:Bool):Option (Fl×St):=(cW (J0 (Os p q neg)) (cy (J0 (Os p q neg)) bz 8) MX (bA Qn) (.d (.tup [.var 4,.var 5])) (qA 1 (Ck 2 3 has))).bind (af (cy (J0 (Os p q neg)) bz 8) MX (a9 Qn))
noncomputable def La(p q neg:Bool):Fl×St:=(if p then .next else if q then (if neg then .ret (.d (.bool false)) else .next) else .next,qA (if p then 6 else if q then 7 else 1) [("pos",vv 4),("ch",vv 5)])
theorem TH(has p q neg:Bool):KH has p q neg=some (La p q neg):=by cases has<;>cases p<;>cases q<;>cases neg<;>kernel_rfl
theorem Pg(has:Bool):(af (cy (J0 LN) bz 8) MX (JW.drop 3) (qA 1 (Ck 2 3 has))).map (·.1)=some (.ret (vv 8)):=by cases has<;>kernel_rfl
inductive GH(x y:Str)(r:List Sg)(en:Nat->D)(σ:St):Prop
 | mk (o pos:Int) (ch:Str) (p:Sg) (has:Bool) (hc:xL r o=aW x) (hp:∀ q r',r=q::r'->p=q) (es:σ=qA 1 (Ck 2 3 has)) (ee:en=MD y o pos ch p)
section
variable{h₀:Heap}
theorem OS(b:aI h₀){x:Str}(hx:l3 x=true):TC h₀ (Eq h₀) 21 59 [vv 0] (jp [.str x,.str (bP x)]) [] λ v en' _=>∃ u,v= .d u∧den en' u= .bool (aW x):=by
 have ok:∀ K,aB h₀ (J0 K) bz:=λ K=>b.all (IJ b) K true bi
 have hy:aR (bP x)=true:=qy (Um.mp hx).1
 refine TC.fn b (body:=am 59) (c:=MX) (σ₁:=[fX [("addr",vv 0)]]) (by kernel_rfl) ?_
 rw [xS]
 refine TF.runs (ok LM) (M:=8) (by decide) (JW.take 2) (aO.ok ⟨if_pos hx,trivial⟩) Pf (TF.re (en':=MD (bP x) 0 0 "" ((Hn (bP x)).headD (0, ""))) (σ':=qA 1 (Ck 2 3 false)) ⟨[],by kernel_rfl,by kernel_rfl⟩ ?_)
 refine TF.cons (G₁:=Eq h₀) (TF.gesc (ok []) b.gx (M:=8) (by decide) (by decide) aD (u:= .var 0) (x:=bP x) (by kernel_rfl) (by kernel_rfl) (by kernel_rfl) rfl hy (GH x (bP x)) ?_ ?_ ⟨0,0, "",_,false,rfl,λ q r' e=>by rw [e];rfl,rfl,rfl⟩)
 ·intro p r en σ' ⟨o,pos,ch,p',has,hc,hp,es,ee⟩
  obtain rfl:=hp p r rfl
  subst es ee
  have next:∀ v o',bQ 1 (MD (bP x) o pos ch p') (qA v [("pos",vv 4),("ch",vv 5)]) (MD (bP x) o' p'.1 p'.2 (r.headD (0, ""))) (qA 1 (Ck 2 3 true))->xL r o'=aW x->∃ en'' σ'',bQ 1 (MD (bP x) o pos ch p') (qA v [("pos",vv 4),("ch",vv 5)]) en'' σ''∧GH x (bP x) r en'' σ'':=λ v o' ag h=>
   ⟨_,_,ag,o',_,_,_,true,h,λ q r' e=>by rw [e];rfl,rfl,rfl⟩
  refine dG.run (ok (Os (p'.2 == "(") (p'.2 == ")") (decide (o-1<0)))) 8 (.tup [.var 4,.var 5]) (show 8+11<=20 by decide) (aO.ok ⟨rfl,rfl,rfl,rfl,rfl,trivial⟩) rfl (TH has _ _ _) ?_
  rw [mC] at hc
  cases hb:p'.2 == "(" with
  | true=>rw [hb] at hc;exact next 6 (o+1) ⟨[],by kernel_rfl,by kernel_rfl⟩ hc
  | false=>
   rw [hb] at hc
   cases hq:p'.2 == ")" with
   | false=>rw [hq] at hc;exact next 1 o ⟨[],by kernel_rfl,by kernel_rfl⟩ hc
   | true=>
    rw [hq] at hc
    cases hn:decide (o-1<0) with
    | true=>rw [hn] at hc;exact ⟨⟨.bool false,rfl,congrArg D.bool hc⟩,λ _ e=>e⟩
    | false=>rw [hn] at hc;exact next 7 (o-1) ⟨[],by kernel_rfl,by kernel_rfl⟩ hc
 ·intro en σ ⟨o,pos,ch,p',has,hc,hp,es,ee⟩
  subst es ee
  exact λ h e=>e▸TF.end (ok LN) (M:=8) (by decide) (aO.ok ⟨rfl,trivial⟩) (Pg has) λ σ'=>⟨.var 8,rfl,congrArg D.bool hc⟩
end
noncomputable def Cn:Ca:=λ a ds=>(if a=59 then rh (λ d=>(iy d).bind λ x=>if l3 x=true then some (.bool (aW x)) else none) ds else none).or ((if a=77 then xQ true ds else none).or (if a=86 then xQ false ds else none))
theorem fI{h₀:Heap}(b:aI h₀):uC h₀ Cn 21:=λ a ds=>by
 refine .or ?_ (.or ?_ ?_)
 ·refine .ifs λ ea=>jN λ d ed=> .bind (cR d) λ x e=> .ifs λ h=> .some λ W σ s A xs hA R hx=>?_
  subst ea ed e
  exact eC (OS b h) (λ F xs hx=>DVs.toVRs (F:=⟨jp [.str x,.str (bP x)],F⟩) (vs:=[.var 0]) hx) hA R hx
 ·exact .ifs λ ea=>ea▸(we b true ds).mono λ d h W σ s A xs hA=>h W σ s A xs (hA.le (by decide))
 ·exact .ifs λ ea=>ea▸(we b false ds).mono λ d h W σ s A xs hA=>h W σ s A xs (hA.le (by decide))
structure Q4 where
 b:Nat
 e:Nat
 o:Nat
 s:Nat
noncomputable def MS(f1 f2 f3 f4:Bool):List Nat:=(if f1 then [98] else [])++(if f2 then [40] else [])++(if f3 then [47] else [])++(if f4 then [41] else [])
noncomputable def fM(q:Q4):List Nat:=MS (decide ((q.b:Int)<3)) (decide ((q.o:Int)<3)) (decide ((q.e:Int)<q.b)) (decide ((q.s:Int)<q.o))
noncomputable def iJ(q:Q4)(c:Nat):Q4:=if c=98 then { q with b:=q.b+1 } else if c=47 then { q with e:=q.e+1 } else if c=40 then { q with o:=q.o+1 } else { q with s:=q.s+1 }
noncomputable def p7:List Int:=[0,1,0,3,1,2,1,1,1,0,1,0]
noncomputable def f5(script:List Int)(t:Nat):Int:=if decide (t<script.length)=true then p7.getD t 0+script.getD t 0 else p7.getD t 0
noncomputable def b9(script:List Int)(t:Nat)(q:Q4):Nat:=(fM q).getD ((f5 script t).fmod (fM q).length).toNat 0
noncomputable def jF(script:List Int):Nat->Nat->Q4->List Nat
 | 0,_,_=>[]
 | n+1,t,q=>b9 script t q::jF script n (t+1) (iJ q (b9 script t q))
noncomputable abbrev q0:Q4:=⟨0,0,0,0⟩
noncomputable def lG(script:List Int):Str:=⟨(jF script 12 0 q0).toArray⟩
noncomputable def sK(q:Q4):Bool:=decide (q.b<=3)&&decide (q.e<=q.b)&&(decide (q.o<=3)&&decide (q.s<=q.o))
noncomputable def gj(q:Q4):Nat:=q.b+q.e+q.o+q.s
noncomputable def Sn(q:Q4):Bool:=!sK q||Nat.ble 12 (gj q)||(Nat.ble 1 (fM q).length&&Nat.ble (fM q).length 4&&(fM q).all λ c=>(c==98||c==47||c==40||c==41)&&sK (iJ q c)&&gj (iJ q c)==gj q+1)
theorem EL:∀ b<4,∀ e<4,∀ o<4,∀ s<4,Sn ⟨b,e,o,s⟩=true:=by decide +kernel
inductive GK(q:Q4):Prop
 | mk (h1:0<(fM q).length) (h4:(fM q).length<=4) (h:∀ c∈fM q,(c=98∨c=47∨c=40∨c=41)∧sK (iJ q c)=true∧gj (iJ q c)=gj q+1)
theorem v9{q:Q4}(h:sK q=true)(hs:gj q<12):GK q:=by
 obtain ⟨b,e,o,s⟩:=q
 obtain ⟨h1,h2⟩:=Um.mp h
 obtain ⟨hb,he⟩:=Um.mp h1
 obtain ⟨ho,hs'⟩:=Um.mp h2
 have hb:=of_decide_eq_true hb
 have ho:=of_decide_eq_true ho
 have c:=EL b (Nat.lt_succ_of_le hb) e (Nat.lt_succ_of_le (Ul (of_decide_eq_true he) hb)) o (Nat.lt_succ_of_le ho) s (Nat.lt_succ_of_le (Ul (of_decide_eq_true hs') ho))
 unfold Sn at c
 rw [h,show Nat.ble 12 (gj ⟨b,e,o,s⟩)=false from Bool.eq_false_iff.mpr λ e=>Nat.not_lt.mpr (Un e) hs] at c
 obtain ⟨c,c3⟩:=Um.mp (show (_&&_)=true from c)
 obtain ⟨c1,c2⟩:=Um.mp c
 refine ⟨Un c1,Un c2,λ c hc=>?_⟩
 obtain ⟨c,k3⟩:=Um.mp (List.all_eq_true.mp c3 c hc)
 obtain ⟨c,k2⟩:=Um.mp c
 simp only [Bool.or_eq_true,beq_iff_eq,or_assoc] at c
 exact ⟨c,k2,eq_of_beq k3⟩
noncomputable def JZ:List Stmt:=am 223
noncomputable def vP:Stmt:=bt JZ 6
noncomputable abbrev EP:aw:=cf 223
theorem xY:am 223=JZ.take 6++(.For (bA vP) (aJ vP) (a9 vP) [] (bE vP)::[bt JZ 7]):=by kernel_rfl
theorem Ql:a9 vP=(a9 vP).take 5++(((a9 vP).drop 5).take 2++(a9 vP).drop 7):=by kernel_rfl
noncomputable def AR(p b e o s:Nat)(t:List (Str×V)):St:=[fX (("script",vv 0)::("added",.ref 1)::("steps",vv p)::("begun",vv b)::("ended",vv e)::("opened",vv o)::("shut",vv s)::t),bS (.lst (p7.map .int))]
noncomputable def PP(has:Bool):List (Str×V):=if has then [("can",vv 8),("cell",vv 9),("step",vv 10)] else []
noncomputable def P3(has:Bool):List (Str×V):=if has then [("cell",vv 9),("step",vv 10)] else []
noncomputable def Om(has:Bool):List (Str×V):=if has then [("step",vv 10)] else []
noncomputable def ou(has:Bool):St:=AR 1 2 3 4 5 (if has then ("turn",vv 6)::PP true else [])
noncomputable def Co(sc:List Int)(p:List Nat)(q:Q4)(k:Nat)(cl:Int)(st:Nat)(tn:Int)(cn:Str)(gN:Int)(sp:Str):Nat->D:=
 jp [.lst (sc.map .int),.str ⟨p.toArray⟩,.int q.b,.int q.e,.int q.o,.int q.s,.int tn,.none,.str cn,.int gN,.str sp,.int k,.int (p7.getD k 0),.int sc.length,.int (sc.getD k 0),.int cl,.str ⟨(fM q).toArray⟩,.int (fM q).length,.int (cl.fmod (fM q).length),
  .str ⟨#[st]⟩,.str ⟨(p++[st]).toArray⟩,.int (q.b+1:Nat),.int (q.e+1:Nat),.int (q.o+1:Nat),.int (q.s+1:Nat)]
noncomputable abbrev o0(K:bK):b5:=cy (XE K) bz 8
theorem Px:af (o0 []) EP (JZ.take 6) [fX [("script",vv 0)]]=some (.next,[fX [("script",vv 0),("added",.ref 1),("steps",.d (.str "")),("begun",.d (.int 0)),("ended",.d (.int 0)),("opened",.d (.int 0)),("shut",.d (.int 0))],bS (.lst (p7.map .int))]):=by kernel_rfl
theorem Py:(o0 []).E EP (aJ vP) (ou false)=some (.rcd "range" [.d (.int 0),.d (.int 12),.d (.int 1)],ou false):=by kernel_rfl
theorem PA(has:Bool):cW (XE []) (o0 []) EP (bA vP) (vv 11) (ou has)=some (AR 1 2 3 4 5 (("turn",vv 11)::PP has)):=by cases has<;>kernel_rfl
noncomputable def LW(f1 f2 f3 f4:Bool):bK:=[(.cmp .Lt,[.var 2,.int 3],.bool f1),(.cmp .Lt,[.var 4,.int 3],.bool f2),(.cmp .Gt,[.var 2,.var 3],.bool f3),(.cmp .Gt,[.var 4,.var 5],.bool f4)]
noncomputable def Hu(has f1 f2 f3 f4:Bool):Option (Fl×St):=af (o0 (LW f1 f2 f3 f4)) EP ((a9 vP).take 5) (AR 1 2 3 4 5 (("turn",vv 11)::PP has))
noncomputable def HL(has f1 f2 f3 f4:Bool):St:=AR 1 2 3 4 5 (("turn",vv 11)::("can",.d (.str ⟨(MS f1 f2 f3 f4).toArray⟩))::P3 has)
theorem PE(has f1 f2 f3 f4:Bool):Hu has f1 f2 f3 f4=some (.next,HL has f1 f2 f3 f4):=by cases has<;>cases f1<;>cases f2<;>cases f3<;>cases f4<;>kernel_rfl
noncomputable def Im(hs:Bool):bK:=[(.item,[.lst (p7.map .int),.var 11],.var 12),(.len,[.var 0],.var 13),(.cmp .Lt,[.var 11,.var 13],.bool hs)]++(if hs then [(.item,[.var 0,.var 11],.var 14),(.bin .Add,[.var 12,.var 14],.var 15)] else [])
noncomputable def Hs(has hs:Bool):Option (Fl×St):=af (o0 (Im hs)) EP (((a9 vP).drop 5).take 2) (AR 1 2 3 4 5 (("turn",vv 11)::("can",vv 16)::P3 has))
theorem KY(has hs:Bool):Hs has hs=some (.next,AR 1 2 3 4 5 (("turn",vv 11)::("can",vv 16)::("cell",vv (if hs then 15 else 12))::Om has)):=by cases has<;>cases hs<;>kernel_rfl
noncomputable def LU(w1 w2 w3:Bool):bK:=[(.len,[.var 16],.var 17),(.bin .Mod,[.var 15,.var 17],.var 18),(.item,[.var 16,.var 18],.var 19),(.bin .Add,[.var 1,.var 19],.var 20),(.cmp .Eq,[.var 19,.str "b"],.bool w1),(.cmp .Eq,[.var 19,.str "/"],.bool w2),(.cmp .Eq,[.var 19,.str "("],.bool w3),
 (.bin .Add,[.var 2,.int 1],.var 21),(.bin .Add,[.var 3,.int 1],.var 22),(.bin .Add,[.var 4,.int 1],.var 23),(.bin .Add,[.var 5,.int 1],.var 24)]
noncomputable def Hr(has w1 w2 w3:Bool):Option (Fl×St):=af (o0 (LU w1 w2 w3)) EP ((a9 vP).drop 7) (AR 1 2 3 4 5 (("turn",vv 11)::("can",vv 16)::("cell",vv 15)::Om has))
noncomputable def zS(w1 w2 w3:Bool):St:=AR 20 (if w1 then 21 else 2) (if w1 then 3 else if w2 then 22 else 3) (if w1 then 4 else if w2 then 4 else if w3 then 23 else 4) (if w1 then 5 else if w2 then 5 else if w3 then 5 else 24) [("turn",vv 11),("can",vv 16),("cell",vv 15),("step",vv 19)]
theorem PC(has w1 w2 w3:Bool):Hr has w1 w2 w3=some (.next,zS w1 w2 w3):=by cases has<;>cases w1<;>cases w2<;>cases w3<;>kernel_rfl
theorem Pz(has:Bool):(af (o0 []) EP [bt JZ 7] (ou has)).map (·.1)=some (.ret (vv 1)):=by cases has<;>kernel_rfl
inductive wr(sc:List Int)(k:Nat)(en:Nat->D)(σ:St):Prop
 | mk (p:List Nat) (q:Q4) (tn gN:Int) (cn sp:Str) (has:Bool) (h:p++jF sc (12-k) k q=jF sc 12 0 q0) (hp:p.length=k) (hv:sK q=true) (hs:gj q=k) (es:σ=ou has) (ee:en=Co sc p q k (f5 sc k) (b9 sc k q) tn cn gN sp)
section
variable{h₀:Heap}
theorem tX(a:Int){n:Nat}(h:0<n):(a.fmod n).toNat<n∧((a.fmod n).toNat:Int)=a.fmod n:=
 have h1:0<=a.fmod n:=Int.fmod_nonneg_of_pos a (Int.ofNat_lt.mpr h)
 have h2:((a.fmod n).toNat:Int)=a.fmod n:=Int.toNat_of_nonneg h1
 ⟨Int.ofNat_lt.mp (h2.symm▸Int.fmod_lt_of_pos a (Int.ofNat_lt.mpr h)),h2⟩
theorem ez{l:List Nat}{j:Nat}(h:j<l.length)(hj:j<=1000000):kj (.str ⟨l.toArray⟩) (.int j)=some (.str ⟨#[l.getD j 0]⟩):=by
 have e:(⟨l.toArray⟩:Str).length=l.length:=List.size_toArray
 show (if d5 (j:Int) then (jh (j:Int) (⟨l.toArray⟩:Str).length).bind (λ j=>((⟨l.toArray⟩:Str).cps[j]?).map λ c=>D.str ⟨#[c]⟩) else none)=_
 rw [if_pos (nu hj),e,vE h]
 show (l.toArray[j]?).map _=_
 rw [List.getElem?_toArray,List.getElem?_eq_getElem h,List.getD_eq_getElem?_getD,List.getElem?_eq_getElem h];rfl
theorem add_str{O:eI}{l m:List Nat}(h:l.length+m.length<=1000000):av O (.bin .Add) [.str ⟨l.toArray⟩,.str ⟨m.toArray⟩]=some (.str ⟨(l++m).toArray⟩):=
 eG ((if_pos (show l.toArray.size+m.toArray.size<=sizeLine from Ul (by rw [List.size_toArray,List.size_toArray];exact h) (by decide))).trans (congrArg (λ a=>some (D.str ⟨a⟩)) (List.append_toArray ..)))
theorem AL{a:Int}{n k:Nat}{d:D}(h:(iq a n)[k]?=some d):k<n∧d= .int (a+k):=by
 unfold iq at h
 rw [List.getElem?_map] at h
 obtain ⟨j,hj,e⟩:=Option.map_eq_some_iff.mp h
 obtain ⟨hk,ej⟩:=List.getElem?_eq_some_iff.mp hj
 rw [List.getElem_range] at ej
 rw [List.length_range] at hk
 exact ⟨hk,ej▸e.symm⟩
theorem Fb{sc:List Int}{p:List Nat}{q:Q4}{k:Nat}{cl tn gN cl':Int}{st st':Nat}{cn sp:Str}(h:st=98∨st=47∨st=40∨st=41) :
  bQ 2 (Co sc p q k cl st tn cn gN sp) (zS ((⟨#[st]⟩:Str) == "b") ((⟨#[st]⟩:Str) == "/") ((⟨#[st]⟩:Str) == "(")) (Co sc (p++[st]) (iJ q st) (k+1) cl' st' k ⟨(fM q).toArray⟩ cl ⟨#[st]⟩) (ou true):=by
 rcases h with rfl | rfl | rfl | rfl<;>exact ⟨[],by kernel_rfl,by kernel_rfl⟩
theorem Gk(ok:∀ K,aB h₀ (XE K) bz){P:bZ}{sc:List Int}{p:List Nat}{q:Q4}{k:Nat}{cl tn gN:Int}{cn sp:Str}{has:Bool}(hc:GK q)(hp:p.length<=12)(ecl:f5 sc k=cl)(hn:wr sc (k+1) (Co sc (p++[b9 sc k q]) (iJ q (b9 sc k q)) (k+1) (f5 sc (k+1)) (b9 sc (k+1) (iJ q (b9 sc k q))) k ⟨(fM q).toArray⟩ cl ⟨#[b9 sc k q]⟩) (ou true)) :
  TF h₀ (Eq h₀) 10 EP (execs ((a9 vP).drop 7)) (Co sc p q k cl (b9 sc k q) tn cn gN sp) (AR 1 2 3 4 5 (("turn",vv 11)::("can",vv 16)::("cell",vv 15)::Om has)) (fQ 2 (wr sc (k+1)) P):=by
 obtain ⟨h1,h4,hc⟩:=hc
 have hi:=tX cl h1
 have hst:(fM q).getD (cl.fmod (fM q).length).toNat 0=b9 sc k q:=by unfold b9;rw [ecl]
 have hm:=hc _ (List.getElem_mem hi.1)
 rw [show (fM q)[_]=b9 sc k q from by rw [← hst,List.getD_eq_getElem?_getD,List.getElem?_eq_getElem hi.1];rfl] at hm
 refine TF.run (ok (LU _ _ _)) (M:=8) (show 8+0<=10 by decide) (aO.ok ⟨len_str (Ul h4 (by decide)),eG (if_neg (Int.ne_of_gt (Int.ofNat_lt.mpr h1))),?_,add_str (Ul (Nat.add_le_add_right hp 1) (by decide)),rfl,rfl,rfl,rfl,rfl,rfl,rfl,trivial⟩) (PC has _ _ _) ⟨_,_,Fb hm.1,hn⟩
 have hit:=ez hi.1 (Ul (Nat.le_of_lt hi.1) (Ul h4 (by decide)))
 rw [hi.2,hst] at hit
 exact hit
theorem O0(b:aI h₀){sc:List Int}(hl:sc.length<=1000):TC h₀ (Eq h₀) 11 223 [vv 0] (Co sc [] q0 0 (f5 sc 0) (b9 sc 0 q0) 0 "" 0 "") [] λ v en' _=>∃ u,v= .d u∧den en' u= .str (lG sc):=by
 have ok:∀ K,aB h₀ (XE K) bz:=λ K=>b.all iE K true bi
 refine TC.fn b (body:=am 223) (c:=EP) (σ₁:=[fX [("script",vv 0)]]) (by kernel_rfl) ?_
 rw [xY]
 refine TF.runs (ok []) (M:=8) (show 8+0<=10 by decide) (JZ.take 6) aD Px ?_
 refine (TF.re (en':=Co sc [] q0 0 (f5 sc 0) (b9 sc 0 q0) 0 "" 0 "") (σ':=ou false) ⟨[],by kernel_rfl,by kernel_rfl⟩ ?_)
 refine TF.cons (G₁:=Eq h₀) (TF.for (ok []) (M:=8) (by decide) (by kernel_rfl) aD Py (L:=iq 0 12) (by kernel_rfl) (by kernel_rfl) (wr sc) ?_ ?_ ⟨[],q0,0,0, "", "",false,rfl,rfl,rfl,rfl,rfl,rfl⟩)
 ·intro k d en σ' hd ⟨p,q,tn,gN,cn,sp,has,h,hp,hv,hs,es,ee⟩
  obtain ⟨hk,rfl⟩:=AL hd
  have hc:=v9 hv (hs▸hk)
  subst es ee
  refine ⟨XE [],bz,8,.var 11,_,ok [],by decide,aD,congrArg D.int (Int.zero_add k).symm,PA has,?_⟩
  rw [Ql]
  refine TF.runs (ok (LW _ _ _ _)) (M:=8) (show 8+0<=10 by decide) _ (aO.ok ⟨rfl,rfl,rfl,rfl,trivial⟩) (PE has _ _ _ _) ?_
  refine TF.re (en':=Co sc p q k (f5 sc k) (b9 sc k q) tn cn gN sp) (σ':=AR 1 2 3 4 5 (("turn",vv 11)::("can",vv 16)::P3 has)) ⟨[],by cases has<;>kernel_rfl,by cases has<;>kernel_rfl⟩ ?_
  have hn:wr sc (k+1) (Co sc (p++[b9 sc k q]) (iJ q (b9 sc k q)) (k+1) (f5 sc (k+1)) (b9 sc (k+1) (iJ q (b9 sc k q))) k ⟨(fM q).toArray⟩ (f5 sc k) ⟨#[b9 sc k q]⟩) (ou true):=by
   obtain ⟨h1,h4,hq⟩:=hc
   obtain ⟨-,hv',hs'⟩:=hq (b9 sc k q) (by
    unfold b9
    rw [List.getD_eq_getElem?_getD,List.getElem?_eq_getElem (tX _ h1).1]
    exact List.getElem_mem _)
   refine ⟨_,_,_,_,_,_,true,?_,List.length_append.trans (congrArg (·+1) hp),hv',hs'.trans (congrArg (·+1) hs),rfl,rfl⟩
   rw [List.append_assoc,← h,show 12-k=(12-(k+1))+1 from by rw [← Nat.sub_sub,Nat.sub_add_cancel (Nat.sub_pos_of_lt hk)]]
   rfl
  cases hd:decide (k<sc.length) with
  | true=>
   refine TF.runs (ok (Im true)) (M:=8) (show 8+0<=10 by decide) _ (aO.ok ⟨a7 (l:=p7) hk (by decide),jb hl,congrArg (λ b=>some (D.bool b)) ((decide_eq_decide.mpr Int.ofNat_lt).trans hd),a7 (of_decide_eq_true hd) hl,eG (congrArg (λ i:Int=>some (D.int i)) (if_pos hd).symm),trivial⟩) (KY has true) (Gk ok hc (hp▸Nat.le_of_lt hk) rfl hn)
  | false=>
   refine TF.runs (ok (Im false)) (M:=8) (show 8+0<=10 by decide) _ (aO.ok ⟨a7 (l:=p7) hk (by decide),jb hl,congrArg (λ b=>some (D.bool b)) ((decide_eq_decide.mpr Int.ofNat_lt).trans hd),trivial⟩) (KY has false) (TF.re (en':=Co sc p q k (f5 sc k) (b9 sc k q) tn cn gN sp) (σ':=AR 1 2 3 4 5 (("turn",vv 11)::("can",vv 16)::("cell",vv 15)::Om has)) ?_ (Gk ok hc (hp▸Nat.le_of_lt hk) rfl hn))
   have e:f5 sc k=p7.getD k 0:=if_neg (hd▸Bool.false_ne_true)
   rw [e]
   exact ⟨[],by cases has<;>kernel_rfl,by cases has<;>kernel_rfl⟩
 ·intro en σ ⟨p,q,tn,gN,cn,sp,has,h,hp,hv,hs,es,ee⟩
  subst es ee
  refine λ ab e=>e▸TF.end (ok []) (M:=8) (by decide) aD (Pz has) λ σ'=>⟨.var 1,rfl,congrArg (λ l:List Nat=>D.str ⟨l.toArray⟩) ?_⟩
  exact (List.append_nil p).symm.trans h
end
noncomputable def yw(σ:St):V->Option D
 | .tup vs=>(fK σ vs).map .tup
 | v=>fY σ v
section
variable{h₀:Heap}{N:Nat}
theorem nS{a:Addr}{as:List V}{en:Nat->D}{ds:List D}{d:D}(h:TC h₀ (Eq h₀) N a as en [] λ v en' σ'=>∃ u,yw σ' v=some u∧den en' u=d)(hv:∀ F xs,DVs F ds xs->VRs [] ⟨en,F⟩ as xs){W:Wd}{σ:St}{s:Shared}{A:Around}{xs:List Value}(hA:bD N A)(R:ae w.params h₀ W σ s)(hx:DVs W.F.fs ds xs):wpAny (model prog w) A (call (.ref a) xs []) (PD h₀ W d σ) ah s:=
 b7 (aC (h.ap _ A s xs rfl hA (R.enterP en) (hv _ _ hx)) λ x s' ⟨ab,v,W₁,σ₁,e,l,rv,ax,u,hu,hd⟩ hz=>by
  subst e hd
  have hfs:W.F.fs⊆kN W₁.ρ σ₁ s'.heap++W₁.F.fs:=λ _ h=>List.mem_append.mpr (.inr (l.fs h))
  refine ⟨{ W with F:=⟨W.F.en,kN W₁.ρ σ₁ s'.heap++W₁.F.fs⟩,tb:=W₁.tb },⟨List.prefix_refl _,⟨rfl,hfs⟩,rfl,rfl,l.tb⟩,?_,R.leaveP (ax.enterF W₁.F.en) l.pv hfs l.gg hz⟩
  cases v with
  | tup vs=>
   obtain ⟨es,he,e⟩:=Option.map_eq_some_iff.mp hu
   obtain ⟨ys,a',n,hm,hs,ex⟩:=VR.inv rv
   exact e▸ex▸ .tup _ ys a' n (List.mem_append.mpr (.inr hm)) (r7 ax hs es he)
  | _=>exact vX ax rv u hu)
end
noncomputable def CF(w1 w2 w3:Bool):List Nat:=if w1 then [60,98,32,107,61,34,40,34,62] else if w2 then [60,47,98,62] else if w3 then [40,92,34,92,41] else [41]
noncomputable abbrev c1(c:Nat):Str:=⟨#[c]⟩
noncomputable abbrev tok(c:Nat):List Nat:=CF (c1 c == "b") (c1 c == "/") (c1 c == "(")
noncomputable def cw:List Nat:=("<r k=\"&amp;&lt;>&quot;&#x9;&#xA;&#xD;\">&amp;&lt;&gt;&#xD;" : Str).cps.toList
noncomputable def fS:List Nat:=("</r>" : Str).cps.toList
noncomputable def toks(cs:List Nat):List Nat:=(cs.map tok).flatten
noncomputable def eK:List Nat->Nat->List Int
 | [],_=>[]
 | c::cs,n=>(n:Int)::eK cs (n+(tok c).length)
noncomputable def zP(cs:List Nat):D:= .tup [.str ⟨(cw++toks cs++fS).toArray⟩,.lst ((eK cs cw.length).map .int)]
noncomputable def JY:List Stmt:=am 230
noncomputable def IP:Stmt:=bt JY 2
noncomputable abbrev JV:aw:=cf 230
theorem xX:am 230=JY.take 2++(.For (bA IP) (aJ IP) (a9 IP) [] (bE IP)::[bt JY 3]):=by kernel_rfl
noncomputable def qC(has:Bool):St:=[fX (("steps",vv 0)::("page",vv 1)::("places",.ref 1)::if has then [("step",vv 3)] else []),bS (.var 2)]
theorem Pu:af (o0 []) JV (JY.take 2) [fX [("steps",vv 0)]]=some (.next,[fX [("steps",vv 0),("page",.d (.str ⟨cw.toArray⟩)),("places",.ref 1)],bS (.lst [])]):=by kernel_rfl
noncomputable def Ou(w1 w2 w3:Bool):bK:=[(.len,[.var 1],.var 5),(.push,[.var 2,.var 5],.var 6),(.cmp .Eq,[.var 4,.str "b"],.bool w1),(.cmp .Eq,[.var 4,.str "/"],.bool w2),(.cmp .Eq,[.var 4,.str "("],.bool w3),(.bin .Add,[.var 1,.str ⟨(CF w1 w2 w3).toArray⟩],.var 7)]
noncomputable def KK(has w1 w2 w3:Bool):Option (Fl×St):=(cW (XE (Ou w1 w2 w3)) (o0 (Ou w1 w2 w3)) JV (bA IP) (vv 4) (qC has)).bind (af (o0 (Ou w1 w2 w3)) JV (a9 IP))
noncomputable def TS:St:=[fX [("steps",vv 0),("page",vv 7),("places",.ref 1),("step",vv 4)],bS (.var 6)]
theorem Pt(has w1 w2 w3:Bool):KK has w1 w2 w3=some (.next,TS):=by cases has<;>cases w1<;>cases w2<;>cases w3<;>kernel_rfl
theorem Pv:(o0 []).E JV (aJ IP) (qC false)=some (vv 0,qC false):=by kernel_rfl
theorem Pw(has:Bool):af (o0 [(.bin .Add,[.var 1,.str ⟨fS.toArray⟩],.var 8)]) JV [bt JY 3] (qC has)=some (.ret (.tup [vv 8,.ref 1]),qC has):=by cases has<;>kernel_rfl
noncomputable def OB(cs p:List Nat)(pl:List Int)(sp:Str)(c:Nat):Nat->D:=jp [.str ⟨cs.toArray⟩,.str ⟨p.toArray⟩,.lst (pl.map .int),.str sp,.str (c1 c),.int p.length,.lst ((pl++[(p.length:Int)]).map .int),.str ⟨(p++tok c).toArray⟩,.str ⟨(p++fS).toArray⟩]
inductive Uf(cs r:List Nat)(en:Nat->D)(σ:St):Prop
 | mk (p:List Nat) (pl:List Int) (sp:Str) (has:Bool) (h1:p++toks r=cw++toks cs) (h2:pl++eK r p.length=eK cs cw.length) (h3:p.length+9 * r.length<=10000) (h4:pl.length+r.length<=1000) (es:σ=qC has) (ee:en=OB cs p pl sp (r.headD 0))
theorem qt(w1 w2 w3:Bool):(CF w1 w2 w3).length<=9:=by cases w1<;>cases w2<;>cases w3<;>decide
section
variable{h₀:Heap}
theorem gC{O:eI}{l:List Int}{n:Int}(h:l.length<=1000):av O .push [.lst (l.map .int),.int n]=some (.lst ((l++[n]).map .int)):=(aQ (by rw [List.length_map];exact Ul h (by decide))).trans (congrArg (λ l=>some (D.lst l)) (List.map_append (f:=D.int) (l₁:=l) (l₂:=[n])).symm)
theorem DM{O:eI}{l:List Nat}(h:l.length<=1000000):av O .len [.str ⟨l.toArray⟩]=some (.int l.length):=gH (if_pos (Ul h (by decide)))
theorem OZ(b:aI h₀){cs:List Nat}(hl:cs.length<=1000)(ha:aR ⟨cs.toArray⟩=true):TC h₀ (Eq h₀) 11 230 [vv 0] (OB cs cw [] "" (cs.headD 0)) [] λ v en' σ'=>∃ u,yw σ' v=some u∧den en' u=zP cs:=by
 have ok:∀ K,aB h₀ (XE K) bz:=λ K=>b.all iE K true bi
 refine TC.fn b (body:=am 230) (c:=JV) (σ₁:=[fX [("steps",vv 0)]]) (by kernel_rfl) ?_
 rw [xX]
 refine TF.runs (ok []) (M:=8) (show 8+0<=10 by decide) (JY.take 2) aD Pu (TF.re (en':=OB cs cw [] "" (cs.headD 0)) (σ':=qC false) ⟨[],by kernel_rfl,by kernel_rfl⟩ ?_)
 refine TF.cons (G₁:=Eq h₀) (TF.forL (λ c=> .str (c1 c)) (ok []) (M:=8) (by decide) (by kernel_rfl) aD Pv cs (congrArg (λ o:Option (List D)=>o.or _) (if_pos ha)) (by kernel_rfl) (Uf cs) ?_ ?_ ⟨cw,[], "",false,rfl,rfl,Ul (Nat.add_le_add_left (Nat.mul_le_mul_left 9 hl) _) (by decide),(Nat.zero_add _).symm▸hl,rfl,rfl⟩)
 ·intro c r en σ ⟨p,pl,sp,has,h1,h2,h3,h4,es,ee⟩
  subst es ee
  rw [List.length_cons,Nat.mul_succ,Nat.add_comm (9 * _),← Nat.add_assoc] at h3
  rw [List.length_cons,Nat.add_comm r.length,← Nat.add_assoc] at h4
  have hp:p.length+9<=1000000:=Ul (Ul (Nat.le_add_right _ _) h3) (by decide)
  have ht:=qt (c1 c == "b") (c1 c == "/") (c1 c == "(")
  refine dG.run (ok (Ou _ _ _)) 8 (.var 4) (show 8+0<=10 by decide) (aO.ok ⟨DM (Ul (Nat.le_add_right _ 9) hp),gC (Ul (Nat.le_add_right _ 1) (Ul (Nat.le_add_right _ _) h4)),rfl,rfl,rfl,add_str (Ul (Nat.add_le_add_left ht _) hp),trivial⟩) rfl (Pt has _ _ _)
   ⟨OB cs (p++tok c) (pl++[(p.length:Int)]) (c1 c) (r.headD 0),qC true,⟨[],by kernel_rfl,by kernel_rfl⟩,_,_,_,true,?_,?_,?_,?_,rfl,rfl⟩
  ·exact (List.append_assoc ..).trans h1
  ·rw [List.append_assoc,List.length_append];exact h2
  ·rw [List.length_append];exact Ul (Nat.add_le_add_right (Nat.add_le_add_left ht _) _) h3
  ·rw [List.length_append];exact h4
 ·intro en σ ⟨p,pl,sp,has,h1,h2,h3,h4,es,ee⟩
  subst es ee
  refine λ h e=>e▸TF.run (ok [(.bin .Add,[.var 1,.str ⟨fS.toArray⟩],.var 8)]) (M:=8) (show 8+0<=10 by decide) (aO.ok ⟨add_str (Ul (Nat.add_le_add_right h3 _) (by decide)),trivial⟩) (Pw has) ⟨.tup [.var 8,.var 2],by cases has<;>kernel_rfl,?_⟩
  rw [show eK [] p.length=[] from rfl,List.append_nil] at h2
  rw [show toks []=[] from rfl,List.append_nil] at h1
  show D.tup [.str ⟨(p++fS).toArray⟩,.lst (pl.map .int)]=_
  rw [h1,h2];rfl
end
noncomputable def eU(page:Str)(places:List Int)(first last:Nat):Str:=Txt.slice page (some (places.getD first 0)) (some (places.getD last 0+1))
noncomputable def i8(steps:List Nat)(page:Str)(places:List Int)(first:Nat):List Nat->Nat
 | []=>12
 | last::r=>if ((c1 (steps.getD last 0) == ")")&&aW (eU page places first last))=true then last else i8 steps page places first r
noncomputable def gG(steps:List Nat)(page:Str)(places:List Int)(first:Nat):Nat:=i8 steps page places first (List.range' (first+1) (11-first))
theorem tQ{steps:List Nat}{page:Str}{places:List Int}{first last:Nat}{r:List Nat}:i8 steps page places first (last::r)=if ((c1 (steps.getD last 0) == ")")&&aW (eU page places first last))=true then last else i8 steps page places first r:=rfl
noncomputable abbrev XH(K:bK):Cx:=XF Cn 21 K
noncomputable abbrev rH(K:bK):b5:=cy (XH K) bz 8
noncomputable def QJ:List Stmt:=am 244
noncomputable def IO:Stmt:=bt QJ 0
noncomputable abbrev MY:aw:=cf 244
theorem xW:am 244=(.For (bA IO) (aJ IO) (a9 IO) [] (bE IO)::[bt QJ 1]):=by kernel_rfl
noncomputable def Rg(t:List (Str×V)):St:=[fX (("steps",vv 0)::("page",vv 1)::("places",vv 2)::("first",vv 3)::t)]
noncomputable def sV(a b:Bool):St:=Rg (if a then ("last",vv 13)::(if b then [("told",vv 12)] else []) else [])
theorem Pq:(rH [(.bin .Add,[.var 3,.int 1],.var 4),(.isI,[.var 4],.none)]).E MY (aJ IO) (sV false false)=some (.rcd "range" [vv 4,.d (.int 12),.d (.int 1)],sV false false):=by kernel_rfl
noncomputable def LT(q t:Bool):bK:=[(.item,[.var 0,.var 5],.var 6),(.cmp .Eq,[.var 6,.str ")"],.bool q)]++if q then [(.item,[.var 2,.var 3],.var 7),(.item,[.var 2,.var 5],.var 8),(.bin .Add,[.var 8,.int 1],.var 9),(.slice,[.var 1,.var 7,.var 9,.none],.var 10),(.fn 59,[.var 10],.bool t)] else []
noncomputable def KJ(a b q t:Bool):Option (Fl×St):=(cW (XH (LT q t)) (rH (LT q t)) MY (bA IO) (vv 5) (sV a b)).bind (af (rH (LT q t)) MY (a9 IO))
noncomputable def Rt(a b q t:Bool):St:=Rg (("last",vv 5)::if q then [("told",.d (.bool t))] else if a&&b then [("told",vv 12)] else [])
theorem Rk(a b q t:Bool):KJ a b q t=some (if q&&t then .ret (vv 5) else .next,Rt a b q t):=by cases a<;>cases b<;>cases q<;>cases t<;>kernel_rfl
theorem Ps(a b:Bool):(af (rH []) MY [bt QJ 1] (sV a b)).map (·.1)=some (.ret (.d (.int 12))):=by cases a<;>cases b<;>kernel_rfl
noncomputable def OA(cs:List Nat)(page:Str)(pl:List Int)(first last:Nat)(td:D)(lt:Int):Nat->D:=
 jp [.str ⟨cs.toArray⟩,.str page,.lst (pl.map .int),.int first,.int (first+1:Nat),.int last,.str (c1 (cs.getD last 0)),.int (pl.getD first 0),.int (pl.getD last 0),.int (pl.getD last 0+1),.str (eU page pl first last),.none,td,.int lt]
theorem KP:∀ f<12,lP [.int (f+1:Nat),.int 12,.int 1]=some (((f+1:Nat):Int),11-f):=by decide +kernel
theorem D6(a n:Nat):iq a n=(List.range' a n).map λ k:Nat=> .int k:=by
 rw [List.range'_eq_map_range,List.map_map];rfl
theorem DZ{en:Nat->D}{f:Nat}(hf:f<12)(he:en 4= .int (f+1:Nat)):dR en (.rcd "range" [vv 4,.d (.int 12),.d (.int 1)])=some ((List.range' (f+1) (11-f)).map λ k:Nat=> .int k):=by
 show (lP [en 4,.int 12,.int 1]).map _=_
 rw [he,KP f hf]
 exact congrArg some (D6 ..)
inductive Ue(cs:List Nat)(page:Str)(pl:List Int)(first:Nat)(r:List Nat)(en:Nat->D)(σ:St):Prop
 | mk (td:D) (lt:Int) (a b:Bool) (h:i8 cs page pl first r=gG cs page pl first) (h12:∀ l∈r,l<12) (es:σ=sV a b) (ee:en=OA cs page pl first (r.headD 0) td lt)
section
variable{h₀:Heap}
theorem xz{x:Str}(hp:l3 x=true)(a b:Option Int):av (mO Cn) (.fn 59) [.str (Txt.slice x a b)]=some (.bool (aW (Txt.slice x a b))):=by
 obtain ⟨h1,h2⟩:=Um.mp hp
 exact congrArg (λ o:Option D=>o.or _) (if_pos (Um.mpr ⟨kn h1 a b,decide_eq_true (Ul (Txt.slice_le _ _ _) (of_decide_eq_true h2))⟩))
theorem OX(b:aI h₀){cs:List Nat}{page:Str}{pl:List Int}{first:Nat}(hc:cs.length=12)(hp:l3 page=true)(hpl:pl.length=12)(hf:first<12):TC h₀ (Eq h₀) 31 244 [vv 0,vv 1,vv 2,vv 3] (OA cs page pl first ((List.range' (first+1) (11-first)).headD 0) .none 0) [] λ v en' _=>∃ u,v= .d u∧den en' u= .int (gG cs page pl first:Nat):=by
 have ok:∀ K,aB h₀ (XH K) bz:=λ K=>b.all (fI b) K true bi
 refine TC.fn b (body:=am 244) (c:=MY) (σ₁:=sV false false) (by kernel_rfl) ?_
 rw [xW]
 refine TF.cons (G₁:=Eq h₀) (TF.forL (λ k:Nat=> .int k) (ok [(.bin .Add,[.var 3,.int 1],.var 4),(.isI,[.var 4],.none)]) (M:=8) (show 8+21<=30 by decide) (by kernel_rfl) (aO.ok ⟨rfl,rfl,trivial⟩) Pq (List.range' (first+1) (11-first)) (DZ hf rfl) (by kernel_rfl) (Ue cs page pl first) ?_ ?_ ⟨.none,0,false,false,rfl,λ l h=>?_,rfl,rfl⟩)
 ·intro last r en σ ⟨td,lt,a,b,h,h12,es,ee⟩
  subst es ee
  obtain ⟨h0,h1⟩:=List.forall_mem_cons.mp h12
  have f0:av (mO Cn) .item [.str ⟨cs.toArray⟩,.int last]=some (.str (c1 (cs.getD last 0))):=ez (hc.symm▸h0) (Ul (Nat.le_of_lt h0) (by decide))
  have again:∀ q t,bQ 1 (OA cs page pl first last td lt) (Rt a b q t) (OA cs page pl first (r.headD 0) (if q then .bool t else td) last) (sV true (q||(a&&b))):=λ q t=>⟨[],by kernel_rfl,by cases a<;>cases b<;>cases q<;>kernel_rfl⟩
  rw [tQ] at h
  cases hq:c1 (cs.getD last 0) == ")" with
  | false=>
   rw [hq] at h
   exact dG.run (ok (LT false false)) 8 (.var 5) (show 8+21<=30 by decide) (aO.ok ⟨f0,congrArg (λ b=>some (D.bool b)) hq,trivial⟩) rfl (Rk a b false false) ⟨_,_,again false false,_,_,_,_,h,h1,rfl,rfl⟩
  | true=>
   rw [hq] at h
   refine dG.run (ok (LT true (aW (eU page pl first last)))) 8 (.var 5) (show 8+21<=30 by decide) (aO.ok ⟨f0,congrArg (λ b=>some (D.bool b)) hq,a7 (hpl.symm▸hf) (Ul (Up hpl) (by decide)),a7 (hpl.symm▸h0) (Ul (Up hpl) (by decide)),rfl,iB rfl rfl (of_decide_eq_true (Um.mp hp).2),xz hp _ _,trivial⟩) rfl (Rk a b true _) ?_
   cases ht:aW (eU page pl first last) with
   | false=>
    rw [ht] at h
    exact ⟨_,_,again true false,_,_,_,_,h,h1,rfl,rfl⟩
   | true=>
    rw [ht] at h
    exact ⟨⟨.var 5,rfl,congrArg (λ n:Nat=>D.int n) h⟩,λ _ h=>h⟩
 ·intro en σ ⟨td,lt,a,b,h,h12,es,ee⟩
  subst es ee
  exact λ ab e=>e▸TF.end (ok []) (M:=8) (show 8+21<=30 by decide) aD (Ps a b) λ σ'=>⟨.int 12,rfl,congrArg (λ n:Nat=>D.int n) h⟩
 ·have:=(List.mem_range'_1.mp h).2
  rwa [← Nat.succ_sub_succ_eq_sub 11 first,Nat.add_sub_of_le (Nat.succ_le_of_lt hf)] at this
end
noncomputable abbrev hU:Option AO:=some ⟨.type "cell",none,.cell none⟩
noncomputable abbrev gk(v:V):Option AO:=some ⟨.type "cell",none,.cell (some v)⟩
section
variable{h₀:Heap}{G:Heap->Prop}{N:Nat}{c:aw}{en:Nat->D}{σ:St}{t:Env->Sem Flow}{P:bZ}
theorem TF.pack1{i j:Nat}{d:D}(hj:σ.at j=some ⟨.type "list",none,.seq [.ref i]⟩)(hi:σ.at i=some ⟨.type "list",none,.dseq d⟩)(hij:i≠j)(h:TF h₀ G N c t en ((σ.set i none).set j (bS (.lst [d]))) P):TF h₀ G N c t en σ P:= .mk λ W A s a=>by
 obtain ⟨ai,ds,o,e1,ed,le,hdv,ax⟩:=a.R.freeze (St.at_some hi)
 have aG:=ax.drop i
 rw [List.set_set] at aG
 have hj':(σ.set i none)[j]?=some (some ⟨.type "list",none,.seq [.ref i]⟩):=(List.getElem?_set_ne hij).trans (St.at_some hj)
 obtain ⟨aj,dx,x,j1,j2,dn,r⟩:=aG.ow (St.at_of hj')
 obtain ⟨xs,n,hs,ex⟩:=r.inv
 obtain ⟨y,ys,h1,h2,ey⟩:=hs.inv
 obtain ⟨a',ea,e⟩:=VR.inv h1
 obtain rfl:=h2.inv
 obtain rfl:=Option.some.inj (ea.symm.trans e1)
 subst e ey ex
 exact TF.go (a.e.symm▸h) a (W':={ W with F:=⟨W.F.en,(a',o)::W.F.fs⟩ }) ⟨List.prefix_refl _,λ _ h=> .tail _ h,rfl,rfl,rfl⟩ (aG.upd (tk:=s.toks) j1 ⟨_,hj',rfl⟩ (Nat.le_refl _) (λ _ _ _ e=>e) j2 (.mk _ _ dx _ _ dn (.dseq (.lst [d]) [.lst ds] [.ref a'] n (congrArg (λ d=>D.lst [d]) ed) (.cons _ _ _ _ hdv .nil))))
end
structure M4 where
 a:Int
 b:Int
 c:Int
 d:Int
 r:Int
 g:Int
noncomputable def M4.l(m:M4):List Int:=[m.a,m.b,m.c,m.d]
noncomputable def M4.sw(m:M4)(P Q:Int):M4:=⟨if (m.a==Q)=true then P else m.a,if (m.b==Q)=true then P else m.b,if (m.c==Q)=true then P else m.c,if (m.d==Q)=true then P else m.d,m.r,m.g-1⟩
noncomputable def dM(p q:Nat)(m:M4):M4:=if (m.l.getD p 0==m.l.getD q 0)=true then { m with r:=m.r+1 } else m.sw (m.l.getD p 0) (m.l.getD q 0)
noncomputable def fZ:List (Nat×Nat)->List M4->List M4
 | [],S=>S
 | t::l,S=>fZ l (S++S.map (dM t.1 t.2))
noncomputable abbrev jx:M4:=⟨0,1,2,3,0,4⟩
noncomputable def jC(m:M4):D:= .tup [.int m.r,.int m.g]
noncomputable def i9(m:M4):D:= .lst [.int m.a,.int m.b,.int m.c,.int m.d]
noncomputable def fk(ties:List (Nat×Nat)):D:= .lst ((fZ ties [jx]).map jC)
noncomputable def nh(ties:List (Nat×Nat)):D:= .lst (ties.map λ t=> .tup [.int t.1,.int t.2])
noncomputable def JX:List Stmt:=am 254
noncomputable def Gh:Stmt:=bt JX 2
noncomputable def Ef:Stmt:=bt (a9 Gh) 0
noncomputable abbrev EO:aw:=cf 254
theorem xT:am 254=JX.take 2++(.For (bA Gh) (aJ Gh) (a9 Gh) [] (bE Gh)::[bt JX 3]):=by kernel_rfl
theorem xw:a9 Gh=(.For (bA Ef) (aJ Ef) (a9 Ef) [] (bE Ef)::[]):=by kernel_rfl
noncomputable def A0(t:List (Str×V)):Option AO:=fX (("ties",vv 0)::("marks",.ref 5)::("told",.ref 6)::t)
noncomputable def N1(has:Bool):List (Str×V):=if has then [("turn",vv 3),("rings",vv 4),("groups",vv 5)] else []
noncomputable def tw(a b:Nat)(has:Bool):St:=[A0 (N1 has),gk (vv a),gk (vv b),if has then gk (vv 8) else hU,none,bS (.var 1),bS (.var 2)]
noncomputable def qB(has:Bool):St:=[A0 (N1 has),if has then gk (vv 6) else hU,if has then gk (vv 7) else hU,if has then gk (vv 8) else hU,none,bS (.var 1),bS (.var 2)]
theorem Pi:af (o0 []) EO (JX.take 2) [fX [("ties",vv 0)],hU,hU,hU]=some (.next,[fX [("ties",vv 0),("marks",.ref 5),("told",.ref 6)],hU,hU,hU,bS (.lst [.int 0,.int 1,.int 2,.int 3]),some ⟨.type "list",none,.seq [.ref 4]⟩,bS (.lst [.tup [.int 0,.int 4]])]):=by kernel_rfl
theorem Pj:(o0 []).E EO (aJ Gh) (qB false)=some (vv 0,qB false):=by kernel_rfl
noncomputable def LO:bK:=[(.len,[.var 2],.var 11),(.isI,[.var 11],.none)]
theorem Pk(has:Bool):(o0 LO).E EO (aJ Ef) (tw 6 7 has)=some (.rcd "range" [.d (.int 0),vv 11,.d (.int 1)],tw 6 7 has):=by cases has<;>kernel_rfl
noncomputable def Nz:D:= .lst [.var 20,.var 21,.var 22,.var 23]
noncomputable def pk(b:Bool)(i:Nat):D:= .var (if b then 16 else i)
noncomputable def LP(q b0 b1 b2 b3:Bool):bK:=[(.item,[.var 1,.var 12],Nz),(.item,[.var 2,.var 12],.var 13),(.isT,[.var 13,.int 2],.none),(.item,[.var 13,.int 0],.var 14),(.item,[.var 13,.int 1],.var 15),(.item,[Nz,.var 6],.var 16),(.item,[Nz,.var 7],.var 17),(.cmp .Eq,[.var 16,.var 17],.bool q),(.push,[.var 2,if q then .tup [.var 19,.var 15] else .tup [.var 14,.var 25]],.var 24)] ++
 if q then [(.push,[.var 1,Nz],.var 18),(.bin .Add,[.var 14,.int 1],.var 19)] else [(.cmp .Eq,[.var 20,.var 17],.bool b0),(.cmp .Eq,[.var 21,.var 17],.bool b1),(.cmp .Eq,[.var 22,.var 17],.bool b2),(.cmp .Eq,[.var 23,.var 17],.bool b3),
  (.push,[.lst [],pk b0 20],.lst [pk b0 20]),(.push,[.lst [pk b0 20],pk b1 21],.lst [pk b0 20,pk b1 21]),(.push,[.lst [pk b0 20,pk b1 21],pk b2 22],.lst [pk b0 20,pk b1 21,pk b2 22]),(.push,[.lst [pk b0 20,pk b1 21,pk b2 22],pk b3 23],.lst [pk b0 20,pk b1 21,pk b2 22,pk b3 23]),
  (.push,[.var 1,.lst [pk b0 20,pk b1 21,pk b2 22,pk b3 23]],.var 18),(.bin .Sub,[.var 15,.int 1],.var 25)]
noncomputable def FC(has q b0 b1 b2 b3:Bool):Option (Fl×St):=((cW (XE (LP q b0 b1 b2 b3)) (o0 (LP q b0 b1 b2 b3)) EO (bA Ef) (vv 12) (tw 6 7 has)).bind (af (o0 (LP q b0 b1 b2 b3)) EO (a9 Ef))).map λ p=>(p.1,p.2.take 7)
noncomputable def Og:St:=[A0 [("turn",vv 12),("rings",vv 14),("groups",vv 15)],gk (vv 6),gk (vv 7),gk (.d Nz),none,bS (.var 18),bS (.var 24)]
theorem Ph(has:Bool):FC has true false false false false=some (.next,Og):=by cases has<;>kernel_rfl
theorem Pl(has b0 b1 b2 b3:Bool):FC has false b0 b1 b2 b3=some (.next,Og):=by cases has<;>cases b0<;>cases b1<;>cases b2<;>cases b3<;>kernel_rfl
section
variable{h₀:Heap}{N n₀:Nat}{c:aw}{en:Nat->D}{σ:St}{P:bZ}
theorem dG.runT{X:Cx}{H:Hk}{t:Expr}{body:List Stmt}{Next:(Nat->D)->St->Prop}{d:D}{f:Fl}{bJ:St}(aok:aB h₀ X H)(M:Nat)(u:D)(n:Nat)(hM:M+X.need<=N)(k:cx X.K X.O en)(hu:den en u=d)(hrun:((cW X (cy X H M) c t (.d u) σ).bind (af (cy X H M) c body)).map (λ p=>(p.1,p.2.take n))=some (f,bJ))(h:∀ τ,fQ n₀ Next P f en (bJ++τ)):dG h₀ N n₀ c t body Next P d en σ:=by
 obtain ⟨⟨f',σ'⟩,h1,h2⟩:=Option.map_eq_some_iff.mp hrun
 obtain ⟨e1,e2⟩:=Prod.mk.inj h2
 subst e1
 exact dG.run aok M u hM k hu h1 (List.take_append_drop n σ'▸e2▸h (σ'.drop n))
noncomputable def IZ(ties:D)(T:List M4)(tn rg gr a c mk:D)(p q n j:Nat)(m m':M4):Nat->D:=
 jp [ties,.lst (T.map i9),.lst (T.map jC),tn,rg,gr,a,c,mk,.int p,.int q,.int n,.int j,jC m,.int m.r,.int m.g,.int (m.l.getD p 0),.int (m.l.getD q 0),.lst ((T++[m']).map i9),.int (m.r+1),.int m.a,.int m.b,.int m.c,.int m.d,.lst ((T++[m']).map jC),.int (m.g-1)]
theorem bw{α:Type}{f:α->D}{O:eI}{T:List α}{x:α}(h:T.length<=1000):av O .push [.lst (T.map f),f x]=some (.lst ((T++[x]).map f)):=(aQ (by rw [List.length_map];exact Ul h (by decide))).trans (congrArg (λ l=>some (D.lst l)) (List.map_append (f:=f) (l₁:=T) (l₂:=[x])).symm)
theorem fg{α:Type}{f:α->D}{O:eI}{T:List α}{x:α}{j:Nat}(h:T[j]?=some x)(hj:j<=1000):av O .item [.lst (T.map f),.int j]=some (f x):=rO (by rw [List.getElem?_map,h];rfl) (Ul hj (by decide))
theorem vA{m:M4}{j:Nat}(h:j<4){O:eI}:av O .item [i9 m,.int j]=some (.int (m.l.getD j 0)):=a7 (l:=m.l) h (by show 4<=1000;decide)
inductive OH(ties:D)(S:List M4)(p q:Nat)(j:Nat)(en:Nat->D)(σ:St):Prop
 | mk (tn rg gr mk:D) (has:Bool) (hh:0<j->has=true) (es:σ=tw 6 7 has) (ee:en=IZ ties (S++(S.take j).map (dM p q)) tn rg gr (.int p) (.int q) mk p q S.length j (S.getD j jx) (dM p q (S.getD j jx)))
theorem E9(ties:D)(T:List M4)(tn rg gr mk:D)(p q n j:Nat)(m m' PX PW:M4)(τ:St):bQ 7 (IZ ties T tn rg gr (.int p) (.int q) mk p q n j m m') (Og++τ) (IZ ties (T++[m']) (.int j) (.int m.r) (.int m.g) (.int p) (.int q) (i9 m) p q n (j+1) PX PW) (tw 6 7 true):=⟨[],by kernel_rfl,by kernel_rfl⟩
theorem o4{en:Nat->D}{P x:Int}{i:Nat}(hP:en 16= .int P)(h:en i= .int x)(b:Bool):den en (pk b i)= .int (if b=true then P else x):=by
 cases b with
 | true=>exact hP
 | false=>exact h
theorem HH{en:Nat->D}{m:M4}{P Q:Int}(hP:en 16= .int P)(ha:en 20= .int m.a)(hb:en 21= .int m.b)(hc:en 22= .int m.c)(hd:en 23= .int m.d):den en (.lst [pk (m.a==Q) 20,pk (m.b==Q) 21,pk (m.c==Q) 22,pk (m.d==Q) 23])=i9 (m.sw P Q):=by
 show D.lst [den en (pk _ 20),den en (pk _ 21),den en (pk _ 22),den en (pk _ 23)]=_
 rw [o4 hP ha,o4 hP hb,o4 hP hc,o4 hP hd]
 rfl
theorem GS(b:aI h₀){ties:D}{S:List M4}{p q:Nat}(hp:p<4)(hq:q<4)(h64:S.length<=64){j:Nat}{d:D}(hd:(iq 0 S.length)[j]?=some d)(hI:OH ties S p q j en σ):dG h₀ 10 7 EO (bA Ef) (a9 Ef) (OH ties S p q (j+1)) P d en σ:=by
 have ok:∀ K,aB h₀ (XE K) bz:=λ K=>b.all iE K true bi
 obtain ⟨tn,rg,gr,mk,has,hh,es,ee⟩:=hI
 subst es ee
 obtain ⟨hj,rfl⟩:=AL hd
 have hu:(D.int j)= .int (0+(j:Int)):=congrArg D.int (Int.zero_add j).symm
 have hg:S[j]?=some (S.getD j jx):=by rw [List.getD_eq_getElem?_getD,List.getElem?_eq_getElem hj];rfl
 have hj':j<=1000:=Ul (Ul (Nat.le_of_lt hj) h64) (by decide)
 have hT:(S++(S.take j).map (dM p q))[j]?=some (S.getD j jx):=(List.getElem?_append_left hj).trans hg
 have hn:(S++(S.take j).map (dM p q)).length<=1000:=by
  rw [List.length_append,List.length_map]
  exact Ul (Nat.add_le_add h64 (Ul (List.length_take_le ..) (Ul (Nat.le_of_lt hj) h64))) (by decide)
 have next:∀ τ,fQ 7 (OH ties S p q (j+1)) P .next (IZ ties (S++(S.take j).map (dM p q)) tn rg gr (.int p) (.int q) mk p q S.length j (S.getD j jx) (dM p q (S.getD j jx))) (Og++τ):=λ τ=>⟨_,_,E9 ..,_,_,_,_,true,λ _=>rfl,rfl,by
  rw [List.append_assoc,List.take_add_one,hg,List.map_append];rfl⟩
 generalize S++(S.take j).map (dM p q)=T at *
 generalize S.getD j jx=m at *
 cases hc:m.l.getD p 0==m.l.getD q 0 with
 | true=>
  rw [show dM p q m={ m with r:=m.r+1 } from if_pos hc] at next ⊢
  exact dG.runT (ok (LP true false false false false)) 8 (.var 12) 7 (show 8+0<=10 by decide) (aO.ok ⟨fg hT hj',fg hT hj',rfl,rfl,rfl,vA hp,vA hq,congrArg (λ b=>some (D.bool b)) hc,bw (f:=jC) (x:={ m with r:=m.r+1 }) hn,bw (f:=i9) (x:={ m with r:=m.r+1 }) hn,rfl,trivial⟩) hu (Ph has) next
 | false=>
  rw [show dM p q m=m.sw (m.l.getD p 0) (m.l.getD q 0) from if_neg (hc▸Bool.false_ne_true)] at next ⊢
  exact dG.runT (ok (LP false _ _ _ _)) 8 (.var 12) 7 (show 8+0<=10 by decide) (aO.ok ⟨fg hT hj',fg hT hj',rfl,rfl,rfl,vA hp,vA hq,congrArg (λ b=>some (D.bool b)) hc,bw (f:=jC) (x:=m.sw (m.l.getD p 0) (m.l.getD q 0)) hn,rfl,rfl,rfl,rfl,aQ (Un rfl),aQ (Un rfl),aQ (Un rfl),aQ (Un rfl),(congrArg (λ x=>av (mO JO) .push [.lst (T.map i9),x]) (HH rfl rfl rfl rfl rfl)).trans (bw (f:=i9) (x:=m.sw (m.l.getD p 0) (m.l.getD q 0)) hn),rfl,trivial⟩) hu (Pl has _ _ _ _) next
end
theorem Pm(has:Bool):af (o0 []) EO [bt JX 3] (qB has)=some (.ret (.ref 6),qB has):=by cases has<;>kernel_rfl
theorem KO:∀ n:Nat,n<65->lP [.int 0,.int n,.int 1]=some (0,n):=by decide +kernel
theorem DY{en:Nat->D}{n:Nat}(hn:n<=64)(he:en 11= .int n):dR en (.rcd "range" [.d (.int 0),vv 11,.d (.int 1)])=some (iq 0 n):=by
 show (lP [.int 0,en 11,.int 1]).map _=_
 rw [he,KO n (Nat.lt_succ_of_le hn)]
 rfl
noncomputable def Ke(ties:D)(S:List M4)(tn rg gr a c mk:D):Nat->D:=jp [ties,.lst (S.map i9),.lst (S.map jC),tn,rg,gr,a,c,mk]
inductive Ud(ties l:List (Nat×Nat))(en:Nat->D)(σ:St):Prop
 | mk (S:List M4) (tn rg gr a c mk:D) (has:Bool) (h:fZ l S=fZ ties [jx]) (h0:0<S.length) (h64:S.length * 2 ^ l.length<=64) (hv:∀ t∈l,t.1<4∧t.2<4) (es:σ=qB has) (ee:en=Ke (nh ties) S tn rg gr a c mk)
theorem KW(has:Bool)(p q:D):cW (XE []) (o0 []) EO (bA Gh) (.d (.tup [p,q])) (qB has)=some [A0 (N1 has),gk (.d p),gk (.d q),if has then gk (vv 8) else hU,none,bS (.var 1),bS (.var 2)]:=by cases has<;>kernel_rfl
theorem BQ(ties:D)(T:List M4)(tn rg gr a c mk:D)(p q n j:Nat)(m m':M4):bQ 7 (IZ ties T tn rg gr a c mk p q n j m m') (tw 6 7 true) (Ke ties T tn rg gr a c mk) (qB true):=⟨[],by kernel_rfl,by kernel_rfl⟩
theorem BP(ties:D)(T:List M4)(tn rg gr a c mk:D)(p q n j:Nat)(m m':M4)(has:Bool):bQ 7 (Ke ties T tn rg gr a c mk) [A0 (N1 has),gk (.d (.int p)),gk (.d (.int q)),if has then gk (vv 8) else hU,none,bS (.var 1),bS (.var 2)] (IZ ties T tn rg gr (.int p) (.int q) mk p q n j m m') (tw 6 7 has):=⟨[],by kernel_rfl,by cases has<;>kernel_rfl⟩
section
variable{h₀:Heap}
theorem OT(b:aI h₀){ties:List (Nat×Nat)}(h6:ties.length<=6)(hv:∀ t∈ties,t.1<4∧t.2<4):TC h₀ (Eq h₀) 11 254 [vv 0] (Ke (nh ties) [jx] .none .none .none .none .none .none) [] λ v en' σ'=>∃ u,yw σ' v=some u∧den en' u=fk ties:=by
 have ok:∀ K,aB h₀ (XE K) bz:=λ K=>b.all iE K true bi
 refine TC.fn b (body:=am 254) (c:=EO) (σ₁:=[fX [("ties",vv 0)],hU,hU,hU]) (by kernel_rfl) ?_
 rw [xT]
 refine TF.runs (ok []) (M:=8) (show 8+0<=10 by decide) (JX.take 2) aD Pi (TF.pack1 (i:=4) (j:=5) (d:= .lst [.int 0,.int 1,.int 2,.int 3]) rfl rfl (by decide) ?_)
 refine TF.re (en':=Ke (nh ties) [jx] .none .none .none .none .none .none) (σ':=qB false) ⟨[],by kernel_rfl,by kernel_rfl⟩ ?_
 refine TF.cons (G₁:=Eq h₀) (TF.forL (λ t:Nat×Nat=> .tup [.int t.1,.int t.2]) (ok []) (M:=8) (by decide) (by kernel_rfl) aD Pj ties rfl (by kernel_rfl) (Ud ties) ?_ ?_ ⟨[jx],_,_,_,_,_,_,false,rfl,Nat.one_pos,?_,hv,rfl,rfl⟩)
 ·intro (p,q) r en σ ⟨S,tn,rg,gr,a,c,mk,has,h,h0,h64,hv,es,ee⟩
  subst es ee
  obtain ⟨⟨hp,hq⟩,hv⟩:=List.forall_mem_cons.mp hv
  have hn:S.length<=64:=Ul (Nat.le_mul_of_pos_right _ (Nat.pow_pos (by decide))) h64
  refine ⟨XE [],bz,8,.tup [.int p,.int q],_,ok [],show 8+0<=10 by decide,aD,rfl,KW has _ _,?_⟩
  rw [xw]
  refine TF.re (BP _ S tn rg gr a c mk p q S.length 0 (S.getD 0 jx) (dM p q (S.getD 0 jx)) has) ?_
  refine TF.cons (G₁:=Eq h₀) (TF.for (ok LO) (M:=8) (show 8+0<=10 by decide) (by kernel_rfl) (aO.ok ⟨?_,rfl,trivial⟩) (Pk has) (DY hn rfl) (by kernel_rfl) (OH (nh ties) S p q) (λ k d en σ' hd hI=>GS b hp hq hn hd hI) ?_ ⟨tn,rg,gr,mk,has,λ h=>absurd h (Nat.lt_irrefl 0),rfl,?_⟩)
  ·exact gH ((if_pos (by rw [List.length_map];exact Ul hn (by decide))).trans (congrArg some (List.length_map ..)))
  ·intro en σ ⟨tn,rg,gr,mk,has,hh,es,ee⟩
   have el:(iq 0 S.length).length=S.length:=(List.length_map ..).trans List.length_range
   obtain rfl:=hh (el.symm▸h0)
   rw [el,List.take_length] at ee
   subst es ee
   refine λ ab e=>e▸TF.nil ⟨_,_,BQ ..,_,_,_,_,_,_,_,true,h,?_,?_,hv,rfl,rfl⟩
   ·rw [List.length_append];exact Nat.lt_of_lt_of_le h0 (Nat.le_add_right _ _)
   ·rw [List.length_append,List.length_map,Nat.add_mul,← Nat.mul_two,Nat.mul_assoc,← Nat.pow_succ];exact h64
  ·exact congrArg (λ S'=>IZ (nh ties) S' tn rg gr (.int p) (.int q) mk p q S.length 0 (S.getD 0 jx) (dM p q (S.getD 0 jx))) (List.append_nil S).symm
 ·intro en σ ⟨S,tn,rg,gr,a,c,mk,has,h,h0,h64,hv,es,ee⟩
  subst es ee
  exact λ ab e=>e▸TF.run (ok []) (M:=8) (show 8+0<=10 by decide) aD (Pm has) ⟨.var 2,by cases has<;>kernel_rfl,congrArg (λ S:List M4=>D.lst (S.map jC)) h⟩
 ·exact Ul (Up (Nat.one_mul _)) (Nat.pow_le_pow_right (by decide) h6)
end
structure BZ where
 sc:D
 du:D
 pl:D
 pg:D
 fa:D
 gv:Nat
 cs:List Nat
 ar:List Int
 f0:Nat
 l0:Nat
 f1:Nat
 l1:Nat
 f2:Nat
 l2:Nat
structure kT(z:BZ):Prop where
 cs:z.cs.length=12
 as:aR ⟨z.cs.toArray⟩=true
 ar:z.ar.length=12
 f0:z.f0<12
 l0:z.l0<12
 f1:z.f1<12
 l1:z.l1<12
 f2:z.f2<12
 l2:z.l2<12
 gv:z.gv<=900
noncomputable def i4(n:Nat):D:= .lst (List.replicate n .none)
noncomputable abbrev iL(l:List Int):D:= .lst (l.map .int)
noncomputable def vT(z:BZ)(x:List D):Nat->D:=jp (z.sc::z.du:: .str ⟨z.cs.toArray⟩::z.pl::z.pg::iL z.ar::z.fa::i4 z.gv:: .int z.f0:: .int z.l0:: .int z.f1:: .int z.l1:: .int z.f2:: .int z.l2::x)
noncomputable def MT:D:= .lst [.tup [.var 8,.var 9],.tup [.var 10,.var 11],.tup [.var 12,.var 13]]
noncomputable def bs(g:Nat)(t:List (Option AO)):St:=fX [("script",vv 0),("due",vv 1),("around",.ref 6),("far",.ref 7),("given",.ref 8),("mates",.ref 9)]::gk (vv 2)::gk (vv 3)::gk (vv 4)::hU::hU::bS (.var 5)::bS (.var 6)::bS (.var g)::bS MT::t
noncomputable def kQ:List Stmt:=am 249
noncomputable abbrev gO:aw:=(ck (Df 249) [] (o1 249 ++ ".<locals>.") (some 249) (pW 249) none (bs 7 [])).1
noncomputable def rS(t:List (Str×V)):Option AO:=fX (("mates",.ref 9)::("given",.ref 8)::t)
noncomputable def AH(c:Nat):Bool:=(c1 c == "b")||(c1 c == "/")
noncomputable def cz:List Nat->Int->List Int
 | [],_=>[]
 | c::cs,n=>n::cz cs (if AH c=true then n+1 else n)
noncomputable def ub:Stmt:=bt kQ 2
theorem xV:am 249=kQ.take 2++(.For (bA ub) (aJ ub) (a9 ub) [] (bE ub)::kQ.drop 3):=by kernel_rfl
noncomputable def G1(l:List (Option AO)):List (Option AO):=gk (vv 2)::gk (.ref 6)::hU::l
noncomputable def yH(has:Bool):St:=bs 7 (rS (("tags",.ref 14)::("ahead",vv 14)::if has then [("step",vv 16)] else [])::G1 [bS (.var 15)])
theorem Tu:af (rH []) gO (kQ.take 2) (bs 7 (rS []::G1 []))=some (.next,bs 7 (rS [("tags",.ref 14),("ahead",.d (.int 0))]::G1 [bS (.lst [])])):=by kernel_rfl
theorem Tt:(rH []).E gO (aJ ub) (yH false)=some (vv 2,yH false):=by kernel_rfl
noncomputable def kA(p q:Bool):bK:=[(.push,[.var 15,.var 14],.var 18),(.cmp .Eq,[.var 17,.str "b"],.bool p),(.cmp .Eq,[.var 17,.str "/"],.bool q),(.bin .Add,[.var 14,.int 1],.var 19)]
noncomputable def O6(has p q:Bool):Option (Fl×St):=(cW (XH (kA p q)) (rH (kA p q)) gO (bA ub) (vv 17) (yH has)).bind (af (rH (kA p q)) gO (a9 ub))
noncomputable def oA(x:Bool):St:=bs 7 (rS [("tags",.ref 14),("ahead",vv (if x then 19 else 14)),("step",vv 17)]::G1 [bS (.var 18)])
theorem Ts(has p q:Bool):O6 has p q=some (.next,oA (p||q)):=by cases has<;>cases p<;>cases q<;>kernel_rfl
noncomputable def rY(z:BZ)(n:Int)(t:List Int)(sp:D)(c:Nat):Nat->D:=vT z [.int n,iL t,sp,.str (c1 c),iL (t++[n]),.int (n+1)]
inductive IA(z:BZ)(r:List Nat)(en:Nat->D)(σ:St):Prop
 | mk (t:List Int) (n:Int) (sp:D) (has:Bool) (hh:r.length<12->has=true) (h:t++cz r n=cz z.cs 0) (hl:t.length+r.length=12) (es:σ=yH has) (ee:en=rY z n t sp (r.headD 0))
theorem Jt(z:BZ)(n:Int)(t:List Int)(sp:D)(c c':Nat)(x:Bool):bQ 15 (rY z n t sp c) (oA x) (rY z (if x=true then n+1 else n) (t++[n]) (.str (c1 c)) c') (yH true):=⟨[],by kernel_rfl,by cases x<;>kernel_rfl⟩
section
variable{h₀:Heap}
theorem ww(b:aI h₀){z:BZ}(hz:kT z){P:bZ}(h:∀ n sp,TF h₀ (Eq h₀) 40 gO (execs (kQ.drop 3)) (rY z n (cz z.cs 0) sp 0) (yH true) P):TF h₀ (Eq h₀) 40 gO (execs (am 249)) (rY z 0 [] .none (z.cs.headD 0)) (bs 7 (rS []::G1 [])) P:=by
 have ok:∀ K,aB h₀ (XH K) bz:=λ K=>b.all (fI b) K true bi
 rw [xV]
 refine TF.runs (ok []) (M:=8) (show 8+21<=40 by decide) (kQ.take 2) aD Tu (TF.re (en':=rY z 0 [] .none (z.cs.headD 0)) (σ':=yH false) ⟨[],by kernel_rfl,by kernel_rfl⟩ ?_)
 refine TF.cons (G₁:=Eq h₀) (TF.forL (λ c=> .str (c1 c)) (ok []) (M:=8) (show 8+21<=40 by decide) (by kernel_rfl) aD Tt z.cs (congrArg (λ o:Option (List D)=>o.or _) (if_pos hz.as)) (by kernel_rfl) (IA z) ?_ ?_ ⟨[],0,.none,false,λ h=>absurd hz.cs (Nat.ne_of_lt h),rfl,(Nat.zero_add _).trans hz.cs,rfl,rfl⟩)
 ·intro c r en σ ⟨t,n,sp,has,hh,ht,hl,es,ee⟩
  subst es ee
  rw [List.length_cons,Nat.add_comm r.length,← Nat.add_assoc] at hl
  exact dG.run (ok (kA _ _)) 8 (.var 17) (show 8+21<=40 by decide) (aO.ok ⟨gC (Ul (Ul (Nat.le_add_right t.length 1) (Nat.le_add_right _ _)) (Ul (Up hl) (by decide))),rfl,rfl,rfl,trivial⟩) rfl (Ts has _ _)
   ⟨_,_,Jt ..,_,_,_,true,λ _=>rfl,(List.append_assoc ..).trans ht,by rw [List.length_append];exact hl,rfl,rfl⟩
 ·intro en σ ⟨t,n,sp,has,hh,ht,hl,es,ee⟩
  obtain rfl:=hh (by decide)
  rw [show cz [] n=[] from rfl,List.append_nil] at ht
  subst es ee ht
  exact λ ab e=>e▸h n sp
end
noncomputable def tW(row:List Int)(x:Int):List Int:=row.take (bI true row x)++x::row.drop (bI true row x)
noncomputable def eJ(tags:List Int):List Nat->List Int
 | []=>[]
 | f::r=>tW (eJ tags r) (tags.getD f 0)
noncomputable def Il(vf x a r g:Nat)(R G:D):bK:=[(.item,[.var 15,.var vf],.var x),(.fn 77,[R,.var x,.int 0,.none],.var a),(.isI,[.var a],.none),(.ins,[R,.var a,.var x],.var r),(.push,[G,.none],.var g)]
noncomputable def qd:D:= .lst [.var 9,.var 11,.var 13]
noncomputable def LL:bK:=[(.slice,[MT,.none,.none,.int (-1)],.lst [.tup [.var 12,.var 13],.tup [.var 10,.var 11],.tup [.var 8,.var 9]]),(.push,[.lst [],.var 9],.lst [.var 9]),(.push,[.lst [.var 9],.var 11],.lst [.var 9,.var 11]),(.push,[.lst [.var 9,.var 11],.var 13],qd)] ++
 (Il 12 20 26 32 38 (.lst []) (.var 7)++(Il 13 21 27 33 39 (.var 32) (.var 38)++(Il 10 22 28 34 40 (.var 33) (.var 39)++(Il 11 23 29 35 41 (.var 34) (.var 40)++(Il 8 24 30 36 42 (.var 35) (.var 41)++Il 9 25 31 37 43 (.var 36) (.var 42))))))
noncomputable def wD(has:Bool)(g r i o t:Nat):St:=bs g (rS (("tags",.ref 14)::("ahead",vv 14)::("step",vv 16)::("row",.ref 15)::("first",vv 8)::("last",vv 9)::("lasts",.ref 16)::("inside",.ref 17)::("outer",.ref 18)::if has then [("turn",vv t)] else [])::G1 [bS (.var 15),bS (.var r),bS qd,bS (.var i),bS (.var o)])
noncomputable def zu:Option (Fl×St):=af (cy (XH LL) bz 14) gO ((kQ.drop 3).take 5) (yH true)
noncomputable def Le:St:=(zu.map (·.2)).getD []
theorem Pe:zu=some (.next,Le):=by kernel_rfl
noncomputable def IY(z:BZ)(tags:List Int)(n:Int)(sp:D):Nat->D:=vT z [.int n,iL tags,sp,.none,.none,.none,.int (tags.getD z.f2 0),.int (tags.getD z.l2 0),.int (tags.getD z.f1 0),.int (tags.getD z.l1 0),.int (tags.getD z.f0 0),.int (tags.getD z.l0 0),
 .int (bI true [] (tags.getD z.f2 0):Nat),.int (bI true (eJ tags [z.f2]) (tags.getD z.l2 0):Nat),.int (bI true (eJ tags [z.l2,z.f2]) (tags.getD z.f1 0):Nat),.int (bI true (eJ tags [z.f1,z.l2,z.f2]) (tags.getD z.l1 0):Nat),.int (bI true (eJ tags [z.l1,z.f1,z.l2,z.f2]) (tags.getD z.f0 0):Nat),.int (bI true (eJ tags [z.f0,z.l1,z.f1,z.l2,z.f2]) (tags.getD z.l0 0):Nat),
 iL (eJ tags [z.f2]),iL (eJ tags [z.l2,z.f2]),iL (eJ tags [z.f1,z.l2,z.f2]),iL (eJ tags [z.l1,z.f1,z.l2,z.f2]),iL (eJ tags [z.f0,z.l1,z.f1,z.l2,z.f2]),iL (eJ tags [z.l0,z.f0,z.l1,z.f1,z.l2,z.f2]),i4 (z.gv+1),i4 (z.gv+2),i4 (z.gv+3),i4 (z.gv+4),i4 (z.gv+5),i4 (z.gv+6)]
noncomputable def Bk(z:BZ)(tags:List Int)(n:Int)(sp:D)(row ins out:List Int)(x:List D):Nat->D:=vT z (.int n::iL tags::sp::iL row::iL ins::iL out::x)
noncomputable abbrev BZ.up(z:BZ):BZ:={ z with gv:=z.gv+6 }
theorem Js(z:BZ)(tags:List Int)(n:Int)(sp:D)(x:List D):bQ (yH true).length (IY z tags n sp) Le (Bk z.up tags n sp (eJ tags [z.l0,z.f0,z.l1,z.f1,z.l2,z.f2]) [0] [] x) (wD false 7 17 18 19 22):=⟨[15,22,24,25],by kernel_rfl,by kernel_rfl⟩
theorem aO.app{O:eI}{en:Nat->D}{K L:bK}(h:aO O en K)(h':aO O en L):aO O en (K++L):=by
 induction K with
 | nil=>exact h'
 | cons p K ih=>exact ⟨h.1,ih h.2⟩
theorem uq(r:Bool)(l:List Int)(x:Int)(f:Nat):∀ lo hi:Nat,lo<=hi->dT r l x f lo hi<=hi:=by
 induction f with
 | zero=>exact λ lo hi h=>h
 | succ f ih=>
  intro lo hi h
  rw [fO]
  split
  ·rename_i hlt
   split
   ·exact Ul (ih _ _ (k9 hlt).2) (Nat.le_of_lt (k9 hlt).1)
   ·exact ih _ _ (k9 hlt).1
  ·exact h
theorem lq(r:Bool)(l:List Int)(x:Int):bI r l x<=l.length:=uq r l x _ 0 _ (Nat.zero_le _)
theorem lO(tags:List Int)(l:List Nat):(eJ tags l).length=l.length:=by
 induction l with
 | nil=>rfl
 | cons f l ih=>
  show (tW _ _).length=_
  unfold tW
  rw [List.length_append,List.length_cons,List.length_take,List.length_drop,Nat.min_eq_left (lq ..),← Nat.add_assoc,Nat.add_sub_cancel' (lq ..),ih]
  rfl
theorem dW(l:List Int):cD (l.map .int)=some l:=by
 induction l with
 | nil=>rfl
 | cons a l ih=>exact congrArg (Option.map (a::·)) ih
theorem nT{ds:List D}{d:D}(h:xQ true ds=some d):av (mO Cn) (.fn 77) ds=some d:=congrArg (λ o:Option D=>o.or _) h
theorem fh{en:Nat->D}{vf x a r g f n:Nat}{R G:D}{tags row:List Int}(h15:en 15=iL tags)(hvf:en vf= .int f)(hf:f<tags.length)(ht:tags.length<=1000)(hx:en x= .int (tags.getD f 0))(hR:den en R=iL row)(hrow:row.length<=1000)
  (ha:en a= .int (bI true row (tags.getD f 0):Nat)) (hr:en r=iL (tW row (tags.getD f 0))) (hG:den en G=i4 n) (hn:n<=1000) (hg:en g=i4 (n+1)):aO (mO Cn) en (Il vf x a r g R G):=by
 refine ⟨?_,?_,?_,?_,?_,trivial⟩
 ·show av _ .item [en 15,en vf]=some (en x)
  rw [h15,hvf,hx]
  exact a7 hf ht
 ·show av _ (.fn 77) [den en R,en x,.int 0,.none]=some (en a)
  rw [hR,hx,ha]
  refine nT ?_
  show (cD (row.map .int)).bind _=_
  rw [dW]
  exact if_pos hrow
 ·show av _ .isI [en a]=_
  rw [ha];rfl
 ·show av _ .ins [den en R,en a,en x]=some (en r)
  rw [hR,ha,hx,hr]
  have e:=(List.length_map (f:=D.int) (as:=row))
  refine (if_pos ⟨Int.natCast_nonneg _,Int.ofNat_le.mpr (e.symm▸lq ..),Ul (Up e) (Ul hrow (by decide))⟩).trans (congrArg (λ l=>some (D.lst l)) ?_)
  ·unfold tW
   rw [List.map_append,List.map_take,List.map_cons,List.map_drop]
   rfl
 ·show av _ .push [den en G,.none]=some (en g)
  rw [hG,hg]
  exact (aQ (by rw [List.length_replicate];exact Ul hn (by decide))).trans (congrArg (λ l=>some (D.lst l)) List.replicate_succ'.symm)
theorem wU{O:eI}{a b c:D}:av O .slice [.lst [a,b,c],.none,.none,.int (-1)]=some (.lst [c,b,a]):=by kernel_rfl
section
variable{h₀:Heap}
theorem yq(b:aI h₀){z:BZ}(hz:kT z){tags:List Int}{n:Int}{sp:D}(ht:tags.length=12){P:bZ}
  (h:TF h₀ (Eq h₀) 40 gO (execs (kQ.drop 8)) (Bk z.up tags n sp (eJ tags [z.l0,z.f0,z.l1,z.f1,z.l2,z.f2]) [0] [] [.none]) (wD false 7 17 18 19 22) P):TF h₀ (Eq h₀) 40 gO (execs (kQ.drop 3)) (IY z tags n sp) (yH true) P:=by
 have ok:∀ K,aB h₀ (XH K) bz:=λ K=>b.all (fI b) K true bi
 have h12:∀ {f:Nat},f<12->f<tags.length:=λ h=>ht.symm▸h
 have ht':tags.length<=1000:=Ul (Up ht) (by decide)
 have hr:∀ l:List Nat,l.length<=1000->(eJ tags l).length<=1000:=λ l h=>(lO tags l).symm▸h
 have hg:∀ i,i<=6->z.gv+i<=1000:=λ i hi=>Ul (Nat.add_le_add hz.gv hi) (by decide)
 exact TF.runsA (ok LL) (M:=14) (show 14+21<=40 by decide) ((kQ.drop 3).take 5) (aO.ok (aO.app ⟨wU,aQ (Un rfl),aQ (Un rfl),aQ (Un rfl),trivial⟩ (aO.app (fh rfl rfl (h12 hz.f2) ht' rfl rfl (hr [] (by decide)) rfl rfl rfl (hg 0 (by decide)) rfl) (aO.app (fh rfl rfl (h12 hz.l2) ht' rfl rfl (hr [z.f2] (Un rfl)) rfl rfl rfl (hg 1 (by decide)) rfl)
  (aO.app (fh rfl rfl (h12 hz.f1) ht' rfl rfl (hr [z.l2,z.f2] (Un rfl)) rfl rfl rfl (hg 2 (by decide)) rfl) (aO.app (fh rfl rfl (h12 hz.l1) ht' rfl rfl (hr [z.f1,z.l2,z.f2] (Un rfl)) rfl rfl rfl (hg 3 (by decide)) rfl)
  (aO.app (fh rfl rfl (h12 hz.f0) ht' rfl rfl (hr [z.l1,z.f1,z.l2,z.f2] (Un rfl)) rfl rfl rfl (hg 4 (by decide)) rfl) (fh rfl rfl (h12 hz.l0) ht' rfl rfl (hr [z.f0,z.l1,z.f1,z.l2,z.f2] (Un rfl)) rfl rfl rfl (hg 5 (by decide)) rfl)))))))) Pe (Js z tags n sp _) h
end
noncomputable def gL(cs:List Nat)(lasts:List Int):List Nat->List Int->List Int->Option (List Int×List Int)
 | [],i,o=>some (i,o)
 | t::r,i,o=>if (c1 (cs.getD t 0) == "(")=true then gL cs lasts r (i++[((o.length+1:Nat):Int)]) (o++[i.getLastD 0]) else if (c1 (cs.getD t 0) == ")")=true then (if (lasts.contains (t:Int)&&decide (lasts.idxOf (t:Int)<o.length))=true then gL cs lasts r (i++[o.getD (lasts.idxOf (t:Int)) 0]) o else none) else gL cs lasts r i o
theorem nO(cs:List Nat)(lasts:List Int)(t:Nat)(r:List Nat)(i o:List Int):gL cs lasts (t::r) i o=if (c1 (cs.getD t 0) == "(")=true then gL cs lasts r (i++[((o.length+1:Nat):Int)]) (o++[i.getLastD 0]) else if (c1 (cs.getD t 0) == ")")=true then (if (lasts.contains (t:Int)&&decide (lasts.idxOf (t:Int)<o.length))=true then gL cs lasts r (i++[o.getD (lasts.idxOf (t:Int)) 0]) o else none) else gL cs lasts r i o:=rfl
noncomputable abbrev BZ.la(z:BZ):List Int:=[(z.l0:Int),(z.l1:Int),(z.l2:Int)]
noncomputable def ua:Stmt:=bt kQ 8
theorem Nf:kQ.drop 8= .For (bA ua) (aJ ua) (a9 ua) [] (bE ua)::kQ.drop 9:=by kernel_rfl
theorem Tm:(rH []).E gO (aJ ua) (wD false 7 17 18 19 20)=some (.rcd "range" [.d (.int 0),.d (.int 12),.d (.int 1)],wD false 7 17 18 19 20):=by kernel_rfl
noncomputable def kC(p q:Bool):bK:=[(.item,[.var 2,.var 21],.var 22),(.cmp .Eq,[.var 22,.str "("],.bool p),(.cmp .Eq,[.var 22,.str ")"],.bool q)]++if p then [(.item,[.var 18,.int (-1)],.var 24),(.push,[.var 19,.var 24],.var 25),(.len,[.var 25],.var 26),(.push,[.var 18,.var 26],.var 27)] else if q then [(.meth 1,[qd,.var 21],.var 23),(.item,[.var 19,.var 23],.var 28),(.push,[.var 18,.var 28],.var 29)] else []
noncomputable def O5(has p q:Bool):Option (Fl×St):=(cW (XH (kC p q)) (cy (XH (kC p q)) bz 9) gO (bA ua) (vv 21) (wD has 7 17 18 19 20)).bind (af (cy (XH (kC p q)) bz 9) gO (a9 ua))
noncomputable def oC(p q:Bool):St:=wD true 7 17 (if p then 27 else if q then 29 else 18) (if p then 25 else 19) 21
theorem rC(has p q:Bool):O5 has p q=some (.next,oC p q):=by cases has<;>cases p<;>cases q<;>kernel_rfl
noncomputable def ue(z:BZ)(tags:List Int)(n:Int)(sp:D)(row i o:List Int)(tn:D)(t:Nat):Nat->D:=Bk z tags n sp row i o [tn,.int t,.str (c1 (z.cs.getD t 0)),.int (z.la.idxOf (t:Int):Nat),.int (i.getLastD 0),iL (o++[i.getLastD 0]),.int (o.length+1:Nat),iL (i++[((o.length+1:Nat):Int)]),.int (o.getD (z.la.idxOf (t:Int)) 0),iL (i++[o.getD (z.la.idxOf (t:Int)) 0])]
theorem Jr(z:BZ)(tags:List Int)(n:Int)(sp:D)(row i o:List Int)(tn:D)(t:Nat)(t':Nat)(p q:Bool):bQ 19 (ue z tags n sp row i o tn t) (oC p q) (ue z tags n sp row (if p=true then i++[((o.length+1:Nat):Int)] else if q=true then i++[o.getD (z.la.idxOf (t:Int)) 0] else i) (if p=true then o++[i.getLastD 0] else o) (.int t) t') (wD true 7 17 18 19 20):=⟨[],by kernel_rfl,by cases p<;>cases q<;>kernel_rfl⟩
inductive IC(z:BZ)(tags:List Int)(n:Int)(sp:D)(row:List Int)(S:List Int×List Int)(r:List Nat)(en:Nat->D)(σ:St):Prop
 | mk (i o:List Int) (tn:D) (has:Bool) (hh:r.length<12->has=true) (h:gL z.cs z.la r i o=some S) (h0:0<i.length) (hi:i.length+r.length<=13) (ho:o.length+r.length<=12) (h12:∀ t∈r,t<12) (es:σ=wD has 7 17 18 19 20) (ee:en=ue z tags n sp row i o tn (r.headD 0))
section
variable{h₀:Heap}
theorem AN{n:Nat}(h:0<n):jh (-1) n=some (n-1):=by
 cases n with
 | zero=>exact absurd h (Nat.lt_irrefl 0)
 | succ m=>
  exact (if_neg (by decide)).trans ((if_pos (Int.neg_le_neg (Int.ofNat_le.mpr (Nat.succ_le_succ (Nat.zero_le m))))).trans (congrArg some ((congrArg Int.toNat (Int.add_comm _ _)).trans (congrArg Int.toNat (Int.add_neg_cancel_right m 1)))))
theorem xk{l:List Int}(h:0<l.length){O:eI}:av O .item [iL l,.int (-1)]=some (.int (l.getLastD 0)):=by
 show (if d5 (-1)=true then (jh (-1) (l.map D.int).length).bind ((l.map D.int)[·]?) else none)=_
 rw [if_pos (by decide),List.length_map,AN h]
 show (l.map D.int)[l.length-1]?=_
 rw [List.getElem?_map,← List.getLast?_eq_getElem?,List.getLastD_eq_getLast?]
 cases l with
 | nil=>exact absurd h (Nat.lt_irrefl 0)
 | cons a l=>rw [List.getLast?_cons];rfl
theorem xm{l:List Int}{i:Int}(h:l.contains i=true)(hl:l.length<=1000){f:Ca}:av (mO f) (.meth 1) [iL l,.int i]=some (.int (l.idxOf i:Nat)):=by
 show ((cD (l.map .int)).bind _).or _=_
 rw [dW]
 exact congrArg (λ o:Option D=>o.or _) (if_pos ⟨Ul hl (by decide),h⟩)
theorem Am{O:eI}{o:List Int}{v:Int}(h:o.length+1<=1000):av O .len [iL (o++[v])]=some (.int (o.length+1:Nat)):=(jb (List.length_append.symm▸h)).trans (congrArg (λ n:Nat=>some (D.int n)) List.length_append)
theorem qv(b:aI h₀){z:BZ}(hz:kT z){tags row:List Int}{n:Int}{sp:D}{S:List Int×List Int}(hS:gL z.cs z.la (List.range' 0 12) [0] []=some S){P:bZ}
  (h:∀ tn,TF h₀ (Eq h₀) 40 gO (execs (kQ.drop 9)) (ue z tags n sp row S.1 S.2 tn 0) (wD true 7 17 18 19 20) P):TF h₀ (Eq h₀) 40 gO (execs (kQ.drop 8)) (ue z tags n sp row [0] [] .none 0) (wD false 7 17 18 19 20) P:=by
 have ok:∀ K,aB h₀ (XH K) bz:=λ K=>b.all (fI b) K true bi
 rw [Nf]
 refine TF.cons (G₁:=Eq h₀) (TF.forL (λ k:Nat=> .int k) (ok []) (M:=8) (show 8+21<=40 by decide) (by kernel_rfl) aD Tm (List.range' 0 12) (by kernel_rfl) (by kernel_rfl) (IC z tags n sp row S) ?_ ?_ ⟨[0],[],.none,false,λ h=>absurd h (Nat.lt_irrefl _),hS,Nat.one_pos,Nat.le_refl _,Nat.le_refl _,by decide,rfl,rfl⟩)
 ·intro t r en σ ⟨i,o,tn,has,hh,h,h0,hi,ho,h12,es,ee⟩
  subst es ee
  obtain ⟨ht,h12⟩:=List.forall_mem_cons.mp h12
  rw [List.length_cons,Nat.add_comm r.length,← Nat.add_assoc] at hi ho
  have hi':i.length<=1000:=Ul (Nat.le_add_right _ 1) (Ul (Nat.le_add_right _ _) (Ul hi (by decide)))
  have ho':o.length<=1000:=Ul (Nat.le_add_right _ 1) (Ul (Nat.le_add_right _ _) (Ul ho (by decide)))
  have f0:av (mO Cn) .item [.str ⟨z.cs.toArray⟩,.int t]=some (.str (c1 (z.cs.getD t 0))):=ez (hz.cs.symm▸ht) (Ul (Nat.le_of_lt ht) (by decide))
  have li:∀ w,(i++[w]).length+r.length<=13:=λ w=>List.length_append▸hi
  have lo:∀ w,(o++[w]).length+r.length<=12:=λ w=>List.length_append▸ho
  have lp:∀ w,0<(i++[w]).length:=λ w=>List.length_append▸Nat.succ_pos _
  have L9:i.length+r.length<=13:=Ul (Nat.add_le_add_right (Nat.le_add_right _ 1) _) hi
  have F3:o.length+r.length<=12:=Ul (Nat.add_le_add_right (Nat.le_add_right _ 1) _) ho
  have ag:=Jr z tags n sp row i o tn t (r.headD 0)
  rw [nO] at h
  cases hp:c1 (z.cs.getD t 0) == "(" with
  | true=>
   rw [hp] at h
   exact dG.run (ok (kC true (c1 (z.cs.getD t 0) == ")"))) 9 (.var 21) (show 9+21<=40 by decide) (aO.ok ⟨f0,congrArg (λ b=>some (D.bool b)) hp,rfl,xk h0,gC ho',Am (Ul (Nat.le_add_right _ _) (Ul ho (by decide))),gC hi',trivial⟩) rfl (rC has true _) ⟨_,_,ag true _,_,_,_,true,λ _=>rfl,h,lp _,li _,lo _,h12,rfl,rfl⟩
  | false=>
   rw [hp] at h
   cases hq:c1 (z.cs.getD t 0) == ")" with
   | true=>
    rw [hq] at h
    cases hb:(z.la.contains (t:Int)&&decide (z.la.idxOf (t:Int)<o.length)) with
    | false=>rw [hb] at h;exact ns h
    | true=>
     rw [hb] at h
     obtain ⟨hb1,hb2⟩:=Um.mp hb
     exact dG.run (ok (kC false true)) 9 (.var 21) (show 9+21<=40 by decide) (aO.ok ⟨f0,congrArg (λ b=>some (D.bool b)) hp,congrArg (λ b=>some (D.bool b)) hq,xm hb1 (Un rfl),a7 (of_decide_eq_true hb2) ho',gC hi',trivial⟩) rfl (rC has false true) ⟨_,_,ag false true,_,_,_,true,λ _=>rfl,h,lp _,li _,F3,h12,rfl,rfl⟩
   | false=>
    rw [hq] at h
    exact dG.run (ok (kC false false)) 9 (.var 21) (show 9+21<=40 by decide) (aO.ok ⟨f0,congrArg (λ b=>some (D.bool b)) hp,congrArg (λ b=>some (D.bool b)) hq,trivial⟩) rfl (rC has false false) ⟨_,_,ag false false,_,_,_,true,λ _=>rfl,h,h0,L9,F3,h12,rfl,rfl⟩
 ·intro en σ ⟨i,o,tn,has,hh,hS',h0,hi,ho,h12,es,ee⟩
  obtain rfl:=hh (by decide)
  obtain rfl:=Option.some.inj hS'
  subst es ee
  exact λ ab e=>e▸h tn
end
noncomputable def eN(cs:List Nat)(ar:List Int)(number:Int):List Nat->List Nat
 | []=>[]
 | o::r=>if ((c1 (cs.getD o 0) == "/")&&(ar.getD o 0==number))=true then o::eN cs ar number r else eN cs ar number r
noncomputable abbrev cZ(cs:List Nat)(ar:List Int)(n:Nat):List Nat:=eN cs ar (n+1:Nat) (List.range' 0 12)
noncomputable abbrev Pr:=Int×Int
noncomputable abbrev pD(p:Pr):D:= .tup [.int p.1,.int p.2]
noncomputable abbrev pL(l:List Pr):D:= .lst (l.map pD)
noncomputable abbrev nD(n:Nat):D:= .int n
noncomputable abbrev nL(l:List Nat):D:= .lst (l.map nD)
noncomputable def m9:Stmt:=bt kQ 11
noncomputable def vF:Stmt:=bt (a9 m9) 0
theorem Nd:kQ.drop 9=(kQ.drop 9).take 2++(.For (bA m9) (aJ m9) (a9 m9) [] (bE m9)::kQ.drop 12):=by kernel_rfl
theorem Es:a9 m9=[.If (mn vF) (gc vF) (xn vF) (bE vF)]:=by kernel_rfl
theorem HP:xn vF=[]:=by kernel_rfl
noncomputable abbrev Gm(m:List (Str×V)):Option AO:=some ⟨.type "dict",none,.dict m⟩
noncomputable def fD(h:Bool)(t l:Nat):Option AO:=rS (("tags",.ref 14)::("ahead",vv 14)::("step",vv 16)::("row",.ref 15)::("first",vv 8)::("last",vv 9)::("lasts",.ref 16)::("inside",.ref 17)::("outer",.ref 18)::("turn",vv t)::("elements",.ref 19)::("brackets",.ref 20)::if h then [("late",vv l)] else [])
noncomputable def Ks(h:Bool)(c:Option AO)(t l:Nat)(e r:D):St:=bs 7 [fD h t l,gk (vv 2),gk (.ref 6),c,bS (.var 15),bS (.var 17),bS qd,bS (.var 18),bS (.var 19),bS e,bS r]
noncomputable def iU(h:Bool)(t:Nat):St:=Ks h (if h then gk (vv 24) else hU) t 23 (.var 21) (.var 22)
noncomputable abbrev mS(h:Bool):St:=Ks h (gk (vv 28)) 25 23 (.var 21) (.var 22)
theorem Tl:af (rH []) gO ((kQ.drop 9).take 2) (wD true 7 17 18 19 20)=some (.next,Ks false hU 20 23 (.lst []) (.lst [])):=by kernel_rfl
theorem Tk(h:Bool):(rH []).E gO (aJ m9) (iU h 20)=some (.rcd "range" [.d (.int 0),.d (.int 12),.d (.int 1)],iU h 20):=by cases h<;>kernel_rfl
theorem Tj(h:Bool):cW (XH []) (rH []) gO (bA m9) (vv 25) (iU h 20)=some (iU h 25):=by cases h<;>kernel_rfl
noncomputable def P4(p:Bool):bK:=[(.item,[.var 2,.var 25],.var 26),(.cmp .Eq,[.var 26,.str "b"],.bool p)]
theorem Ri(h p:Bool):(rH (P4 p)).T gO (mn vF) (iU h 25)=some (p,iU h 25):=by cases h<;>cases p<;>kernel_rfl
noncomputable def RM:bK:=[(.len,[.var 21],.var 27),(.bin .Add,[.var 27,.int 1],.var 28)]
theorem Ti(h:Bool):af (rH RM) gO ((gc vF).take 1) (iU h 25)=some (.next,mS h):=by cases h<;>kernel_rfl
noncomputable def eD(z:BZ)(tags:List Int)(n:Int)(sp:D)(row ins out:List Int)(tn:D)(E B:List Pr)(late num:D)(t:Nat)(acc:List Nat)(oth:D)(o lt:Nat):Nat->D:=
 Bk z tags n sp row ins out [tn,pL E,pL B,late,num,.int t,.str (c1 (z.cs.getD t 0)),.int E.length,.int (E.length+1:Nat),nL acc,oth,.int o,.str (c1 (z.cs.getD o 0)),.int (z.ar.getD o 0),nL (acc++[o]),.int lt,.int (z.ar.getD t 0),pL (E++[(((E.length+1:Nat):Int),z.ar.getD t 0)]),
  .int (tags.getD t 0),.int (bI true row (tags.getD t 0):Nat),.int (ins.getD (bI true row (tags.getD t 0)) 0),.int (tags.getD lt 0),.int (tags.getD lt 0+1),.int (bI false row (tags.getD lt 0+1):Nat),.int (ins.getD (bI false row (tags.getD lt 0+1)) 0),pL (B++[(ins.getD (bI true row (tags.getD t 0)) 0,ins.getD (bI false row (tags.getD lt 0+1)) 0)])]
noncomputable def Jv:Stmt:=bt (gc vF) 1
noncomputable def qe:Expr:=(ak (aJ Jv)).a
theorem Iv:gc vF=(gc vF).take 1++(.Assign [.Name "late" (ak (bA Jv)).p] (.Subscript (.ListComp (ak qe).a [⟨(ak qe).g.target,(ak qe).g.iter,(ak qe).g.ifs,0⟩] (ak qe).s (ak qe).p) (ak (aJ Jv)).b (ak (aJ Jv)).p) (bE Jv)::(gc vF).drop 2):=by kernel_rfl
noncomputable def EK:List (Str×Nat):=[("steps",11),("number",13),("around",12)]
theorem Th:dL (ak qe).s.names gO.cells []=some EK:=by kernel_rfl
theorem Tg(h:Bool):(rH []).E gO (ak qe).g.iter (mS h)=some (.rcd "range" [.d (.int 0),.d (.int 12),.d (.int 1)],mS h):=by cases h<;>kernel_rfl
noncomputable def Ff(o:Bool)(a:Nat):D:=if o then .var a else .lst []
noncomputable def N7(h o:Bool)(a v:Nat):St:=mS h++[bS (Ff o a),Gm (if o then [("other",vv v)] else [])]
noncomputable def cL(h:Bool):aw:=km gO (ak qe).s EK (mS h)
noncomputable def kL(o p q:Bool):bK:=[(.item,[.var 2,.var 31],.var 32),(.cmp .Eq,[.var 32,.str "/"],.bool p),(.item,[.var 5,.var 31],.var 33),(.cmp .Eq,[.var 33,.var 28],.bool q),(.push,[Ff o 29,.var 31],.var 34)]
noncomputable def O4(h o p q:Bool):Option St:=ng (XH (kL o p q)) (rH (kL o p q)) (cL h) (ak qe).a (ak qe).g.target (ak qe).g.ifs 21 (.var 31) (N7 h o 29 30)
noncomputable def oL(h o x:Bool):St:=mS h++[bS (if x then .var 34 else Ff o 29),Gm [("other",vv 31)]]
theorem Tf(h o p q:Bool):O4 h o p q=some (oL h o (p&&q)):=by cases h<;>cases o<;>cases p<;>cases q<;>kernel_rfl
theorem Te(h:Bool):sd gO (ak qe).s EK (mS h)=N7 h false 29 30:=by cases h<;>kernel_rfl
inductive IL(z:BZ)(tags:List Int)(n:Int)(sp:D)(row ins out:List Int)(tn:D)(E B:List Pr)(late num:D)(t lt:Nat)(h:Bool)(r:List Nat)(en:Nat->D)(σ:St):Prop
 | mk (acc:List Nat) (oth:D) (o:Bool) (ho:o=false->acc=[]) (hh:r.length<12->o=true) (ha:acc++eN z.cs z.ar (E.length+1:Nat) r=cZ z.cs z.ar E.length) (hl:acc.length+r.length<=12) (h12:∀ k∈r,k<12) (es:σ=N7 h o 29 30) (ee:en=eD z tags n sp row ins out tn E B late num t acc oth (r.headD 0) lt)
theorem Jp(z:BZ)(tags:List Int)(n:Int)(sp:D)(row ins out:List Int)(tn:D)(E B:List Pr)(late num:D)(t lt:Nat)(h o x:Bool)(acc:List Nat)(oth:D)(k k':Nat)(ho:o=false->acc=[]) :
  bQ 23 (eD z tags n sp row ins out tn E B late num t acc oth k lt) (oL h o x) (eD z tags n sp row ins out tn E B late num t (if x=true then acc++[k] else acc) (.int k) k' lt) (N7 h true 29 30):=by
 cases o with
 | false=>
  obtain rfl:=ho rfl
  exact ⟨[],by cases h<;>kernel_rfl,by cases h<;>cases x<;>kernel_rfl⟩
 | true=>exact ⟨[],by cases h<;>kernel_rfl,by cases h<;>cases x<;>kernel_rfl⟩
section
variable{h₀:Heap}
theorem xh(b:aI h₀){z:BZ}(hz:kT z){tags:List Int}{n:Int}{sp:D}{row ins out:List Int}{tn:D}{E B:List Pr}{late num:D}{t lt:Nat}{h:Bool}{P:(Nat->D)->St->Prop}(hp:∀ oth,P (eD z tags n sp row ins out tn E B late num t (cZ z.cs z.ar E.length) oth 0 lt) (mS h++[bS (.var 29),none])) :
  sG h₀ 40 gO (ak qe).a (ak qe).g.target (ak qe).g.iter (ak qe).g.ifs (ak qe).s (eD z tags n sp row ins out tn E B late num t [] .none 0 lt) (mS h) 21 P:=by
 have ok:∀ K,aB h₀ (XH K) bz:=λ K=>b.all (fI b) K true bi
 refine ⟨XH [],bz,8,_,_,(List.range' 0 12).map λ k:Nat=> .int k,EK,λ k=>IL z tags n sp row ins out tn E B late num t lt h ((List.range' 0 12).drop k),ok [],show 8+21<=40 by decide,aD,by kernel_rfl,Tg h,by kernel_rfl,by kernel_rfl,Th,by cases h<;>kernel_rfl,?_,?_,?_⟩
 ·intro k d en σ hd hI
  obtain ⟨q,hq,e⟩:=Option.map_eq_some_iff.mp (List.getElem?_map.symm.trans hd)
  obtain ⟨hlt,e'⟩:=List.getElem?_eq_some_iff.mp hq
  rw [List.drop_eq_getElem_cons hlt,e'] at hI
  subst e
  revert hI
  generalize (List.range' 0 12).drop (k+1)=r
  intro ⟨acc,oth,o,ho,hh,ha,hl,h12,es,ee⟩
  subst es ee
  obtain ⟨hk,h12⟩:=List.forall_mem_cons.mp h12
  rw [List.length_cons,Nat.add_comm r.length,← Nat.add_assoc] at hl
  refine ⟨XH _,bz,8,.var 31,_,ok (kL o _ _),show 8+21<=40 by decide,aO.ok ⟨ez (hz.cs.symm▸hk) (Ul (Nat.le_of_lt hk) (by decide)),rfl,a7 (hz.ar.symm▸hk) (Ul (Up hz.ar) (by decide)),rfl,?_,trivial⟩,rfl,Tf h o _ _,_,_,Jp z tags n sp row ins out tn E B late num t lt h o _ acc oth q (r.headD 0) ho,_,_,true,λ e=>ft e.symm,λ _=>rfl,?_,?_,h12,rfl,rfl⟩
  ·cases o with
   | false=>obtain rfl:=ho rfl;exact aQ (Un rfl)
   | true=>exact bw (f:=nD) (Ul (Nat.le_add_right _ 1) (Ul (Nat.le_add_right _ _) (Ul hl (by decide))))
  ·rw [show eN z.cs z.ar (E.length+1:Nat) (q::r)=if ((c1 (z.cs.getD q 0) == "/")&&(z.ar.getD q 0==((E.length+1:Nat):Int)))=true then q::eN z.cs z.ar (E.length+1:Nat) r else eN z.cs z.ar (E.length+1:Nat) r from rfl] at ha
   show (if ((c1 (z.cs.getD q 0) == "/")&&(z.ar.getD q 0==((E.length+1:Nat):Int)))=true then _ else _)++_=_
   split at ha
   ·rename_i hx;rw [if_pos hx];exact (List.append_assoc ..).trans ha
   ·rename_i hx;rw [if_neg hx];exact ha
  ·show (if ((c1 (z.cs.getD q 0) == "/")&&(z.ar.getD q 0==((E.length+1:Nat):Int)))=true then _ else _:List Nat).length+_<=_
   split
   ·rw [List.length_append];exact hl
   ·exact Ul (Nat.add_le_add_right (Nat.le_add_right _ 1) _) hl
 ·intro en σ hI
  revert hI
  intro ⟨acc,oth,o,ho,hh,ha,hl,h12,es,ee⟩
  obtain rfl:=hh (by decide)
  rw [show eN z.cs z.ar (E.length+1:Nat) ((List.range' 0 12).drop ((List.range' 0 12).map λ k:Nat=>D.int k).length)=[] from rfl,List.append_nil] at ha
  subst es ee ha
  exact ⟨⟨⟨.type "dict",none,.dict []⟩,[("other",vv 30)],by cases h<;>kernel_rfl⟩,by cases h<;>exact hp oth⟩
 ·exact ⟨[],.none,false,λ _=>rfl,λ h=>absurd h (Nat.lt_irrefl _),rfl,Nat.le_refl _,by decide,Te h,rfl⟩
end
noncomputable def Kr(h:Bool):St:=mS h++[bS (.var 29),none]
noncomputable def kS:bK:=[(.item,[.var 29,.int 0],.var 35)]
theorem Td(h:Bool):(rH kS).E gO (ak (aJ Jv)).b (Kr h)=some (.d (.int 0),Kr h):=by cases h<;>kernel_rfl
theorem Tc(h:Bool):CJ (XH kS) (.ref 21) (.d (.int 0)) (Kr h)=some (vv 35):=by cases h<;>kernel_rfl
noncomputable def N8(e r:D):St:=Ks true (gk (vv 28)) 25 35 e r++[bS (.var 29),none]
theorem Ta(h:Bool):aS gO "late" (vv 35) (Kr h)=some (N8 (.var 21) (.var 22)):=by cases h<;>kernel_rfl
noncomputable def kE:bK:=[(.item,[.var 5,.var 25],.var 36),(.push,[.var 21,.tup [.var 28,.var 36]],.var 37),(.item,[.var 15,.var 25],.var 38),(.fn 77,[.var 17,.var 38],.var 39),(.isI,[.var 39],.none),(.item,[.var 18,.var 39],.var 40),(.item,[.var 15,.var 35],.var 41),(.bin .Add,[.var 41,.int 1],.var 42),(.fn 86,[.var 17,.var 42],.var 43),(.isI,[.var 43],.none),(.item,[.var 18,.var 43],.var 44),(.push,[.var 22,.tup [.var 40,.var 44]],.var 45)]
theorem Pb:((af (rH kE) gO ((gc vF).drop 2) (N8 (.var 21) (.var 22))).map λ p=>(p.1,p.2.take 23))=some (.next,N8 (.var 37) (.var 45)):=by kernel_rfl
section
variable{h₀:Heap}{G:Heap->Prop}{N:Nat}{c:aw}{en:Nat->D}{σ:St}{P:bZ}
theorem TF.asgN{x:Str}{tp p:Pos}{e:Expr}(hc:fH e=false)(h:TV h₀ G N c (eval e) en σ λ v en' σ'=>∃ σ'',aS c x v σ'=some σ''∧P .next en' σ''):TF h₀ G N c (exec (.Assign [.Name x tp] e p)) en σ P:= .mk λ W A s a=>
 wpAny_Assign_Name (aC (h.ap W A s a) λ z ac ⟨ab,v,W₁,σ₁,g,l,rv,ax,σ'',hst,hp⟩=>a.env l▸bv ax (a.ok.lf l) hst rv λ h' tk aG=>⟨_,.next,W₁,σ'',g,l,trivial,aG,hp⟩) (bq hc)
theorem TF.endT{X:Cx}{H:Hk}(ok:aB h₀ X H){M:Nat}(hM:M+X.need<=N){ts:List Stmt}{f:Fl}{bJ:St}(n:Nat)(k:cx X.K X.O en)(e:(af (cy X H M) c ts σ).map (λ p=>(p.1,p.2.take n))=some (f,bJ))(h:∀ τ,P f en (bJ++τ)):TF h₀ (Eq h₀) N c (execs ts) en σ P:=by
 obtain ⟨⟨f',σ'⟩,h1,h2⟩:=Option.map_eq_some_iff.mp e
 obtain ⟨e1,e2⟩:=Prod.mk.inj h2
 subst e1
 exact TF.run ok hM k h1 (List.take_append_drop n σ'▸e2▸h (σ'.drop n))
end
noncomputable def vS(cs:List Nat)(ar tags row ins:List Int):List Nat->List Pr->List Pr->Option (List Pr×List Pr)
 | [],E,B=>some (E,B)
 | t::r,E,B=>if (c1 (cs.getD t 0) == "b")=true then (if (!(cZ cs ar E.length).isEmpty&&(decide (bI true row (tags.getD t 0)<ins.length)&&decide (bI false row (tags.getD ((cZ cs ar E.length).headD 0) 0+1)<ins.length)))=true then vS cs ar tags row ins r (E++[(((E.length+1:Nat):Int),ar.getD t 0)]) (B++[(ins.getD (bI true row (tags.getD t 0)) 0,ins.getD (bI false row (tags.getD ((cZ cs ar E.length).headD 0) 0+1)) 0)]) else none) else vS cs ar tags row ins r E B
theorem rX(cs:List Nat)(ar tags row ins:List Int)(t:Nat)(r:List Nat)(E B:List Pr):vS cs ar tags row ins (t::r) E B=if (c1 (cs.getD t 0) == "b")=true then (if (!(cZ cs ar E.length).isEmpty&&(decide (bI true row (tags.getD t 0)<ins.length)&&decide (bI false row (tags.getD ((cZ cs ar E.length).headD 0) 0+1)<ins.length)))=true then vS cs ar tags row ins r (E++[(((E.length+1:Nat):Int),ar.getD t 0)]) (B++[(ins.getD (bI true row (tags.getD t 0)) 0,ins.getD (bI false row (tags.getD ((cZ cs ar E.length).headD 0) 0+1)) 0)]) else none) else vS cs ar tags row ins r E B:=rfl
theorem Jq(z:BZ)(tags:List Int)(n:Int)(sp:D)(row ins out:List Int)(tn:D)(E B:List Pr)(late num:D)(t:Nat)(acc:List Nat)(oth:D)(o lt t' lt':Nat)(τ:St) :
  bQ 21 (eD z tags n sp row ins out tn E B late num t acc oth o lt) (N8 (.var 37) (.var 45)++τ) (eD z tags n sp row ins out (.int t) (E++[(((E.length+1:Nat):Int),z.ar.getD t 0)]) (B++[(ins.getD (bI true row (tags.getD t 0)) 0,ins.getD (bI false row (tags.getD lt 0+1)) 0)]) (.int lt) (.int (E.length+1:Nat)) t' [] .none 0 lt') (iU true 20):=⟨[],by kernel_rfl,by kernel_rfl⟩
section
variable{h₀:Heap}
theorem xy{ds:List D}{d:D}(h:xQ false ds=some d):av (mO Cn) (.fn 86) ds=some d:=h
theorem sk(r:Bool){row:List Int}{x:Int}(h:row.length<=1000):xQ r [iL row,.int x]=some (.int (bI r row x:Nat)):=by
 show ((cD (row.map .int)).bind _).or _=_
 rw [dW]
 exact congrArg (λ o:Option D=>o.or _) (if_pos h)
end
noncomputable abbrev Qx(z:BZ)(tags:List Int)(n:Int)(sp:D)(row ins out:List Int)(tn:D)(E B:List Pr)(late num:D)(t:Nat):Nat->D:=eD z tags n sp row ins out tn E B late num t [] .none 0 ((cZ z.cs z.ar E.length).headD 0)
inductive IE(z:BZ)(tags:List Int)(n:Int)(sp:D)(row ins out:List Int)(S:List Pr×List Pr)(r:List Nat)(en:Nat->D)(σ:St):Prop
 | mk (tn:D) (E B:List Pr) (late num:D) (h:Bool) (hS:vS z.cs z.ar tags row ins r E B=some S) (hE:E.length+r.length<=12) (hB:B.length+r.length<=12) (h12:∀ t∈r,t<12) (es:σ=iU h 20) (ee:en=Qx z tags n sp row ins out tn E B late num (r.headD 0))
theorem tR{cs:List Nat}{ar:List Int}{m:Int}{o:Nat}{r:List Nat}:eN cs ar m (o::r)=if ((c1 (cs.getD o 0) == "/")&&(ar.getD o 0==m))=true then o::eN cs ar m r else eN cs ar m r:=rfl
theorem Au{cs:List Nat}{ar:List Int}{m:Int}(r:List Nat)(h:∀ o∈r,o<12):∀ o∈eN cs ar m r,o<12:=by
 induction r with
 | nil=>exact λ o ho=>nm ho
 | cons a r ih=>
  obtain ⟨h0,h⟩:=List.forall_mem_cons.mp h
  rw [tR]
  split
  ·exact List.forall_mem_cons.mpr ⟨h0,ih h⟩
  ·exact ih h
theorem DL{α:Type}{f:α->D}{O:eI}{T:List α}(h:T.length<=1000):av O .len [.lst (T.map f)]=some (.int T.length):=gH ((if_pos (by rw [List.length_map];exact Ul h (by decide))).trans (congrArg some (List.length_map ..)))
section
variable{h₀:Heap}
theorem TV.mono{G:Heap->Prop}{N:Nat}{c:aw}{en:Nat->D}{σ:St}{t:Env->Sem Value}{P Q:fu}(h:TV h₀ G N c t en σ P)(k:∀ v en σ,P v en σ->Q v en σ):TV h₀ G N c t en σ Q:= .mk λ W A s a=>aC (h.ap W A s a) λ x s' ⟨h,v,W',σ',g,l,r,R,p⟩=>⟨h,v,W',σ',g,l,r,R,k _ _ _ p⟩
theorem Ex(b:aI h₀){z:BZ}(hz:kT z){tags row ins out:List Int}{n:Int}{sp:D}{S:List Pr×List Pr}(ht:tags.length=12)(hr:row.length<=1000)(hi:ins.length<=1000){P:bZ}{t:Nat}{r:List Nat}{en:Nat->D}{σ:St}(hI:IE z tags n sp row ins out S (t::r) en σ) :
  dG h₀ 40 21 gO (bA m9) (a9 m9) (IE z tags n sp row ins out S r) P (.int t) en σ:=by
 have ok:∀ K,aB h₀ (XH K) bz:=λ K=>b.all (fI b) K true bi
 obtain ⟨tn,E,B,late,num,h,hS,hE,hB,h12,es,ee⟩:=hI
 subst es ee
 obtain ⟨h0,h12⟩:=List.forall_mem_cons.mp h12
 rw [List.length_cons,Nat.add_comm r.length,← Nat.add_assoc] at hE hB
 have f0:av (mO Cn) .item [.str ⟨z.cs.toArray⟩,.int t]=some (.str (c1 (z.cs.getD t 0))):=ez (hz.cs.symm▸h0) (Ul (Nat.le_of_lt h0) (by decide))
 refine ⟨XH [],bz,8,.var 25,_,ok [],show 8+21<=40 by decide,aD,rfl,Tj h,?_⟩
 rw [Es]
 rw [rX] at hS
 cases hp:c1 (z.cs.getD t 0) == "b" with
 | false=>
  rw [hp] at hS
  refine TF.cons (G₁:=Eq h₀) (TF.iteR (ok (P4 false)) (M:=8) (show 8+21<=40 by decide) (aO.ok ⟨f0,congrArg (λ b=>some (D.bool b)) hp,trivial⟩) (Ri h false) ?_)
  show TF h₀ (Eq h₀) 40 gO (execs (xn vF)) _ _ _
  rw [HP]
  exact TF.nil λ ab e=>e▸TF.nil ⟨Qx z tags n sp row ins out (.int t) E B late num (r.headD 0),iU h 20,⟨[],by cases h<;>kernel_rfl,by cases h<;>kernel_rfl⟩,_,_,_,_,_,h,hS,Ul (Nat.add_le_add_right (Nat.le_add_right _ 1) _) hE,Ul (Nat.add_le_add_right (Nat.le_add_right _ 1) _) hB,h12,rfl,rfl⟩
 | true=>
  rw [hp] at hS
  have hS:=(show (if _ then _ else none)=some S from hS)
  split at hS
  ·rename_i hc
   obtain ⟨hc1,hc⟩:=Um.mp hc
   obtain ⟨hc2,hc3⟩:=Um.mp hc
   have hE':E.length<=1000:=Ul (Nat.le_add_right _ 1) (Ul (Nat.le_add_right _ _) (Ul hE (by decide)))
   have hB':B.length<=1000:=Ul (Nat.le_add_right _ 1) (Ul (Nat.le_add_right _ _) (Ul hB (by decide)))
   refine TF.cons (G₁:=Eq h₀) (TF.iteR (ok (P4 true)) (M:=8) (show 8+21<=40 by decide) (aO.ok ⟨f0,congrArg (λ b=>some (D.bool b)) hp,trivial⟩) (Ri h true) ?_)
   show TF h₀ (Eq h₀) 40 gO (execs (gc vF)) _ _ _
   rw [Iv]
   refine TF.runs (ok RM) (M:=8) (show 8+21<=40 by decide) _ (aO.ok ⟨DL (f:=pD) hE',rfl,trivial⟩) (Ti h) ?_
   refine TF.cons (G₁:=Eq h₀) (TF.asgN (by kernel_rfl) (TV.sub ((TV.comp (xh (P:=B6 h₀ 40 gO (ak (aJ Jv)).b _ (.ref 21)) b hz λ oth=>?_)).mono λ v en σ ⟨ev,p⟩=>ev▸p)))
   have hl:(cZ z.cs z.ar E.length)[0]?=some ((cZ z.cs z.ar E.length).headD 0)∧(cZ z.cs z.ar E.length).headD 0<12:=by
    have h12:∀ o∈cZ z.cs z.ar E.length,o<12:=Au (List.range' 0 12) (by decide)
    revert hc1 h12
    generalize cZ z.cs z.ar E.length=L
    intro hc1 h12
    cases L with
    | nil=>exact ft hc1
    | cons a L=>exact ⟨rfl,h12 a (.head _)⟩
   refine ⟨XH kS,bz,8,.d (.int 0),vv 35,Kr h,ok kS,show 8+21<=40 by decide,aO.ok ⟨fg (f:=nD) hl.1 (by decide),trivial⟩,Td h,Tc h,_,Ta h,λ ab e=>e▸?_⟩
   have ha':z.ar.length<=1000:=Ul (Up hz.ar) (by decide)
   have ht':tags.length<=1000:=Ul (Up ht) (by decide)
   exact TF.endT (ok kE) (M:=8) (show 8+21<=40 by decide) 23 (aO.ok ⟨a7 (hz.ar.symm▸h0) ha',bw (f:=pD) (x:=(_,_)) hE',a7 (ht.symm▸h0) ht',nT (sk true hr),rfl,a7 (of_decide_eq_true hc2) hi,a7 (ht.symm▸hl.2) ht',rfl,xy (sk false hr),rfl,a7 (of_decide_eq_true hc3) hi,bw (f:=pD) (x:=(_,_)) hB',trivial⟩) Pb
    λ τ=>λ ab e=>e▸TF.nil ⟨_,_,Jq ..,_,_,_,_,_,true,hS,by rw [List.length_append];exact hE,by rw [List.length_append];exact hB,h12,rfl,rfl⟩
  ·exact ns hS
end
noncomputable abbrev Di(z:BZ):List Int:=eJ (cz z.cs 0) [z.l0,z.f0,z.l1,z.f1,z.l2,z.f2]
structure p8(z:BZ)(I:List Int×List Int)(S:List Pr×List Pr):Prop where
 i:gL z.cs z.la (List.range' 0 12) [0] []=some I
 e:vS z.cs z.ar (cz z.cs 0) (Di z) I.1 (List.range' 0 12) [] []=some S
 ht:(cz z.cs 0).length=12
 hi:I.1.length<=1000
 ho:I.2.length=3
 h1:S.1.length<=900
 h2:S.2.length<=900
noncomputable abbrev SD(z:BZ)(E:List Pr):List Pr:=E++[(z.ar.getD z.f0 0,z.ar.getD z.l0 0)]
noncomputable abbrev SA(z:BZ)(E:List Pr):List Pr:=SD z E++[(z.ar.getD z.f1 0,z.ar.getD z.l1 0)]
noncomputable abbrev JE(z:BZ)(E:List Pr):List Pr:=SA z E++[(z.ar.getD z.f2 0,z.ar.getD z.l2 0)]
noncomputable abbrev SL(o:List Int)(B:List Pr):List Pr:=B++[(1,o.getD 0 0)]
noncomputable abbrev SK(o:List Int)(B:List Pr):List Pr:=SL o B++[(2,o.getD 1 0)]
noncomputable abbrev JJ(o:List Int)(B:List Pr):List Pr:=SK o B++[(3,o.getD 2 0)]
noncomputable def eZ(z:BZ)(tags:List Int)(n:Int)(sp:D)(row ins out:List Int)(tn:D)(E B:List Pr)(late num:D):Nat->D:=
 Bk z tags n sp row ins out [tn,pL E,pL B,late,num,.int (z.ar.getD z.f0 0),.int (z.ar.getD z.l0 0),pL (SD z E),.int (out.getD 0 0),pL (SL out B),.int (z.ar.getD z.f1 0),.int (z.ar.getD z.l1 0),pL (SA z E),.int (out.getD 1 0),pL (SK out B),.int (z.ar.getD z.f2 0),.int (z.ar.getD z.l2 0),pL (JE z E),.int (out.getD 2 0),pL (JJ out B)]
noncomputable def kM(j vf vl a e r:Nat):bK:=[(.item,[MT,.int j],.tup [.var vf,.var vl]),(.item,[.tup [.var vf,.var vl],.int 0],.var vf),(.item,[.tup [.var vf,.var vl],.int 1],.var vl),(.item,[.var 5,.var vf],.var a),(.item,[.var 5,.var vl],.var (a+1)),(.push,[.var e,.tup [.var a,.var (a+1)]],.var (a+2)),(.item,[.var 19,.int j],.var (a+3)),(.push,[.var r,.tup [.int (j+1:Nat),.var (a+3)]],.var (a+4))]
noncomputable def RI:bK:=kM 0 8 9 25 21 22++(kM 1 10 11 30 27 29++kM 2 12 13 35 32 34)
noncomputable def N3(h:Bool):St:=Ks h (gk (.d (.int 2))) 20 23 (.var 37) (.var 39)
theorem rZ(h:Bool):af (cy (XH RI) bz 14) gO (kQ.drop 12) (iU h 20)=some (.ret (.tup [.ref 19,.ref 20]),N3 h):=by cases h<;>kernel_rfl
inductive NP(z:BZ)(I:List Int×List Int)(S:List Pr×List Pr)(v:V)(en:Nat->D)(σ:St):Prop
 | mk (n:Int) (sp tn late num:D) (h:Bool) (ev:v= .tup [.ref 19,.ref 20]) (es:σ=N3 h) (ee:en=eZ z.up (cz z.cs 0) n sp (Di z) I.1 I.2 tn S.1 S.2 late num)
section
variable{h₀:Heap}
theorem TF.mono{G:Heap->Prop}{N:Nat}{c:aw}{en:Nat->D}{σ:St}{t:Env->Sem Flow}{P Q:bZ}(h:TF h₀ G N c t en σ P)(k:∀ f en σ,P f en σ->Q f en σ):TF h₀ G N c t en σ Q:= .mk λ W A s a=>aC (h.ap W A s a) λ x s' ⟨h,f,W',σ',g,l,r,R,p⟩=>⟨h,f,W',σ',g,l,r,R,k _ _ _ p⟩
theorem yu(b:aI h₀){z:BZ}(hz:kT z){tags row ins out:List Int}{n:Int}{sp tn:D}{S:List Pr×List Pr}(ht:tags.length=12)(hr:row.length<=1000)(hi:ins.length<=1000)(hS:vS z.cs z.ar tags row ins (List.range' 0 12) [] []=some S){P:bZ}
  (h:∀ tn late num hb,TF h₀ (Eq h₀) 40 gO (execs (kQ.drop 12)) (eZ z tags n sp row ins out tn S.1 S.2 late num) (iU hb 20) P):TF h₀ (Eq h₀) 40 gO (execs (kQ.drop 9)) (ue z tags n sp row ins out tn 0) (wD true 7 17 18 19 20) P:=by
 have ok:∀ K,aB h₀ (XH K) bz:=λ K=>b.all (fI b) K true bi
 rw [Nd]
 refine TF.runs (ok []) (M:=8) (show 8+21<=40 by decide) ((kQ.drop 9).take 2) aD Tl (TF.re (en':=Qx z tags n sp row ins out tn [] [] .none .none 0) (σ':=iU false 20) ⟨[],by kernel_rfl,by kernel_rfl⟩ ?_)
 refine TF.cons (G₁:=Eq h₀) (TF.forL nD (ok []) (M:=8) (show 8+21<=40 by decide) (by kernel_rfl) aD (Tk false) (List.range' 0 12) (by kernel_rfl) (by kernel_rfl) (IE z tags n sp row ins out S) (λ t r en σ hI=>Ex b hz ht hr hi hI) ?_ ⟨tn,[],[],.none,.none,false,hS,Nat.le_refl _,Nat.le_refl _,by decide,rfl,rfl⟩)
 intro en σ ⟨tn,E,B,late,num,hb,hS,_,_,_,es,ee⟩
 obtain rfl:=Option.some.inj hS
 subst es ee
 exact λ ab e=>e▸TF.re ⟨[],by cases hb<;>kernel_rfl,by cases hb<;>kernel_rfl⟩ (h tn late num hb)
theorem wx(b:aI h₀){z:BZ}(hz:kT z){tags row ins out:List Int}{n:Int}{sp tn:D}{E B:List Pr}{late num:D}{hb:Bool}(ho:out.length=3)(h1:E.length<=900)(h2:B.length<=900) :
  TF h₀ (Eq h₀) 40 gO (execs (kQ.drop 12)) (eZ z tags n sp row ins out tn E B late num) (iU hb 20) λ f en' σ'=>f= .ret (.tup [.ref 19,.ref 20])∧en'=eZ z tags n sp row ins out tn E B late num∧σ'=N3 hb:=by
 have ok:∀ K,aB h₀ (XH K) bz:=λ K=>b.all (fI b) K true bi
 have ha:z.ar.length<=1000:=Ul (Up hz.ar) (by decide)
 have ho':out.length<=1000:=Ul (Up ho) (by decide)
 have hA:∀ {f:Nat} {O:eI},f<12->av O .item [iL z.ar,.int f]=some (.int (z.ar.getD f 0)):=λ h=>a7 (hz.ar.symm▸h) ha
 have hO:∀ {f:Nat} {O:eI},f<3->av O .item [iL out,.int f]=some (.int (out.getD f 0)):=λ h=>a7 (ho.symm▸h) ho'
 have hP:∀ {L:List Pr} {x y:Int} {O:eI},L.length<=1000->av O .push [pL L,.tup [.int x,.int y]]=some (pL (L++[(x,y)])):=λ h=>bw (f:=pD) (x:=(_,_)) h
 have hL:∀ {L:List Pr} {x:Pr} {n:Nat},L.length+1<=n->(L++[x]).length<=n:=λ h=>List.length_append.symm▸h
 exact TF.run (ok RI) (M:=14) (show 14+21<=40 by decide) (aO.ok ⟨rfl,rfl,rfl,hA hz.f0,hA hz.l0,hP (Ul h1 (by decide)),hO (by decide),hP (Ul h2 (by decide)),rfl,rfl,rfl,hA hz.f1,hA hz.l1,hP (hL (Nat.succ_le_succ (Ul h1 (by decide)))),hO (by decide),hP (hL (Nat.succ_le_succ (Ul h2 (by decide)))),
  rfl,rfl,rfl,hA hz.f2,hA hz.l2,hP (hL (Nat.succ_le_succ (hL (Nat.succ_le_succ (Ul h1 (by decide)))))),hO (by decide),hP (hL (Nat.succ_le_succ (hL (Nat.succ_le_succ (Ul h2 (by decide)))))),trivial⟩) (rZ hb) ⟨rfl,rfl,rfl⟩
theorem OW(b:aI h₀){z:BZ}(hz:kT z)(hu:kT z.up){I:List Int×List Int}{S:List Pr×List Pr}(hT:p8 z I S):TC h₀ (Eq h₀) 41 249 [vv 2,.ref 6,.ref 9,.ref 8] (rY z 0 [] .none (z.cs.headD 0)) (bs 7 []) (NP z I S):=by
 refine TC.def (X:=gX) (fd:=(fi 249).get!) (body:=am 249) (b:=[("steps",vv 2),("around",.ref 6),("mates",.ref 9),("given",.ref 8)]) b.G b.D (by kernel_rfl) (by kernel_rfl) (by kernel_rfl) (by kernel_rfl) (σ₁:=bs 7 (rS []::G1 [])) (by kernel_rfl) ?_
 refine ww b hz λ n sp=>TF.re (en':=IY z (cz z.cs 0) n sp) (σ':=yH true) ⟨[],by kernel_rfl,by kernel_rfl⟩ (yq b hz hT.ht (TF.re (en':=ue z.up (cz z.cs 0) n sp (Di z) [0] [] .none 0) (σ':=wD false 7 17 18 19 20) ⟨[],by kernel_rfl,by kernel_rfl⟩ (qv b hu hT.i λ tn=>yu b hu hT.ht (Ul (Up (lO ..)) (Un rfl)) hT.hi hT.e λ tn late num hb=>TF.mono (wx b hu hT.ho hT.h1 hT.h2) λ f en' σ' q=>⟨n,sp,tn,late,num,hb,q.1▸rfl,q.2.2,q.2.1⟩)))
end
theorem Bj:entryFor table "proto.yield_from" = some Builtin.«proto.yield_from»:=entryFor_of_fast (by kernel_rfl)
noncomputable abbrev wb(it:Addr):Code:= .builtin "proto.yield_from" ⟨[.ref it,.bool false,.none],[]⟩
theorem r5{id:String}{args:Args}{b:Builtin}(hb:entryFor table id=some b):denote table (.builtin id args)=b args:=by
 show (match entryFor table id with | some b=>b args | none=>unsupported ((withoutEnding? id "#data").getD id))=_
 rw [hb]
theorem Bn(it:Addr):denote table (wb it)=Builtin.«proto.yield_from» ⟨[.ref it,.bool false,.none],[]⟩:=r5 Bj
theorem ja:typeLookup (.type "list_iterator") "close" = pure none:=by rw [typeLookup_type,builtinLookup_eq_fast];kernel_rfl
noncomputable abbrev AF(h:Heap)(it:Addr)(i:Nat):Heap:=h.update it (Obj.mapFields λ vs=>vs.setIfInBounds 1 (rawInt ((i:Int)+1)))
section
variable{A:Around}{c:Code}{fs:List Frame}{P:End->Shared->Prop}{s:Shared}{it l:Addr}{i:Nat}{items:Array Value}{env:Env}
 {K:Flow->Sem PySem.Fin} {H:Value->Sem PySem.Fin} {gd:Bool->Bool} {lv:List Value->List Value}
theorem j8{M:Model}{a:Addr}{o:Obj}{b:Bool}{E:Value->Shared->Prop}{Q:Unit->Shared->Prop}(ho:s.heap.get? a=some o)(hc:o.cls= .type "list_iterator")(h:Q () s):wpAny M A (Builtin.Generator.sleptOver (.ref a) b) Q E s:=by
 unfold Builtin.Generator.sleptOver
 refine Uj (wpAny_load ho ?_)
 rw [if_pos (by rw [hc];decide)]
 exact Uk h
theorem sQ{x:Value}(hit:s.heap.IsListIter it l i)(hl:s.heap.IsList l items)(hx:items[i]?=some x)(hfs:splitAtGen fs=none)(hfg:fs.any Frame.guarded=false)
  (hP:(AF s.heap it i).IsListIter it l (i+1)->∀ (k:Resume->Sem PySem.Fin) (p:Pos),
   (∀ (s'':Shared) (P'':End->Shared->Prop) o,s''.heap.get? it=some o->o.cls= .type "list_iterator" -> SX (model prog w) A (wb it) (denote table (wb it)) fs s'' P''->SX (model prog w) A (wb it) (k (.send .none)) fs s'' P'') ->
   P (.susp x false [] k (wb it) p fs) { s with heap:=AF s.heap it i }) :
  SX (model prog w) A (wb it) (denote table (wb it)) fs s P:=by
 obtain ⟨o,ho,hc,hd⟩:=id hit
 obtain ⟨ol,hol,_,nl,hdl⟩:=hl
 rw [Bn]
 unfold Builtin.«proto.yield_from»
 refine ce (Uk (ce (wpAny_attempt ?_)))
 refine Uo ?_
 rw [if_neg Bool.false_ne_true,if_pos (show (Value.none==Value.none)=true from rfl)]
 refine Uj (wpAny_rule (Uj (wpAny_callSpecial?_slot (name:=Str.ofString "__next__") hit.typeIs slot_listiter_next
  (wpAny_call_entry slot_listiter_next hit.typeIs entry_listiter_next ?_ (args_listiter_next _)))))
 show wpAny _ _ (field (.ref it) 0>>=_) _ _ s
 refine Uj (wpAny_field ho hd (x:= .ref l) rfl ?_)
 show wpAny _ _ (if (Value.ref l==Value.none)=true then _ else _) _ _ s
 rw [if_neg (show ¬ ((Value.ref l==Value.none)=true) from Bool.false_ne_true)]
 show wpAny _ _ (field (.ref it) 1>>=_) _ _ s
 refine Uj (wpAny_field ho hd (x:= .int i 0) rfl ?_)
 show wpAny _ _ (seqItems? (.ref l)>>=_) _ _ s
 refine Uj (wpAny_seqItems hol hdl ?_)
 dsimp only
 rw [Int.toNat_natCast,hx]
 refine Uj (wpAny_setField ho hd (Un rfl) (Uk ⟨x,rfl,Uk ?_⟩))
 have ho':(AF s.heap it i).get? it=some _:=Heap.get?_update_self _ ho (Obj.isFreed_of_fields (Obj.data_mapFields hd _))
 have hcls:(Obj.mapFields (λ vs=>vs.setIfInBounds 1 (rawInt ((i:Int)+1))) o).cls= .type "list_iterator" := (Obj.cls_mapFields ..).trans hc
 refine ce (wpAny_typeOf (T := "list_iterator") (show Shared.TypeIs { s with heap:=AF s.heap it i } (.ref it) _ from ⟨_,ho',hcls⟩) (ce (wpAny_of_eq ja (ce (Uk (ce (j8 ho' hcls ?_)))))))
 exact X.s_yield _ _ _ _ _ _ _ _ _ _ hfs hfg λ p=>hP ⟨_,ho',hcls,Obj.data_mapFields hd _⟩ _ p λ s'' P'' o2 ho2 hc2 hs=>
  ce (Uk (ce (j8 ho2 hc2 (ce (Uk (X.s_again _ _ _ _ _ _ _ _ (Code.quiet_builtin _ (by decide +kernel)) hs))))))
theorem wz(hh:(A.over (wb it) fs).handled=none)(hit:s.heap.IsListIter it l i)(hl:s.heap.IsList l items)(hx:items[i]?=none)
  (hP:∀ h',Heap.ExtBut it s.heap h'->s.heap.objs.size<=h'.objs.size->SX (model prog w) A (wb it) (leafOf (.ok (.ret .none))) fs { s with heap:=h' } P) :
  SX (model prog w) A (wb it) (denote table (wb it)) fs s P:=by
 obtain ⟨o,ho,hc,hd⟩:=id hit
 obtain ⟨ol,hol,_,nl,hdl⟩:=hl
 rw [Bn]
 unfold Builtin.«proto.yield_from»
 refine ce (Uk (ce (wpAny_attempt ?_)))
 refine Uo ?_
 rw [if_neg Bool.false_ne_true,if_pos (show (Value.none==Value.none)=true from rfl)]
 refine Uj (wpAny_rule (Uj (wpAny_callSpecial?_slot (name:=Str.ofString "__next__") hit.typeIs slot_listiter_next
  (wpAny_call_entry slot_listiter_next hit.typeIs entry_listiter_next ?_ (args_listiter_next _)))))
 show wpAny _ _ (field (.ref it) 0>>=_) _ _ s
 refine Uj (wpAny_field ho hd (x:= .ref l) rfl ?_)
 show wpAny _ _ (if (Value.ref l==Value.none)=true then _ else _) _ _ s
 rw [if_neg (show ¬ ((Value.ref l==Value.none)=true) from Bool.false_ne_true)]
 show wpAny _ _ (field (.ref it) 1>>=_) _ _ s
 refine Uj (wpAny_field ho hd (x:= .int i 0) rfl ?_)
 show wpAny _ _ (seqItems? (.ref l)>>=_) _ _ s
 refine Uj (wpAny_seqItems hol hdl ?_)
 dsimp only
 rw [Int.toNat_natCast,hx]
 refine Uj (wpAny_rule (Uj (wpAny_setField ho hd (Un rfl) ?_)))
 show wpAny _ _ (newExc (.type "StopIteration") []>>=_) _ _ _
 refine Uj (iT λ h' e st=>?_)
 obtain ⟨oe,t,hoe,hce,hde,hk,hz⟩:=st
 refine Uj (wpAny_handled ?_)
 rw [show (A.over (wb it) fs).in1.handled=none from hh]
 refine Uj (Uk (wpAny_throw (ce (Uj (Uj (wpAny_typeOf (T := "StopIteration") (show Shared.TypeIs { s with heap:=h' } (.ref e) _ from ⟨_,hoe,hce⟩) ?_))))))
 refine Uj (wpAny_of_eq isSubtype_stop ?_)
 refine Uj (wpAny_of_eq (show typeOf (.type "StopIteration")=pure (.type "type") from rfl) ?_)
 refine Uk (Uk ?_)
 rw [if_pos rfl,if_neg Bool.false_ne_true]
 refine ce (wpAny_rule (ce (wpAny_field hoe hde (x:= .none) rfl (hP _ (λ b o hb ho'=>hk b o ((Heap.SameBut.update ..).extBut b o hb ho')) (Ul (Up (Heap.size_update ..).symm) hz)))))
theorem sR{e:Expr}{yp sp:Pos}
  (h:wpAny (model prog w) (A.over c fs) (eval e env) (λ v ac=>ac.TypeIs v "list" ∧ wpAny (model prog w) (A.over c fs) (pyIter v) (λ x az=>∀ (k:Result->Sem PySem.Fin) (p:Pos),
    (∀ (s':Shared) (P':End->Shared->Prop),SX (model prog w) A c (K .next) fs s' P'->SX (model prog w) A c (k (.ok (.ret .none))) fs s' P') ->
    SX (model prog w) A (.builtin "proto.yield_from" ⟨[x,.bool false,.none],[]⟩) (denote table (.builtin "proto.yield_from" ⟨[x,.bool false,.none],[]⟩)) (.ret k none (gd false) (lv []) c p []::fs) az P) ah ac) ah s)
  (hi:interactive env=false:=by rfl):SX (model prog w) A c ((exec (.Expr (.YieldFrom e yp) sp) env).wrap K H gd lv) fs s P:=by
 rw [exec_Expr env _ sp hi rfl]
 refine bT (wpAny_standAt ?_)
 rw [arm_eval_YieldFrom]
 simp only [bind_assoc]
 refine bT (aC h λ v ac ⟨hT,q⟩=>bT (wpAny_standAt ?_))
 unfold yieldFrom
 simp only [bind_assoc]
 refine bT (wpAny_typeOf hT ?_)
 rw [if_neg (by decide)]
 simp only [bind_assoc]
 exact bT (Uo (aC q λ x az jK=>X.s_call _ _ _ _ _ _ _ _ _ _ _ _ λ p'=>jK _ p' λ s' _ hs=>hs))
end
noncomputable def bN:List Stmt:=am 123
noncomputable def fN:Stmt:=bt bN 0
noncomputable def iN:Stmt:=bt (a9 fN) 0
noncomputable def yN:Stmt:=bt (gc iN) 0
noncomputable abbrev PQ:Pos:=(ak (bA fN)).p
noncomputable def iu:FuncData:=(fi 123).get (by kernel_rfl)
noncomputable def cN:aw:=(bC iu 123 []).1
noncomputable abbrev xF(L:Addr):Env:=cN.env [L]
theorem se:cN.Ok 1:=⟨Nat.zero_lt_one,Nat.zero_lt_one,λ p hp=>nm ((show cN.cells=[] by kernel_rfl)▸hp),by kernel_rfl,by kernel_rfl⟩
theorem MW:cN.fr=0:=by kernel_rfl
theorem M6:bN=[.For (.Name "namespaces" PQ) (.Call (.Name "_reversed" (ak (ak (aJ fN)).a).p) [.Name "ns_stack" (ak ((ak (aJ fN)).l.headD (.Name "" PQ))).p] [] (ak (aJ fN)).p) (a9 fN) [] (bE fN)]:=by kernel_rfl
theorem Mz:a9 fN=[.If (.Name "namespaces" (ak (mn iN)).p) (gc iN) [] (bE iN)]:=by kernel_rfl
theorem L5:gc iN=[.Expr (.YieldFrom (.Name "namespaces" (ak (ak (aJ yN)).a).p) (ak (aJ yN)).p) (bE yN)]:=by kernel_rfl
noncomputable def mN(sv:Value)(LA:Addr)(o:Option Addr):List (Str×V):=("self",V.glob sv)::("ns_stack",V.glob (.ref LA))::("_reversed",V.glob (.type "reversed"))::o.toList.map λ a=>("namespaces",V.glob (.ref a))
theorem lN(sv:Value)(LA:Addr)(o:Option Addr):x8 (mN sv LA o)=true:=by cases o<;>rfl
theorem Ia(sv:Value)(LA:Addr)(o:Option Addr)(a:Addr):jJ (mN sv LA o) "namespaces" (.glob (.ref a))=mN sv LA (some a):=by cases o<;>kernel_rfl
theorem FN(sv:Value)(LA a:Addr):aX gX.glob cN "namespaces" (gS (mN sv LA (some a)))=some (.glob (.ref a)):=by kernel_rfl
theorem Lm(sv:Value)(LA:Addr):aX gX.glob cN "ns_stack" (gS (mN sv LA none))=some (.glob (.ref LA)):=by kernel_rfl
theorem Ln(sv:Value)(LA:Addr):aX gX.glob cN "_reversed" (gS (mN sv LA none))=some (.glob (.type "reversed")):=by kernel_rfl
theorem Lv:cN.sc.names.lookup ("namespaces" : Str)=some .local:=by kernel_rfl
noncomputable def D1(as:List (Addr×List D))(k:Nat):List D:=((as.take k).reverse.map (·.2)).flatten
theorem AG{as:List (Addr×List D)}{k:Nat}{q:Addr×List D}(h:as[k]?=some q):D1 as (k+1)=q.2++D1 as k:=by
 unfold D1
 rw [List.take_add_one,h]
 exact congrArg (λ l:List (Addr×List D)=>(l.map (·.2)).flatten) List.reverse_append
structure sA(Fs:List (Addr×Obj))(LA:Addr)(as:List (Addr×List D))(h:Heap):Prop where
 outer:∃ n,h.get? LA=some (aF "list" (as.map λ q=> .ref q.1) n)
 inner:∀ q∈as,∃ n xs,h.get? q.1=some (aF "list" xs n)∧DVs Fs q.2 xs
noncomputable abbrev Cj(LA:Addr)(as:List (Addr×List D)):List Addr:=LA::as.map (·.1)
theorem sA.hold{Fs:List (Addr×Obj)}{LA:Addr}{as:List (Addr×List D)}{h h':Heap}(r:sA Fs LA as h)(k:∀ b∈Cj LA as,∀ o,h.get? b=some o->h'.get? b=some o):sA Fs LA as h':=
 ⟨let ⟨n,e⟩:=r.outer;⟨n,k _ (.head _) _ e⟩,λ q hq=>let ⟨n,xs,e,d⟩:=r.inner q hq;⟨n,xs,k _ (.tail _ (List.mem_map.mpr ⟨q,hq,rfl⟩)) _ e,d⟩⟩
theorem sA.live{Fs:List (Addr×Obj)}{LA:Addr}{as:List (Addr×List D)}{h:Heap}(r:sA Fs LA as h):∀ b∈Cj LA as,∃ o,h.get? b=some o:=λ b hb=>(List.mem_cons.mp hb).elim (λ e=>let ⟨_,h⟩:=r.outer;e▸⟨_,h⟩) λ hb=>let ⟨q,hq,e⟩:=List.mem_map.mp hb;let ⟨_,_,h,_⟩:=r.inner q hq;e▸⟨_,h⟩
noncomputable def JN(h₀:Heap)(LA:Addr)(as:List (Addr×List D)):gh:=λ Fs ps h=>sA Fs LA as h∧∀ b∈Cj LA as,b∉eP ps∧h₀.get? b=none
noncomputable abbrev xM(L rv:Addr):Code:= .forLoop (.Name "namespaces" PQ) (.ref rv) (a9 fN) [] (xF L)
structure NG(h₀:Heap)(LA:Addr)(as:List (Addr×List D))(L:Addr)(m:List (Str×V))(own G:List Addr)(aL:Shared)(Fs:List (Addr×Obj))(s:Shared):Prop where
 g:GL w.params h₀ L m s
 ro:sA Fs LA as s.heap
 ext:jy h₀ G aL s
 hG:∀ b∈own,b∈G∨aL.heap.objs.size<=b
structure xZ(h₀:Heap)(LA:Addr)(as:List (Addr×List D))(L x:Addr):Prop where
 n0:h₀.get? x=none
 ne:x≠L
 no:∀ b∈Cj LA as,b≠x
section
variable{h₀:Heap}{A:Around}{s s' aL:Shared}{G own:List Addr}{L rv LA it a x:Addr}{as:List (Addr×List D)}{sv:Value}{Fs:List (Addr×Obj)}{m m':List (Str×V)}{h':Heap}{tk:Nat}
theorem lg{c:aw}(G:GC h₀ gX.glob gX.fns)(hc:c.Ok 1)(hm:x8 m=true)(g:GL w.params h₀ L m s){y:Str}{z:Value}{Q:Value->Shared->Prop}(hv:aX gX.glob c y (gS m)=some (.glob z))(h:Q z s):wpAny (model prog w) A (loadName (c.env [L]) y) Q ah s:=
 pG G hc hm g hv λ x hx=>(show z=x from hx.inv)▸h
theorem NG.turn(n:NG h₀ LA as L m own G aL Fs s)(p:xZ h₀ LA as L x)(hx:x∈own)(hold:Heap.ExtBut x s.heap h')(hz:s.heap.objs.size<=h'.objs.size):NG h₀ LA as L m own G aL Fs { s with heap:=h',toks:=tk }:=
 have hold:Holds [x] s.heap h':=λ b o hb=>hold b o λ e=>hb (e▸ .head _)
 ⟨k7 n.g (λ h=>p.ne (List.mem_singleton.mp h).symm) (λ b hb=>List.mem_singleton.mp hb▸p.n0) hold,n.ro.hold λ b hb o=>hold b o λ h=>p.no b hb (List.mem_singleton.mp h),n.ext.step (jc hold hz) λ b hb=>List.mem_singleton.mp hb▸n.hG x hx,n.hG⟩
theorem NG.put(n:NG h₀ LA as L m own G aL Fs s)(dj:∀ b∈Cj LA as,b≠L∧h₀.get? b=none)(hL:L∈own)(p:GP h₀ L m' s s'):NG h₀ LA as L m' own G aL Fs s':=
 ⟨p.g,n.ro.hold λ b hb o=>p.ext.heap b o (λ h=>(dj b hb).1 (List.mem_singleton.mp h)) (dj b hb).2,n.ext.step p.ext λ b hb=>List.mem_singleton.mp hb▸n.hG L hL,n.hG⟩
theorem NG.tok(n:NG h₀ LA as L m own G aL Fs s):NG h₀ LA as L m own G aL Fs { s with toks:=tk }:=⟨n.g.tok,n.ro,n.ext.trans jy.tok,n.hG⟩
theorem NG.less(n:NG h₀ LA as L m own G aL Fs s){own':List Addr}(h:own'⊆own):NG h₀ LA as L m own' G aL Fs s:=⟨n.g,n.ro,n.ext,λ b hb=>n.hG b (h hb)⟩
theorem lQ{k:Int}{h:Heap}(r:h.IsRevIter rv LA k)(hold:Heap.ExtBut x h h')(hn:rv≠x):h'.IsRevIter rv LA k:=let ⟨o,ho,q⟩:=r;⟨o,hold _ _ hn ho,q⟩
noncomputable abbrev JS(L:Addr)(kr:Result->Sem PySem.Fin)(p:Pos):List Frame:=[.ret kr none (id false) (id []) (.func bN (xF L)) p []]
noncomputable def Nu(h₀:Heap)(A:Around)(LA:Addr)(as:List (Addr×List D))(L rv:Addr)(sv:Value)(fs:List Frame)(k:Nat):Prop:=∀ o s aL G Fs,NG h₀ LA as L (mN sv LA o) [L,rv] G aL Fs s->s.heap.IsRevIter rv LA ((k:Int)-1) ->
 SX (model prog w) A (xM L rv) (denote table (xM L rv)) fs s (RW h₀ A (JN h₀ LA as) Fs G aL (D1 as k))
theorem xl{kr:Result->Sem PySem.Fin}{p0:Pos}(hh:A.handled=none)(dj:∀ b∈Cj LA as,b≠L∧h₀.get? b=none){k:Nat}(hO:Nu h₀ A LA as L rv sv (JS L kr p0) k){ds:List D}(hm:(a,ds)∈as){ky:Result->Sem PySem.Fin}{lv:List Value}{p:Pos}
  (hky:∀ s' P',SX (model prog w) A (xM L rv) (.pure (.again (xM L rv))) (JS L kr p0) s' P'->SX (model prog w) A (xM L rv) (ky (.ok (.ret .none))) (JS L kr p0) s' P') (pi:xZ h₀ LA as L it) (pr:xZ h₀ LA as L rv) (ne:rv≠it) :
  ∀ r j s aL G Fs,ds.drop j=r->NG h₀ LA as L (mN sv LA (some a)) [L,rv,it] G aL Fs s->s.heap.IsRevIter rv LA ((k:Int)-1)->s.heap.IsListIter it a j->SX (model prog w) A (wb it) (denote table (wb it)) (.ret ky none false lv (xM L rv) p []::JS L kr p0) s (RW h₀ A (JN h₀ LA as) Fs G aL (r++D1 as k)):=by
 have o2:[L,rv]⊆[L,rv,it]:=λ b hb=>List.mem_append.mpr (show b∈[L,rv]∨b∈[it] from .inl hb)
 have i2:it∈[L,rv,it]:= .tail _ (.tail _ (.head _))
 intro r
 induction r with
 | nil=>
  intro j s aL G Fs hr n hrev hit
  obtain ⟨m,xs,hx,hd⟩:=n.ro.inner _ hm
  refine wz (l:=a) (i:=j) (items:=xs.toArray) hh hit (au hx) (Array.getElem?_eq_none_iff.mpr (show xs.length<=j from (show ds.length=xs.length from hd.length)▸List.drop_eq_nil_iff.mp hr)) λ h' hk hz=>?_
  exact X.s_pop _ _ _ _ _ _ _ (.ok (.ret .none)) _ rfl _ _ _ _ _ _ _ (hky _ _ (X.s_again _ _ _ _ _ _ _ _ rfl (hO (some a) _ _ _ _ ((n.turn (tk:=s.toks) pi i2 hk hz).less o2) (lQ hrev hk ne))))
 | cons d r ih=>
  intro j s aL G Fs hr n hrev hit
  obtain ⟨m,xs,hx,hd⟩:=n.ro.inner _ hm
  have hdj:ds[j]?=some d:=by
   have:(ds.drop j)[0]?=some d:=by rw [hr];rfl
   rw [List.getElem?_drop] at this
   exact this
  obtain ⟨x,hxj,hv⟩:=hd.get hdj
  refine sQ (l:=a) (i:=j) (items:=xs.toArray) (x:=x) hit (au hx) ((List.getElem?_toArray ..).trans hxj) rfl rfl λ hit' kk pp hk=>?_
  have hs:Heap.ExtBut it s.heap (AF s.heap it j):=(Heap.SameBut.update ..).extBut
  have n':=n.turn (tk:=s.toks) pi i2 hs (Up (Heap.size_update ..).symm)
  obtain ⟨⟨tb,raw⟩,⟨oL,ρ,F,hoL,hrL⟩,new⟩:=n'.g
  obtain ⟨orv,horv,hrv1,hrv2⟩:=lQ hrev hs ne
  obtain ⟨oit,hoit,hi1,hi2⟩:=hit'
  refine ⟨⟨n'.ext,tb,raw⟩,[],[(L,oL),(rv,orv),(it,oit)],hv,λ _ h=>nm h,λ q hq=>?_,?_⟩
  ·refine (List.mem_cons.mp hq).elim (λ e=>e▸⟨hoL,new,n.hG _ (.head _)⟩) λ hq=>(List.mem_cons.mp hq).elim (λ e=>e▸⟨horv,pr.n0,n.hG _ (.tail _ (.head _))⟩) λ hq=>List.mem_singleton.mp hq▸⟨hoit,pi.n0,n.hG _ i2⟩
  ·show dJ h₀ A _ (r++D1 as k) _ _
   rw [fq]
   refine λ s'' Fs'' tb'' raw'' hp'' I''=>⟨_,_,_,rfl,?_⟩
   have hi'':=hp'' (it,oit) (.tail _ (.tail _ (.head _)))
   exact hk s'' _ oit hi'' hi1 (ih (j+1) s'' s'' _ Fs'' (by rw [← List.drop_drop,hr];rfl) ⟨⟨⟨_,raw''⟩,⟨oL,ρ,F,hp'' (L,oL) (.head _),hrL⟩,new⟩,I''.1,.refl _ _ _,λ _ h=> .inl h⟩ ⟨orv,hp'' (rv,orv) (.tail _ (.head _)),hrv1,hrv2⟩ ⟨oit,hi'',hi1,hi2⟩)
end
section
variable{h₀:Heap}{A:Around}{s s' aL:Shared}{G:List Addr}{L rv LA:Addr}{as:List (Addr×List D)}{sv:Value}{Fs:List (Addr×Obj)}
theorem E7(xs:List Value):xs.toArray.isEmpty=xs.isEmpty:=by cases xs<;>rfl
theorem Ew{α β:Type}{a:List α}{b:List β}(h:a.length=b.length):a.isEmpty=b.isEmpty:=by
 cases a with
 | nil=>cases b with
  | nil=>rfl
  | cons=>exact absurd h.symm (Nat.succ_ne_zero _)
 | cons=>cases b with
  | nil=>exact absurd h (Nat.succ_ne_zero _)
  | cons=>rfl
theorem w8{kr:Result->Sem PySem.Fin}{p0:Pos}(al:aB h₀ gX bz)(hh:A.handled=none)(dj:∀ b∈Cj LA as,b≠L∧h₀.get? b=none)(pr:xZ h₀ LA as L rv)(hsz:∀ q∈as,q.2.length<=1000000)
  (hend:∀ s' P',P' (.ret (.ok (.ret .none))) s'->SX (model prog w) A (.block [] (xF L)) (leafOf (.ok .next)) (JS L kr p0) s' P'):∀ k,k<=as.length->Nu h₀ A LA as L rv sv (JS L kr p0) k:=by
 have L2:L∈[L,rv]:= .head _
 have r2:rv∈[L,rv]:= .tail _ (.head _)
 intro k
 induction k with
 | zero=>
  intro _ o s aL G Fs n hrev
  refine fy (b7 (wpAny_pyNext_rev_end hh (l:=LA) hrev λ h' hk hz=>?_))
  have n':=n.turn (tk:=s.toks) pr r2 hk hz
  exact hend _ _ ⟨n'.ext,n'.g.raw⟩
 | succ k ih=>
  intro hk1 o s aL G Fs n hrev
  obtain ⟨q,hq⟩:∃ q,as[k]?=some q:=⟨_,List.getElem?_eq_getElem hk1⟩
  obtain ⟨a,ds⟩:=q
  have hm:=List.mem_of_getElem? hq
  obtain ⟨n0,hout⟩:=n.ro.outer
  refine fy (wpAny_pyNext_rev_item (i:=k) (items:=(as.map λ q=>Value.ref q.1).toArray) (x:= .ref a) (by rw [← Int.add_sub_cancel (k:Int) 1];exact hrev) (au hout) ((List.getElem?_toArray ..).trans (List.getElem?_map.trans (congrArg _ hq))) λ h' hrev' hs=>?_)
  have n1:=n.turn (tk:=s.toks) pr r2 hs.extBut (Up hs.1.symm)
  refine Uk (wpAny_assign_Name (aC (tY se MW (lN _ _ _) n1.g (.glob _) Lv) λ _ s2 q2 H=>?_))
  have n2:=n1.put dj L2 (Ia ..▸q2.1)
  obtain ⟨m3,xs,hx,hd⟩:=n2.ro.inner _ hm
  have hrev2:=let ⟨ob,ho,r⟩:=hrev';show s2.heap.IsRevIter rv LA ((k:Int)-1) from ⟨ob,q2.1.ext.heap _ _ (λ h=>pr.ne (List.mem_singleton.mp h)) pr.n0 ho,r⟩
  rw [AG hq]
  refine dg Mz (cb (uH (wpAny_isTrue_value (wpAny_Name (lg al.G se (lN _ _ _) n2.g (FN sv LA a) ?_) (by decide)))))
  refine wpAny_truthy_list (au hx) (Int.lt_of_le_of_lt (Int.ofNat_le.mpr (Ul (Up ((List.size_toArray ..).trans hd.length.symm)) (hsz _ hm))) (by decide)) ?_
  have n3:=n2.tok (tk:=s2.toks+1+1)
  rw [show xs.toArray.isEmpty=ds.isEmpty from (E7 xs).trans (Ew hd.length.symm)]
  cases hds:ds.isEmpty with
  | true=>
   rw [List.isEmpty_iff.mp hds]
   exact X.s_again _ _ _ _ _ _ _ _ rfl (ih (Nat.le_of_succ_le hk1) (some a) _ _ _ _ n3 hrev2)
  | false=>
   refine dg L5 (cb (sR (wpAny_Name (lg al.G se (lN _ _ _) n3.g (FN sv LA a) ?_) (by decide))))
   refine ⟨⟨_,hx,rfl⟩,wpAny_pyIter_list (au hx) λ ky p hky=>?_⟩
   have hnew:∀ {b o},s2.heap.get? b=some o->b≠s2.heap.objs.size:=λ ho=>Nat.ne_of_lt (Heap.lt_size ho)
   obtain ⟨tb,raw⟩:=n2.g.raw
   have pi:xZ h₀ LA as L s2.heap.objs.size:=⟨fB raw (Nat.le_refl _),(Nat.ne_of_lt n2.g.lt).symm,λ b hb=>let ⟨_,h⟩:=n2.ro.live b hb;hnew h⟩
   have n4:NG h₀ LA as L (mN sv LA (some a)) [L,rv,s2.heap.objs.size] G aL Fs { s2 with toks:=s2.toks+1+1 }:=⟨n3.g,n3.ro,n3.ext,λ b hb=>(List.mem_append.mp (show b∈[L,rv]++[s2.heap.objs.size] from hb)).elim (n3.hG b) λ h=> .inr (List.mem_singleton.mp h▸n3.ext.size)⟩
   have n5:=n4.turn (tk:=s2.toks+1+1) pi (.tail _ (.tail _ (.head _))) (h':=s2.heap.push { cls:= .type "list_iterator",data:= .fields #[.ref a,.int 0 0] }) (λ _ _ _ ho=>Heap.get?_push_of_some _ ho) (Nat.le_of_lt (by rw [Heap.size_push];exact Nat.lt_succ_self _))
   refine xl hh dj (ih (Nat.le_of_succ_le hk1)) hm hky pi pr (let ⟨_,h,_⟩:=hrev2;hnew h) ds 0 _ _ _ _ rfl n5 (lQ hrev2 (λ _ _ _ ho=>Heap.get?_push_of_some _ ho) (let ⟨_,h,_⟩:=hrev2;hnew h)) ⟨_,Heap.get?_push_size _ rfl,rfl,rfl⟩
theorem zI(al:aB h₀ gX bz)(hh:A.handled=none){ρ:List Addr}{F:Fz}{o:Obj}(hr:OR w.params ρ F (Cm (mN sv LA none)) o)(new:h₀.get? L=none)(hsz:∀ q∈as,q.2.length<=1000000):dJ h₀ A (JN h₀ LA as) (D1 as as.length) (.fresh (.func bN (xF L))) [(L,o)]:=by
 rw [fq]
 refine λ s Fs tb raw hp I=>⟨_,_,_,rfl,?_⟩
 have g:GL w.params h₀ L (mN sv LA none) s:=⟨⟨tb,raw⟩,⟨o,ρ,F,hp (L,o) (.head _),hr⟩,new⟩
 have dj:∀ b∈Cj LA as,b≠L∧h₀.get? b=none:=λ b hb=>⟨λ e=>(I.2 b hb).1 (e▸ .head _),(I.2 b hb).2⟩
 have n:NG h₀ LA as L (mN sv LA none) [L,s.heap.objs.size] [L] s Fs s:=⟨g,I.1,.refl _ _ _,λ b hb=>(List.mem_cons.mp hb).elim (λ e=> .inl (e▸ .head _)) λ h=> .inr (Up (List.mem_singleton.mp h).symm)⟩
 obtain ⟨n0,hout⟩:=I.1.outer
 have hnew:∀ {b o},s.heap.get? b=some o->b≠s.heap.objs.size:=λ ho=>Nat.ne_of_lt (Heap.lt_size ho)
 have pr:xZ h₀ LA as L s.heap.objs.size:=⟨fB raw (Nat.le_refl _),(Nat.ne_of_lt g.lt).symm,λ b hb=>let ⟨_,h⟩:=I.1.live b hb;hnew h⟩
 refine uG (dg M6 (cb (yC (λ x=>by rfl) ?_)))
 show wpAny _ _ (eval (.Name "_reversed" _) (xF L)>>=λ fv=>callWith _ fv [] (backTo _ (starEach [.Name "ns_stack" _] (xF L))) []) _ ah s
 refine Uj (wpAny_Name (lg al.G se (lN _ _ _) g (Ln sv LA) ?_) (by decide))
 refine aN (aU (λ e he=>by cases he;rfl) ?_)
 rw [aV rfl]
 refine Calls.spliced_cons (wpAny_Name (lg al.G se (lN _ _ _) g (Lm sv LA) ?_) (by decide))
 refine Calls.spliced_nil ⟨λ Q hq=>Uk (hq _),call_reversed_list (au hout) ?_⟩
 rw [show (as.map λ q=>Value.ref q.1).toArray.size=as.length from (List.size_toArray ..).trans (List.length_map ..)]
 have hrev:Heap.IsRevIter (s.heap.push (revObj LA ((as.length:Int)-1))) s.heap.objs.size LA ((as.length:Int)-1):=⟨_,Heap.get?_push_size _ rfl,rfl,rfl⟩
 refine wpAny_pyIter_revIter hrev λ k p hk=>?_
 exact w8 al hh dj pr hsz (λ s' P' hP=>X.s_pop _ _ _ _ _ _ _ (.ok .next) _ rfl _ _ _ _ _ _ _ (hk _ _ (X.s_end _ _ _ _ _ _ (.ok (.ret .none)) _ rfl hP))) as.length (Nat.le_refl _) none _ _ _ _
  (n.turn (tk:=s.toks) pr (.tail _ (.head _)) (λ _ _ _ ho=>Heap.get?_push_of_some _ ho) (Nat.le_of_lt (by rw [Heap.size_push];exact Nat.lt_succ_self _))) hrev
end
noncomputable def Lg(σ:St)(v:V):Option (Nat×List D):=(f9 v).bind λ j=>(σ.at j).bind λ o=>(Al o).bind λ d=>(Br d).bind λ ds=>if ds.length<=1000 then some (j,ds) else none
noncomputable def vg(σ:St):List V->Option (List (Nat×List D))
 | []=>some []
 | v::vs=>(Lg σ v).bind λ q=>(vg σ vs).map (q::·)
noncomputable def HS(σ:St)(i:Nat):Option (List (Nat×List D)):=(σ.at i).bind λ o=>(wY o).bind (vg σ)
noncomputable def m4(qs:List (Nat×List D)):List D:=(qs.reverse.map (·.2)).flatten
noncomputable def ij(ρ:List Addr)(en:Nat->D)(qs:List (Nat×List D)):List (Addr×List D):=qs.map λ q=>(ad ρ q.1,dens en q.2)
noncomputable def qD(q:Nat×List D):D:= .tup (.int q.1::q.2)
noncomputable def M5(a b:List (Nat×List D)):Bool:=beqDs (a.map qD) (b.map qD)
theorem EX{a b:List (Nat×List D)}(h:M5 a b=true):a=b:=(List.map_inj_right λ x y e=>by
 injection e with e
 injection e with e1 e2
 injection e1 with e1
 exact Prod.ext (Int.ofNat.inj e1) e2).mp (beqDs_eq _ _ h)
noncomputable def Ag(X:Cx)(r:b5)(c:aw)(t:Expr)(body:List Stmt)(i:Nat)(qs:List (Nat×List D)):List D->St->Option (Fl×St)
 | [],σ=>some (.next,σ)
 | d::ds,σ=>(cW X r c t (.d d) σ).bind λ σ₁=>(af r c body σ₁).bind λ p=>Ev (λ p=>(HS p.2 i).bind λ qs'=>if M5 qs' qs=true then Ag X r c t body i qs ds p.2 else none) p
noncomputable def RX:B0->Option Addr
 | .fn a=>some a
 | _=>none
structure Nw(W:Wd)(σ:St)(s:Shared)(q:Nat×List D)(x:Value):Prop where
 e:x= .ref (ad W.ρ q.1)
 lt:q.1<σ.length
 hm:ad W.ρ q.1∈W.ρ
 o:∃ n xs,s.heap.get? (ad W.ρ q.1)=some (aF "list" xs n)∧DVs W.F.fs (dens W.F.en q.2) xs
 hl:q.2.length<=1000
structure Sv(W:Wd)(σ:St)(s:Shared)(i:Nat)(qs:List (Nat×List D)):Prop where
 lt:∀ b∈i::qs.map (·.1),b<σ.length
 hm:∀ b∈Cj (ad W.ρ i) (ij W.ρ W.F.en qs),b∈W.ρ
 ro:sA W.F.fs (ad W.ρ i) (ij W.ρ W.F.en qs) s.heap
 hl:∀ q∈ij W.ρ W.F.en qs,q.2.length<=1000000
section
variable{h₀:Heap}{W:Wd}{σ:St}{s:Shared}
theorem Gu{i:Nat}{o:AO}(h:σ.at i=some o):i<σ.length:=(List.getElem?_eq_some_iff.mp (St.at_some h)).1
theorem DA(R:ae w.params h₀ W σ s){v:V}{x:Value}(hx:VR W.ρ W.F v x):Ok (Lg σ v) λ q=>Nw W σ s q x:=
 .bind (bh v) λ j ev=> .bind .self λ o ho=> .bind (P:=λ d=>GE W s j d x) (ry (R.ref ho (ev▸hx))) λ d la=> .bind (lj d) λ ds ed=> .ifs λ hl=> .some (by
  obtain ⟨a,ds',xs,n,e,hi,hg,hd,hs⟩:=la
  have ea:=fm hi
  exact ⟨e.trans (congrArg _ ea.symm),Gu ho,ea.symm▸List.mem_of_getElem? hi,⟨n,xs,ea.symm▸hg,(show dens W.F.en ds=ds' from D.lst.inj ((congrArg (den W.F.en) ed).symm.trans hd))▸hs⟩,hl⟩)
inductive GB(W:Wd)(σ:St)(s:Shared)(qs:List (Nat×List D))(xs:List Value):Prop
 | mk (e:xs=(ij W.ρ W.F.en qs).map λ q=> .ref q.1) (h:∀ q∈qs,Nw W σ s q (.ref (ad W.ρ q.1)))
theorem zX(R:ae w.params h₀ W σ s){vs:List V}{xs:List Value}(hx:VRs W.ρ W.F vs xs):Ok (vg σ vs) λ qs=>GB W σ s qs xs:=hx.ind (P:=λ vs xs=>Ok (vg σ vs) λ qs=>GB W σ s qs xs) (.some ⟨rfl,λ _ h=>nm h⟩) λ v x vs xs hv _ ih=>
 .bind (DA R hv) λ q hq=> .map ih λ qs ⟨e,h⟩=>⟨by rw [e,hq.e];rfl,λ p hp=>(List.mem_cons.mp hp).elim (λ ep=>ep▸⟨rfl,hq.lt,hq.hm,hq.o,hq.hl⟩) (h p)⟩
theorem zV(R:ae w.params h₀ W σ s)(i:Nat):Ok (HS σ i) (Sv W σ s i):= .bind .self λ o ho=>by
 obtain ⟨a,_,hi,_,_⟩:=R.obj i _ (St.at_some ho)
 refine .bind (oQ (R.at ho hi)) λ vs la=>?_
 obtain ⟨b,xs,n,e,hi',ho',hs⟩:=la
 cases Value.ref.inj e
 refine (zX R hs).mono λ qs ⟨ex,h⟩=>?_
 have ea:=fm hi
 have hq:∀ p∈ij W.ρ W.F.en qs,∃ q∈qs,(ad W.ρ q.1,dens W.F.en q.2)=p:=λ p hp=>List.mem_map.mp hp
 refine ⟨λ b hb=>(List.mem_cons.mp hb).elim (λ e=>e▸Gu ho) λ hb=>let ⟨q,hq,e⟩:=List.mem_map.mp hb;e▸(h q hq).lt,λ b hb=>(List.mem_cons.mp hb).elim (λ e=>e▸ea.symm▸List.mem_of_getElem? hi) λ hb=>let ⟨p,hp,e⟩:=List.mem_map.mp hb;let ⟨q,hq,e'⟩:=hq p hp;e▸e'▸(h q hq).hm,
  ⟨⟨n,?_⟩,λ p hp=>let ⟨q,hq,e'⟩:=hq p hp;e'▸(h q hq).o⟩,λ p hp=>let ⟨q,hq,e'⟩:=hq p hp;e'▸Ul (Up ((congrArg List.length (dE ..)).trans (List.length_map ..))) (Ul (h q hq).hl (by decide))⟩
 rw [ea,ho',ex]
theorem DB{ρ:List Addr}{en:Nat->D}(qs:List (Nat×List D)):D1 (ij ρ en qs) (ij ρ en qs).length=dens en (m4 qs):=by
 unfold D1 ij m4
 rw [List.take_length,dE,List.map_flatten,← List.map_reverse,List.map_map,List.map_map]
 exact congrArg _ (List.map_congr_left λ q _=>(dE ..))
theorem zW{ρ ρ':List Addr}(hp:ρ <+: ρ')(en:Nat->D){qs:List (Nat×List D)}(h:∀ b∈qs.map (·.1),b<ρ.length):ij ρ' en qs=ij ρ en qs:=
 List.map_congr_left λ q hq=>by rw [gP hp (h q.1 (List.mem_map.mpr ⟨q,hq,rfl⟩))]
end
theorem A8:gX.fns 123=some iu:=by kernel_rfl
theorem A7:jL true iu=true:=by kernel_rfl
theorem Ep:iu.body= .stmts bN:=by kernel_rfl
theorem t9(a b:Value):eF (iu.params.args.map (·.arg)) (iu.params.kwonlyargs.map (·.arg)) (gX.dfl 123) (gX.kdf 123) [V.glob a,V.glob b]=some [(("self" : Str),V.glob a),(("ns_stack" : Str),V.glob b),(("_reversed" : Str),V.glob (.type "reversed"))]:=by kernel_rfl
theorem A6(a:Value)(b:Addr):bU (bC iu 123 []).1 [("self",.glob a),("ns_stack",.glob (.ref b)),("_reversed",.glob (.type "reversed"))] (bC iu 123 []).2=some [some (Cm (mN a b none))]:=by kernel_rfl
section
variable{Z:Zx}{h₀:Heap}{W:Wd}{σ σ':St}{s:Shared}{A:Around}{c:aw}{env:Env}{pos:Pos}
theorem rm(S:cO Z)(G:GC Z.h₀ Z.X.glob Z.X.fns)(CO:cI Z.h₀ Z.X){o:Expr}{name:Str}{args:List Expr}{apos:Pos}{p:V×St}{m:B0}{q:List V×St}{Q:Value->Shared->Prop}(hc:(dm o||apos.endLine != pos.line)=false)(hl:args.length<30)
  (ho:Z.r.E c o σ=some p) (hm:rl Z.X p.2 p.1 name=some m) (h1:∀ e∈args.head?,fF e=false) (h2:(backTo pos (starEach args env)).all (λ p=>!p.1)=true) (hq:J1 Z c (λ env=>spliced (backTo pos (starEach args env))) p.2 q) (hk:fc Z.X (bH p.1 m).1=true) (a:At Z c env A W σ s)
  (h:∀ fx xs W' s',W.le W'->At Z c env A W' q.2 s'->VR W'.ρ W'.F (bH p.1 m).1 fx->VRs W'.ρ W'.F ((bH p.1 m).2++q.1) xs->wpAny (model prog w) A (call fx xs []) Q ah s'):wpAny (model prog w) A (eval (.Call (.Attribute o name apos) args [] pos) env) Q ah s:=by
 obtain ⟨hc1,hc2⟩:=Bool.or_eq_false_iff.mp hc
 rw [arm_eval_Call,c9 hc1]
 refine Uj ((S.E c o σ p ho).go a λ x ac W₁ le r a₁=>Uj (wpAny_standAt ?_))
 obtain ⟨fx,fxs,hf,hfs,hg⟩:=(oD name a₁.k a₁.R r m hm).cal CO a₁.R r
 unfold methodCall
 rw [show methodCallForm (args.length+([]:List Keyword).length) (backTo pos (starEach args env)) (backToKw pos (keywordEach [] env))=true by
  unfold methodCallForm;rw [h2,show backToKw pos (keywordEach [] env)=[] from rfl];simp;omega]
 refine Uj (Uo ?_)
 show wpAny (model prog w) A (getMethod x name _) _ ah _
 exact hg _ _ λ tk=>Uj (wpAny_of_eq (i7 (eq_of_beq (Bool.not_eq_false' .. |>.mp hc2))) (aN (aU h1 (hq.go (a₁.tk tk) λ xs az ay aq dH bj=>⟨lJ G bj.R (hf.le aq) hk,h _ _ ay az (le.trans aq) bj (hf.le aq) ((hfs.le aq).append dH)⟩))))
theorem nM(S:cO Z)(G:GC Z.h₀ Z.X.glob Z.X.fns)(CO:cI Z.h₀ Z.X){o:Expr}{name:Str}{args:List Expr}{apos:Pos}{p:V×St}{m:B0}{q:List V×St}{Q:Value->Shared->Prop}(hc:(dm o||apos.endLine != pos.line)=false)(hl:args.length<30)
  (ho:Z.r.E c o σ=some p) (hm:rl Z.X p.2 p.1 name=some m) (hq:c7 Z.r c args p.2=some q) (hk:fc Z.X (bH p.1 m).1=true) (a:At Z c env A W σ s)
  (h:∀ fx xs W' s',W.le W'->At Z c env A W' q.2 s'->VR W'.ρ W'.F (bH p.1 m).1 fx->VRs W'.ρ W'.F ((bH p.1 m).2++q.1) xs->wpAny (model prog w) A (call fx xs []) Q ah s'):wpAny (model prog w) A (eval (.Call (.Attribute o name apos) args [] pos) env) Q ah s:=
 rm S G CO hc hl ho hm (cH env pos args p.2 q hq).1 (cH env pos args p.2 q hq).2 (cU S pos args p.2 q hq) hk a h
theorem Dz(aog:aB h₀ gX bz)(R:ae w.params h₀ W σ s){sv:Value}{i:Nat}{qs:List (Nat×List D)}(n:Sv W σ s i qs)(a:bD 2 A) :
  wpAny (model prog w) A (call (.ref 123) [sv,.ref (ad W.ρ i)] []) (B8 h₀ A (JN h₀ (ad W.ρ i) (ij W.ρ W.F.en qs)) W σ (λ L=> .func bN ((bC iu 123 []).1.env [L])) (dens W.F.en (m4 qs))) ah s:=
 vM (X:=gX) aog.G aog.D A8 A7 Ep (t9 sv (.ref (ad W.ρ i))) (A6 sv (ad W.ρ i)) (λ L oL ρ F hr h0=>DB (ρ:=W.ρ) qs▸zI (A:=A.in1) aog a.handled hr h0 n.hl) R (.cons _ _ _ _ (.glob _) (.cons _ _ _ _ (.glob _) .nil)) (a.le (Nat.le_succ 1))
theorem HR{dw:List Addr}{nX:Nat->D}{i:Nat}{qs:List (Nat×List D)}(lt:∀ b∈i::qs.map (·.1),b<dw.length)(W:Wd)(σ:St)(s:Shared)(p:List (Addr×Obj))(g:List (Nat×GenState))(hρ:dw <+: W.ρ)(hC:W.F.en=nX∧HS σ i=some qs)(R:ae w.params h₀ (qg W p g) σ s)(ps:List (Addr×Obj))(hp:ps⊆p) :
  JN h₀ (ad dw i) (ij dw nX qs) W.F.fs ps s.heap:=by
 have n:=zV R i qs hC.2
 have e1:ad W.ρ i=ad dw i:=gP hρ (lt i (.head _))
 have e2:ij W.ρ W.F.en qs=ij dw nX qs:=hC.1▸zW hρ _ λ b hb=>lt b (.tail _ hb)
 have hm:∀ b∈Cj (ad dw i) (ij dw nX qs),b∈W.ρ:=e1▸e2▸n.hm
 exact ⟨e1▸e2▸n.ro,λ b hb=>⟨λ h=>let ⟨q,hq,e⟩:=List.mem_map.mp h;(R.pv q (List.mem_append.mpr (.inl (hp hq)))).2.1 (e▸hm b hb),R.fr b (hm b hb)⟩⟩
theorem j4.goS{t:Expr}{it:Value}{L:List D}{dw:List Addr}{C:(Nat->D)->St->Prop}{S:Fn}{Inv:Nat->(Nat->D)->St->Prop}{p:List (Addr×Obj)}{g:List (Nat×GenState)}{W₁ aP:Wd}{m k:Nat}{pv:List (Addr×Obj)}{gg:List (Nat×GenState)}(I:sE h₀ A t it L dw C pv gg S)(hm:m+1+k=L.length)(l:W.lf W₁)(bb:(qg W₁ p g).lf aP)(hS:S (k+1) p g W₁.F.fs)(R:ae w.params h₀ aP σ' s)
  (hi:Inv (k+1) aP.F.en σ'):∃ m',m'<m+1∧j4 h₀ L S Inv W m' s:=by
 refine ⟨m,Nat.lt_succ_self m,k+1,σ',{ aP with pv:=W₁.pv,gg:=W₁.gg },p,g,by rw [← hm,Nat.add_assoc m 1 k,Nat.add_comm 1 k],hi,⟨l.rho.trans bb.rho,λ _ h=>bb.fs (l.fs h),l.pv,l.gg,bb.tb.trans l.tb⟩,I.mono _ _ _ _ _ hS bb.fs,?_⟩
 rw [show (qg { aP with pv:=W₁.pv,gg:=W₁.gg } p g)=aP from congr (congrArg (λ a b=>({ aP with pv:=a,gg:=b }:Wd)) bb.pv.symm) bb.gg.symm]
 exact R
structure NC(X:Cx)(r:b5)(c:aw)(t:Expr)(body:List Stmt)(i:Nat)(qs:List (Nat×List D))(nX:Nat->D)(p:Fl×St)(k:Nat)(en:Nat->D)(σ:St):Prop where
 h:en=nX∧HS σ i=some qs
 e:Ag X r c t body i qs ((m4 qs).drop k) σ=some p
theorem wN(S:cO Z)(CO:ClsOk Z.h₀ Z.X){t:Expr}{body:List Stmt}{i:Nat}{qs:List (Nat×List D)}{p:Fl×St}{it:Value}{SS:Fn}(I:sE Z.h₀ A t it (dens W.F.en (m4 qs)) W.ρ (λ en σ=>en=W.F.en∧HS σ i=some qs) W.pv W.gg SS)(eX:cx Z.X.K Z.X.O W.F.en)(ok:c.Ok W.ρ.length)(a:bD Z.n A){m:Nat}
  (h:j4 Z.h₀ (dens W.F.en (m4 qs)) SS (NC Z.X Z.r c t body i qs W.F.en p) W m s):codeAny (model prog w) A (.forLoop t it body [] (c.env W.ρ)) (J3 (PF Z.h₀ W p.1 p.2)) s:=by
 have hlen:(dens W.F.en (m4 qs)).length=(m4 qs).length:=(congrArg List.length (dE ..)).trans (List.length_map ..)
 refine t0 _ (λ m s hI=>aC (hI.step I λ _ _ _ h=>h.h) λ y ac q=>?_) m h
 cases q with
 | stop e σ W₁ hi l R'=>
  obtain ⟨hc,he⟩:=hi
  have he:some (Fl.next,σ)=some p:=by rw [← he,hlen,List.drop_length];rfl
  exact e▸Option.some.inj he▸⟨W₁,⟨l.rho,⟨hc.1,l.fs⟩,l.pv,l.gg,l.tb⟩,trivial,R'⟩
 | item x e m em k hm σ d W₁ pp g hL hi l hx hS own R'=>
  subst e em
  obtain ⟨hc,he⟩:=hi
  rw [dE,List.getElem?_map] at hL
  obtain ⟨u,hu,eu⟩:=Option.map_eq_some_iff.mp hL
  obtain ⟨hlt,e'⟩:=List.getElem?_eq_some_iff.mp hu
  rw [List.drop_eq_getElem_cons hlt,e'] at he
  obtain ⟨σ₁,h1,he⟩:=cY he
  obtain ⟨q,h2,he⟩:=cY he
  have a₁:At Z c (c.env W.ρ) A (qg W₁ pp g) σ ac:=⟨⟨hc.1.symm▸eX,a,R'⟩,(show c.Ok W₁.ρ.length from ok.lf l),aw.env_pre l.rho ok⟩
  refine own _ (aC (dl S CO t (.d u) σ _ h1 _ A _ ac x a₁ (.d u x (by rw [hc.1,eu];exact hx))) λ _ az ⟨ay,aq,aG⟩=>aC (aE S body σ₁ _ h2 _ _ _ _ (a₁.to aq aG)) λ f a8 ⟨aP,br,fr,bf⟩=>?_)
  have bb:=aq.trans br
  have hen:aP.F.en=W.F.en:=bb.fz.en.trans hc.1
  have out:=ae.out bb.lf bf
  have lx:W.le { aP with pv:=W₁.pv,gg:=W₁.gg }:=⟨l.rho.trans bb.rho,⟨hen,λ _ h=>bb.fz.fs (l.fs h)⟩,l.pv,l.gg,bb.tb.trans l.tb⟩
  exact pP (W₁:={ aP with pv:=W₁.pv,gg:=W₁.gg }) (Go:=λ p=>∃ m',m'<m+1∧j4 Z.h₀ _ SS (NC Z.X Z.r c t body i qs W.F.en p) W m' a8) lx fr out.2 (.bind .self λ qs' hq=> .ifs λ hb p hp=>j4.goS I hm l bb.lf hS bf ⟨⟨hen,hq.trans (congrArg some (EX hb))⟩,hp⟩) p he
theorem II(m:B0):Ok (RX m) λ a=>m= .fn a:=by cases m<;>first | exact .some rfl | exact .none
noncomputable def Ru(X:Cx)(r:b5)(c:aw)(t:Expr)(o:Expr)(name:Str)(arg:Expr)(body:List Stmt)(σ:St):Option (Fl×St):=
 (r.E c o σ).bind λ q=>(rl X q.2 q.1 name).bind λ m=>(RX m).bind λ fa=>if fa=123∧fc X (.glob (.ref 123))=true then (c7 r c [arg] q.2).bind λ z=>(one z.1).bind λ v=>(f9 v).bind λ i=>(HS z.2 i).bind λ qs=>Ag X r c t body i qs (m4 qs) z.2 else none
theorem y3(aog:aB h₀ gX bz){X:Cx}(G:GC h₀ X.glob X.fns)(CO:cI h₀ X){n:Nat}{r:b5}(hn:2<=n)(S:cO ⟨h₀,X,n,r⟩){es:List Expr}{k:Nat}{tp apos pos p:Pos}{o arg:Expr}{name:Str}{body:List Stmt}(hc:(dm o||apos.endLine != pos.line)=false) :
  Ok (Ru X r c (.Tuple es k tp) o name arg body σ) (SF ⟨h₀,X,n,r⟩ c (exec (.For (.Tuple es k tp) (.Call (.Attribute o name apos) [arg] [] pos) body [] p)) σ):=by
 refine .bind .self λ q ho=> .bind .self λ m hm=> .bind (II m) λ fa em=> .ifs λ hk=> .bind .self λ z hz=> .bind (d9 z.1) λ v ev=> .bind (bh v) λ i ei=> .bind .self λ qs hqs p hp env A W s a=>?_
 obtain ⟨ef,hk⟩:=hk
 subst ef em
 rw [exec_For]
 refine Uj (wpAny_standAt (Uj (nM (Z:=⟨h₀,X,n,r⟩) S G CO hc (show 1<30 by decide) ho hm hz hk a λ fx xs ay az aq bj hf hx=>?_)))
 rw [ev,ei] at hx
 obtain ⟨sv,ys,hs,hys,e1⟩:=hx.inv
 obtain ⟨z1,ys',hz1,hys',e2⟩:=hys.inv
 have e3:[]=ys':=hys'.inv
 have e4:Value.ref 123=fx:=hf.inv
 obtain ⟨la,hla,e5⟩:=hz1.inv
 have nl:=zV bj.R i qs hqs
 have a0:bD 2 A:=bD.le (m:=2) a.a hn
 refine cP (show call fx xs []=call (.ref 123) [sv,.ref (ad ay.ρ i)] [] by rw [← e4,← e1,← e2,← e3,← e5,fm hla]) (aC (Dz aog bj.R nl a0) λ rr a8 ⟨ga,gn,oga,L,oL,tb,er,htb,bf,g⟩=>er▸?_)
 have hga:=bf.pv (ga,oga) (.head _)
 obtain ⟨nm',qn,g1,g2,g3⟩:=g.go
 refine Uj (wpAny_of_eq rfl (Uj (wpAny_standAt (Uj (Uo (wpAny_pyIter_gen ⟨oga,nm',qn,hga.1,g1,g2,g3⟩ (wpAny_runOwn ?_)))))))
 have bb:ay.le { ay with tb:=tb }:=⟨List.prefix_refl _,.refl _,rfl,rfl,htb⟩
 rw [show A.mark none=A from a.a.mark,← bj.e]
 refine codeAny_mono (wN (W:={ ay with tb:=tb }) (it:= .ref ga) S CO.toClsOk (rN (L:=dens ay.F.en (m4 qs)) (I:=JN h₀ (ad ay.ρ i) (ij ay.ρ ay.F.en qs)) (C:=λ en σ=>en=ay.F.en∧HS σ i=some qs) G (a0.le (Nat.le_succ 1)) (HR λ b hb=>bj.R.len▸nl.lt b hb)) bj.k bj.ok bj.a
  ⟨0,z.2,{ ay with tb:=tb },[(ga,oga),(L,oL)],[(gn,.fresh (.func bN ((bC iu 123 []).1.env [L])))],Nat.add_zero _,⟨⟨rfl,hqs⟩,hp⟩,.refl _,⟨gn,oga,[(L,oL)],_,rfl,rfl,λ s h=>g.at h⟩,⟨bf.len,bf.nod,bf.fr,bf.lt,bf.fz,bf.pv,λ x hx=>(List.mem_cons.mp hx).elim (λ e=>e▸g.hgs) (bf.gg x),bf.slot,bf.old,bf.tab⟩⟩) λ r s' q=>?_
 cases r with
 | ok x=>exact PF.le q (aq.trans bb)
 | error _=>exact q.elim
end
section
variable{h₀:Heap}{W:Wd}{σ σ':St}{s:Shared}{A:Around}{E:Value->Shared->Prop}
set_option tactic.hygienic true in
theorem qP{t:SetTable}(es:Array (Int×Value))(n:Nat)(hp:t.plain=false):(relayAll t es n).2.1.plain=false:=by
 unfold relayAll
 split
 ·rename_i t' order ho
  dsimp only
  split
  ·unfold SetTable.relaid SetTable.laid at ho
   obtain ⟨_,_,e⟩:=cY ho
   cases e;exact hp
  ·rfl
 ·rfl
theorem nG:∀ (l:List (Int×Value)) (lt:List (Str×Tok)),l.Perm (lt.map (ud w.params))->∃ lt':List (Str×Tok),l=lt'.map (ud w.params)∧lt'.Perm lt:=by
 intro l
 induction l with
 | nil=>exact λ lt h=>⟨[],rfl,List.map_eq_nil_iff.mp (List.nil_perm.mp h)▸ .refl _⟩
 | cons e l ih=>
  intro lt h
  obtain ⟨p,hp,e'⟩:=List.mem_map.mp (h.mem_iff.mp (.head _))
  obtain ⟨a,b,e''⟩:=List.append_of_mem hp
  subst e' e''
  obtain ⟨lt',e1,hp'⟩:=ih (a++b) (List.Perm.cons_inv (h.trans (by rw [List.map_append,List.map_cons,List.map_append];exact List.perm_middle)))
  exact ⟨p::lt',e1▸rfl,(hp'.cons p).trans List.perm_middle.symm⟩
theorem rQ{Q:Unit->Shared->Prop}(b:Bool)(h:Q () s):wpAny (model prog w) A (match b with | true=>rule "set.scan.the-table-gave-way" | false=>pure ()) Q E s:=by cases b<;>first | exact Uk h | exact wpAny_rule h
theorem lT{a:Addr}{d:Data}{h:Heap}{es:Array (Int×Value)}{t:SetTable}{n:Nat}{es':Array (Int×Value)}{t':SetTable}(ho:h.get? a=some ⟨.type "set",none,.set es n t,#[]⟩):(h.update a (Obj.putSet es' t')).get? a=some ⟨.type "set",none,.set es' (n+1) t',#[]⟩:=by
 have:=Heap.get?_update_self (Obj.putSet es' t') ho (by rw [putSet_of es' t' rfl];rfl)
 rw [putSet_of es' t' rfl] at this
 exact this
theorem j9{a:Addr}{l:List Str}{d:Data}{k:Str}{t:Tok}{Q:Bool->Shared->Prop}(ho:s.heap.get? a=some ⟨.type "set",none,d,#[]⟩)(hS:cF w.params l d)(hk:l.contains k=false)(hn:l.length<=1000)
  (h:∀ h' d',Heap.SameBut a s.heap h'->h'.get? a=some ⟨.type "set",none,d',#[]⟩->cF w.params (l++[k]) d'->Q true { s with heap:=h' }) :
  wpAny (model prog w) A (setAddHashed a (.str k t) (cg w.params k)) Q E s:=by
 obtain ⟨es,ep,tb,lt,rfl,hf,hb,he,hp,hpl⟩:=hS
 have he':es.toList=lt.map (ud w.params):=he
 have hel:ElemsOf (strKind prog w) es.toList:=he'▸mu
 have hlen:es.size=l.length:=by rw [← Array.length_toList,he',List.length_map,← List.length_map (f:=(·.1)) (as:=lt),hp.length_eq]
 have hfind:List.findIdx? (λ e=>(strKind prog w).is k e.2) es.toList=none:=List.findIdx?_eq_none_iff.mpr λ e hm=>by
  rw [he'] at hm
  obtain ⟨p,hpm,e'⟩:=List.mem_map.mp hm
  rw [← e']
  refine (pz k p.1 p.2).trans (decide_eq_false λ e=>?_)
  exact ft (hk.symm.trans (List.contains_iff_mem.mpr (hp.mem_iff.mp (List.mem_map.mpr ⟨p,hpm,e⟩))))
 have hperm:=layNew_perm tb es (cg w.params k) (.str k t)
 have hfits:=layNew_fits tb es (cg w.params k) (.str k t)
 unfold setAddHashed setAddHashedIn
 refine Uo (Uj (wpAny_setState_of ho rfl hf ?_))
 dsimp only
 rw [byScan_of (knd:=strKind prog w) rfl hb hel]
 simp only [↓reduceIte]
 unfold setAddByScan
 refine Uj (Uj (wpAny_rule (Uj (wpAny_setScan_of (knd:=strKind prog w) (strKind_is prog w k t) ho rfl hf hel ?_))))
 rw [hfind]
 dsimp only
 show wpAny (model prog w) A _ _ E s
 generalize layNew tb es (cg w.params k) (.str k t)=L at hperm hfits ⊢
 obtain ⟨es1,t1,wasDummy,gave⟩:=L
 dsimp only at hperm hfits ⊢
 have hperm':es1.toList.Perm ((lt++[(k,t)]).map (ud w.params)):=by rw [Array.toList_push,he'] at hperm;rw [List.map_append];exact hperm
 obtain ⟨lt1,e1,p1⟩:=nG _ _ hperm'
 have hsz1:es1.size=l.length+1:=by rw [← Array.length_toList,hperm'.length_eq,← hlen,← Array.length_toList,he',List.length_map,List.length_map,List.length_append];rfl
 have hb1:es1.size<scanBound:=by rw [hsz1];exact Nat.lt_of_le_of_lt (Nat.succ_le_succ hn) (by decide)
 have fin:∀ (es2:Array (Int×Value)) (t2:SetTable) (n2:Nat) (h':Heap),es2.toList.Perm es1.toList->t2.fits es2.size=true->t2.plain=false->Heap.SameBut a s.heap h'->h'.get? a=some ⟨.type "set",none,.set es2 n2 t2,#[]⟩->Q true { s with heap:=h' }:=λ es2 t2 n2 h' hp2 hf2 hpl2 hsb' hg=>by
  obtain ⟨lt2,e2,p2⟩:=nG _ _ (e1▸hp2)
  refine h h' _ hsb' hg ⟨es2,n2,t2,lt2,rfl,hf2,?_,e2,?_,λ _=>hpl2⟩
  ·rw [← Array.length_toList,hp2.length_eq,Array.length_toList];exact hb1
  ·exact ((p2.trans p1).map (·.1)).trans (List.map_append▸hp.append_right _)
 refine Uj (rQ _ ?_)
 have tail:∀ (t2:SetTable),t2.fits es1.size=true->t2.plain=false->wpAny (model prog w) A (do
    storeSet a es1 t2
    if (!wasDummy&&t2.tooFull)=true then do
      (match (relayAll t2 es1 (SetTable.grown es1.size)).2.2 with | true=>rule "set.scan.the-table-gave-way" | false=>pure ())
      storeSet a (relayAll t2 es1 (SetTable.grown es1.size)).1 (relayAll t2 es1 (SetTable.grown es1.size)).2.1
      pure (some true)
     else pure (some true)) (λ r s'=>r=some true∧Q true s') E s:=λ t2 hf2 hpl2=>by
  refine Uj (wpAny_storeSet_of ho rfl ?_ (fits_of_scanBound hb1))
  have hg1:(s.heap.update a (Obj.putSet es1 t2)).get? a=_:=lT (d:= .plain) ho
  have hsb1:=Heap.SameBut.update s.heap a (Obj.putSet es1 t2)
  split
  ·have hp:=relayAll_perm t2 es1 (SetTable.grown es1.size)
   have hfr:=relayAll_fits t2 es1 (SetTable.grown es1.size)
   have hpr:=qP es1 (SetTable.grown es1.size) hpl2
   generalize relayAll t2 es1 (SetTable.grown es1.size)=Rl at hp hfr hpr ⊢
   obtain ⟨es2,t3,gave2⟩:=Rl
   dsimp only at hp hfr hpr ⊢
   have hsz:es2.size=es1.size:=by rw [← Array.length_toList,hp.length_eq,Array.length_toList]
   exact Uj (rQ _ (Uj (wpAny_storeSet_of hg1 rfl (Uk ⟨rfl,fin es2 t3 (ep+1+1) _ hp hfr hpr (hsb1.trans (Heap.SameBut.update _ a _)) (lT (d:= .plain) hg1)⟩) (fits_of_scanBound (by rw [hsz];exact hb1)))))
  ·exact Uk ⟨rfl,fin es1 t2 (ep+1) _ (.refl _) hf2 hpl2 hsb1 hg1⟩
 have done:∀ r s',(r=some true∧Q true s')->wpAny (model prog w) A (match r with | some added=>pure added | none=>setAddHashedIn a (.str k t) (cg w.params k) 99999) Q E s':=λ r s' q=>q.1▸Uk q.2
 split
 ·refine Uj ?_
  rw [hashByValue_scannable 8 (x:= .str k t) rfl]
  exact Uk (wpAny_mono (tail { t1 with plain:=false } (SetTable.fits_plain_off hfits) rfl) (λ r s' q=>done r s' q) λ _ _ e=>e)
 ·rename_i htp
  refine Uj (Uk ?_)
  simp only [↓reduceIte]
  exact wpAny_mono (tail t1 hfits (Bool.eq_false_iff.mpr htp)) (λ r s' q=>done r s' q) λ _ _ e=>e
end
noncomputable abbrev qN(l:List Str):AO:=⟨.type "set",none,.sset l⟩
noncomputable abbrev my(m:List (Str×V)):AO:=⟨.type "dict",none,.dict m⟩
noncomputable def M1(id:String)(as:List V)(σ:St):Option (V×St):=
 if id = "set.add" then (two as).bind λ p=>(sS p.2).bind λ k=>(f9 p.1).bind λ i=>(σ.at i).bind λ o=>(tA o).bind λ l=>if l.contains k=false∧l.length<=1000 then some (.d .none,σ.set i (some (qN (l++[k])))) else none
 else if id = "dict.get" then (two as).bind λ p=>(sS p.2).bind λ k=>(ED σ p.1).map λ m=>((jR m k).getD (.d .none),σ)
 else none
noncomputable def Kf(id:String)(as:List V)(σ:St):Option (V×St):=if id = "set" then kg as (some (.ref σ.length,σ++[some (qN [])])) else none
noncomputable abbrev J6:=Addr->List V->St->Option (V×St)
noncomputable def cX(K:bK)(O:eI)(need:Nat)(cal:J6):Cx:={ wg K O false need with
 blt:=λ id as σ=>(BE K O (wg K O false need) id as σ).or (M1 id as σ)
 typ:=λ id as σ=>(yi K O id as σ).or (Kf id as σ)
 cal:=cal }
section
variable{h₀:Heap}{W:Wd}{σ:St}{s:Shared}{A:Around}
theorem ae.sys(hs:∃ o,h₀.get? sysModules=some o)(R:ae w.params h₀ W σ s){i:Nat}{a:Addr}(hi:W.ρ[i]?=some a):(a==sysModules)=false:=
 beq_eq_false_iff_ne.mpr λ e=>let ⟨_,ho⟩:=hs;M.Internal.ns ((R.fr _ (List.mem_of_getElem? hi)).symm.trans (e▸ho))
theorem C8(o:AO):Ok (tA o) λ _=>o.data.isFro=false:= .ifs λ _=>by
 cases o.data with
 | sset=>exact .some rfl
 | _=>exact .none
theorem tj{i:Nat}{k:Str}{t:Tok}{x:Value}{l:List Str}{o:AO}(R:ae w.params h₀ W σ s)(ho:σ.at i=some o)(hnf:o.data.isFro=false)(h:Gy W s i l x)(hk:l.contains k=false)(hl:l.length<=1000) :
  wpAny (model prog w) A (call (.builtin "set.add") [x,.str k t] []) (PV h₀ W (.d .none) (σ.set i (some (qN (l++[k]))))) ah s:=by
 obtain ⟨a,d,e,hi,hg,hd⟩:=h
 have hS:=hd.of hg
 rw [e]
 refine wpAny_call_entry F.slot_set_add hS.typeIs F.entry_set_add ?_ (F.args_set_add_2 _ _)
 unfold Builtin.«set.add» Builtin.Frozenset.oneOther
 simp only [List.isEmpty_nil,bind_assoc]
 unfold Builtin.Frozenset.addrOf setAdd
 refine Uj (Uk (Uj (Uk (Uj (Uo (Uj (wpAny_pyHash_str (j9 (s:={ s with toks:=s.toks+1 }) hg hd hk hl λ h' d' hsb hg' hd'=>?_))))))))
 show wpAny _ _ (ret Value.none) _ _ _
 exact Uk ⟨_,rfl,W,.refl W,.mkNone,R.upd hi ⟨o,St.at_some ho,hnf⟩ (Up hsb.1.symm) hsb.extBut hg' (.mk _ _ _ _ _ .none (.sset _ _ hd'))⟩
theorem zf(hs:∃ o,h₀.get? sysModules=some o)(id:String)(as:List V)(σ:St):Ok (M1 id as σ) λ p=>∀ W s A xs,ae w.params h₀ W σ s->VRs W.ρ W.F as xs->wpAny (model prog w) A (call (.builtin id) xs []) (PV h₀ W p.1 p.2) ah s:=by
 refine .ite (λ e=>?_) λ _=> .ifs λ e=>?_
 ·subst e
  refine .bind (om as) λ p ep=> .bind .self λ k hk=> .bind (bh p.1) λ i ei=> .bind .self λ o ho=> .bind .self λ l hl=> .ifs λ hc=> .some λ W s A xs R hx=>?_
  rw [ep] at hx
  obtain ⟨x,ys,h1,hx,e1⟩:=hx.inv
  obtain ⟨y,ys',h2,hx,e2⟩:=hx.inv
  obtain ⟨t,e3⟩:=gT h2 k hk
  have e4:[]=ys':=hx.inv
  rw [← e1,← e2,← e4,e3]
  exact tj R ho (C8 o l hl) (oN (R.ref ho (ei▸h1)) l hl) hc.1 hc.2
 ·subst e
  refine .bind (om as) λ p ep=> .bind .self λ k hk=> .map .self λ m hm W s A xs R hx=>?_
  rw [ep] at hx
  obtain ⟨x,ys,h1,hx,e1⟩:=hx.inv
  obtain ⟨y,ys',h2,hx,e2⟩:=hx.inv
  obtain ⟨t,e3⟩:=gT h2 k hk
  have e4:[]=ys':=hx.inv
  obtain ⟨i,hd⟩:=pR R h1 m hm
  obtain ⟨a,es,ep',ea,hi,_,_⟩:=id hd
  obtain ⟨a',f,ea',hM,hf⟩:=hd.map
  cases Value.ref.inj (ea.symm.trans ea')
  rw [← e1,← e2,← e4,e3,ea]
  refine call_meetsIn PySem.F.slot_dict_get hM.typeIs PySem.F.entry_dict_get (PySem.F.args_dict_get_2 _ _) (meets_dict_get (strKind prog w) a (strKind_is prog w k t) (R.sys hs hi)) ⟨f,hM,W,.refl W,?_,R.toks _⟩
  cases q:jR m k with
  | none=>rw [(hf k).no q];exact .mkNone
  | some u=>obtain ⟨y,h1,h2⟩:=(hf k).get _ q;rw [h1];exact h2
theorem yU(id:String)(as:List V)(σ:St):Ok (Kf id as σ) λ p=>∀ W s A xs,ae w.params h₀ W σ s->VRs W.ρ W.F as xs->wpAny (model prog w) A (call (.type id) xs []) (PV h₀ W p.1 p.2) ah s:= .ifs λ e=>ew λ ea=> .some λ W s A xs R hx=>by
 subst e ea
 have hx:[]=xs:=hx.inv
 rw [← hx]
 exact call_set_0 λ led=>⟨_,Wd.le_new W _,.ref _ _ (by rw [R.len];exact List.getElem?_concat_length),R.new_size rfl (.mk _ _ _ _ _ .none (.sset _ _ ⟨#[],0,_,[],rfl,rfl,by decide,rfl,.refl _,λ h=>absurd rfl h⟩)) s.toks⟩
theorem EU{K:bK}{O:eI}{need n:Nat}{cal:J6}(hO:j3 h₀ (cX K O need cal) n)(hs:∃ o,h₀.get? sysModules=some o):sJ h₀ (cX K O need cal):=
 have O':j3 h₀ (vm K O false need) n:=⟨hO.cmp,hO.bin,hO.meth,hO.fn,λ _ _ _=> .none⟩
 have b:=oI O' (ph _ _ _ _) (pe _ _ _ _)
 ⟨λ id as σ=> .or (b.blt id as σ) ((zf hs id as σ).mono λ p h W s A xs _ _ R hx=>h W s A xs R hx),λ id as σ=> .or (b.typ id as σ) ((yU id as σ).mono λ p h W s A xs _ _ R hx=>h W s A xs R hx)⟩
end
noncomputable abbrev de:=St->Option (Fl×St)
noncomputable def lL(f g:de)(σ:St):Option (Fl×St):=(f σ).bind λ p=>match p.1 with
 | .next=>g p.2
 | f=>some (f,p.2)
noncomputable def gf(X:Cx)(a:Addr)(run:aw->de)(as:List V)(σ:St):Option (V×St):=
 (X.fns a).bind λ fd=>if iZ fd then (eF (fd.params.args.map (·.arg)) (fd.params.kwonlyargs.map (·.arg)) (X.dfl a) (X.kdf a) as).bind λ b=>(bU (bC fd a σ).1 b (bC fd a σ).2).bind λ σ₁=>(run (bC fd a σ).1 σ₁).bind λ p=>some (oW p.1,p.2) else none
noncomputable abbrev kD(Z:Zx)(a:Addr)(as:List V)(σ:St)(p:V×St):Prop:=∀ W A s xs,cx Z.X.K Z.X.O W.F.en->bD (Z.n+1) A->ae w.params Z.h₀ W σ s->VRs W.ρ W.F as xs->codeAny (model prog w) A (.call (.ref a) ⟨xs,[]⟩) (CP Z.h₀ W p.1 p.2) s
section
variable{Z:Zx}{c:aw}{σ:St}{h₀:Heap}
theorem dh{ts us:List Stmt}{f g:de}(hf:Ok (f σ) (SF Z c (execs ts) σ))(hg:∀ σ',Ok (g σ') (SF Z c (execs us) σ')):Ok (lL f g σ) (SF Z c (execs (ts++us)) σ):= .bind hf λ p h=>by
 obtain ⟨x,σ₁⟩:=p
 have app:∀ {env A s} {Q:Flow->Shared->Prop},wpAny (model prog w) A (execs ts env) (λ y s'=>wpAny (model prog w) A (match y with | .next=>execs us env | f=>pure f) Q ah s') ah s->wpAny (model prog w) A (execs (ts++us) env) Q ah s:=λ h=>cP (jU us _ ts) (Uj h)
 cases x with
 | next=>exact (hg σ₁).mono λ q k env A W s a=>app (h.go a λ y ac W₁ le fr a₁=>(FR.next fr).symm▸aC (k _ _ _ _ a₁) λ _ _ z=>z.le le)
 | _=>exact .some λ env A W s a=>app (h.go a λ y ac W₁ le fr a₁=>by
   cases y with
   | next=>exact False.elim fr
   | _=>exact Uk ⟨W₁,le,fr,a₁.R⟩)
theorem di{t:Stmt}{o:Option (Fl×St)}(h:Ok o (SF Z c (exec t) σ)):Ok o (SF Z c (execs [t]) σ):=h.mono λ p k env A W s a=>wpAny_execs_cons (aC (k env A W s a) λ y ac q=>by
 cases y with
 | next=>exact wpAny_execs_nil q
 | _=>exact q)
theorem iY(G:GC Z.h₀ Z.X.glob Z.X.fns)(D:GD Z.h₀ Z.X){a:Addr}{fd:FuncData}{body:List Stmt}{run:aw->de}(hfd:Z.X.fns a=some fd)(hb:fd.body= .stmts body)(hrun:∀ c σ,Ok (run c σ) (SF Z c (execs body) σ))(as:List V)(σ:St):Ok (gf Z.X a run as σ) (kD Z a as σ):=by
 unfold gf
 rw [hfd]
 exact .ifs λ hc=> .bind .self λ b hbind=> .bind .self λ σ₁ hst=> .bind (hrun _ σ₁) λ p hp=> .some λ W A s xs k ha R hx=>ia G D hfd hc hb hbind hst ha R hx λ A' W' s' ha' le R' ok'=>aC (hp _ _ _ _ ⟨⟨gK k le,ha',R'⟩,ok',rfl⟩) λ x az ⟨ay,aq,qk,aG⟩=>⟨ay,le.trans aq,kY qk,aG⟩
noncomputable def Oi(f:Stmt):Expr:=(ak (aJ f)).a
noncomputable def Oh(f:Stmt):Expr:=(ak (Oi f)).a
noncomputable def Rx(f:Stmt):Expr:=(ak (aJ f)).l.headD dB
noncomputable def Rv(f:Stmt):Stmt:= .For (.Tuple (ak (bA f)).l 0 (ak (bA f)).p) (.Call (.Attribute (Oh f) "_iter_namespaces" (ak (Oi f)).p) [Rx f] [] (ak (aJ f)).p) (a9 f) [] (bE f)
noncomputable def Rw(X:Cx)(r:b5)(c:aw)(f:Stmt):de:=Ru X r c (.Tuple (ak (bA f)).l 0 (ak (bA f)).p) (Oh f) "_iter_namespaces" (Rx f) (a9 f)
noncomputable def BI:List Stmt:=am 130
noncomputable def BH:List Stmt:=am 138
noncomputable def Bc:Stmt:=bt BI 1
noncomputable def Bb:Stmt:=bt BH 2
theorem E5:am 130=BI.take 1++([Rv Bc]++BI.drop 2):=by kernel_rfl
theorem E4:am 138=BH.take 2++([Rv Bb]++BH.drop 3):=by kernel_rfl
theorem Mc:(dm (Oh Bc)||(ak (Oi Bc)).p.endLine != (ak (aJ Bc)).p.line)=false:=by kernel_rfl
theorem Mb:(dm (Oh Bb)||(ak (Oi Bb)).p.endLine != (ak (aJ Bb)).p.line)=false:=by kernel_rfl
noncomputable def Gf:FuncData:=(fi 130).get (by kernel_rfl)
noncomputable def Ge:FuncData:=(fi 138).get (by kernel_rfl)
theorem Eo:Gf.body= .stmts (am 130):=by kernel_rfl
theorem En:Ge.body= .stmts (am 138):=by kernel_rfl
noncomputable def zz(X:Cx)(r:b5)(c:aw):de:=lL (af r c (BI.take 1)) (lL (Rw X r c Bc) (af r c (BI.drop 2)))
noncomputable def zy(X:Cx)(r:b5)(c:aw):de:=lL (af r c (BH.take 2)) (lL (Rw X r c Bb) (af r c (BH.drop 3)))
variable(aog:aB h₀ gX bz){X:Cx}(G:GC h₀ X.glob X.fns)(D:GD h₀ X)(CO:cI h₀ X){n:Nat}{r:b5}(hn:2<=n)(S:cO ⟨h₀,X,n,r⟩)
include aog G D CO hn S
theorem C5(hX:X.fns 130=some Gf)(as:List V)(σ:St):Ok (gf X 130 (zz X r) as σ) (kD ⟨h₀,X,n,r⟩ 130 as σ):=
 iY (Z:=⟨h₀,X,n,r⟩) G D hX Eo (λ c σ=>E5▸dh (aE S _ σ) λ σ'=>dh (di (y3 aog G CO hn S Mc)) λ σ''=>aE S _ σ'') as σ
theorem C4(hX:X.fns 138=some Ge)(as:List V)(σ:St):Ok (gf X 138 (zy X r) as σ) (kD ⟨h₀,X,n,r⟩ 138 as σ):=
 iY (Z:=⟨h₀,X,n,r⟩) G D hX En (λ c σ=>E4▸dh (aE S _ σ) λ σ'=>dh (di (y3 aog G CO hn S Mb)) λ σ''=>aE S _ σ'') as σ
end
noncomputable def qc(h₀:Heap):Prop:=∃ t,h₀.get? 146=some { cls:= .type "builtin_function_or_method",data:= .fields #[.builtin "str.join",.str "" t] }
noncomputable def RR(X:Cx)(r:b5)(c:aw)(x f:Str)(arg:Expr):de:=λ σ=>(aX X.glob c f σ).bind λ v=>(eO v).bind λ g=>(zG g).bind λ a=>if a=146 then (c7 r c [arg] σ).bind λ q=>(one q.1).bind λ u=>(fY q.2 u).bind λ d=>(kO X.K X.O (.meth 2) [.str "",d]).bind λ d'=>(aS c x (.d d') q.2).map λ σ'=>(.next,σ') else none
noncomputable def Lj(q:D×D×D):Bool:=match q with
 | (.none,.none,.none)=>true
 | _=>false
noncomputable def Sk(X:Cx)(r:b5)(c:aw)(e sl:Expr):de:=λ σ=>(r.E c e σ).bind λ p=>(r.E c sl p.2).bind λ q=>(f9 p.1).bind λ i=>(tI q.1).bind λ z=>if Lj z=true then (jM q.2 i).bind λ a=>(vU a).bind λ d=>(kO X.K X.O .truth [d]).map λ _=>(.next,ig q.2 i (.dseq (.lst []))) else none
section
variable{Z:Zx}{c:aw}{σ:St}{h₀:Heap}{W:Wd}{s:Shared}{A:Around}
theorem um(R:ae w.params h₀ W σ s)(h146:qc h₀){e:D}{x:Value}(hx:HV s.heap W.F.fs e x):Ok (vz (.str "") e) λ d=>wpAny (model prog w) A (call (.ref 146) [x] []) (PD h₀ W d σ) ah s:= .bind (P:=λ sep=>sep = "") (.some rfl) λ sep es=> .bind (cV e) λ l e2=>by
 subst es e2
 obtain ⟨t,h146⟩:=h146
 obtain ⟨ys,la,m,ga,ra,e'⟩:=(hx.inv:ix "list" _ _ l x)
 refine .bind (jl ra) λ ts ⟨l',q1,q2⟩=> .ifs λ hc=> .some ?_
 subst e' q1 q2
 have hok:JoinOk "" (l'.map (·.1))=true:=hc
 unfold JoinOk at hok
 rw [Bool.not_eq_true'] at hok
 exact mF (R.old 146 _ h146 (by decide)) (λ hq=>uk hq) rfl F.entry_str_join (meets_str_join_list "" t la l' hok) ⟨au ga,post_join l' ⟨joinFit_length hok,λ t' k'=>PD.here (.str _ _) (R.toks k')⟩⟩
theorem Hf(S:cO Z)(G:GC Z.h₀ Z.X.glob Z.X.fns)(h146:qc Z.h₀)(hO:∀ d,av Z.X.O (.meth 2) [.str "",d]=vz (.str "") d){x f:Str}{arg:Expr}{tp fp p q:Pos}:Ok (RR Z.X Z.r c x f arg σ) (SF Z c (exec (.Assign [.Name x tp] (.Call (.Name f fp) [arg] [] q) p)) σ):=
 .bind .self λ v hv=> .bind (P:=λ g=>v= .glob g) (by cases v<;>first | exact .some rfl | exact .none) λ g ev=> .bind (qQ g) λ a ea=> .ifs λ e=> .bind .self λ z hz=> .bind (d9 z.1) λ u eu=> .bind .self λ d hd=> .bind .self λ d' hd'=> .map .self λ σ' hst env A W s bR=>by
  subst ev ea e
  refine wpAny_Assign_Name ?_ (bq rfl)
  show wpAny _ A (eval (.Name f fp) env>>=λ fv=>callWith q fv [] (backTo q (starEach [arg] env)) []) _ ah s
  refine bR.e▸Uj (wpAny_Name (aT G bR.R bR.ok hv λ y hy=>?_) (bc hv))
  rw [← (show Value.ref 146=y from hy.inv)]
  refine bR.e▸aN (aU (cH env q [arg] σ z hz).1 ((cU S q [arg] σ z hz).go bR λ xs ac W₁ le dP a₁=>?_))
  rw [eu] at dP
  obtain ⟨y,ys,h1,h2,e1⟩:=dP.inv
  have e2:[]=ys:=h2.inv
  obtain ⟨t,h146'⟩:=h146
  have ho:=a₁.R.old 146 _ h146' (by decide)
  refine ⟨λ Q hq=>?_,?_⟩
  ·unfold keeperOf
   exact Uj (wpAny_load ho (Uk (hq _)))
  ·rw [← e1,← e2]
   have h4:=cj a₁.k d' hd'
   refine aC (um a₁.R ⟨t,h146'⟩ (dA a₁.R h1 d hd) (den W₁.F.en d') ((hO _).symm.trans h4)) λ z' az jK=>?_
   obtain ⟨ay,aq,dH,aG⟩:=PD.pv jK
   have bj:=a₁.to aq aG
   exact bj.e▸bv aG bj.ok hst dH λ h' tk bf=>⟨ay,le.trans aq,trivial,bf⟩
theorem wW(n:Nat):sliceIndices .none .none .none n=pure (0,(n:Int),1):=rfl
theorem rk(l:List Value)(f:Value×Nat->Option Value)(hf:∀ (x:Value) (k:Nat),k<l.length->f (x,k)=none):l.zipIdx.filterMap f=[]:=List.filterMap_eq_nil_iff.mpr λ q hm=>hf q.1 q.2 (by have:=(List.mem_zipIdx (x:=q.1) (i:=q.2) hm).2.1;rw [Nat.zero_add] at this;exact this)
theorem zo{n k:Nat}{x:Value}(hk:k<n):(if ((if (1:Int)>0 then (decide ((0:Int)<=(k:Int))&&decide ((k:Int)<(n:Int))&&(((k:Int)-0) % 1==0)) else (decide ((n:Int)<(k:Int))&&decide ((k:Int)<=0)&&((0-(k:Int)) % (-1)==0)))=true) then (none:Option Value) else some x)=none:=by
 rw [if_pos (by simp;omega)]
theorem EC{l sl:Addr}{xs:List Value}{m:Nat}{Q:Unit->Shared->Prop}(ho:s.heap.get? l=some (aF "list" xs m))(hos:s.heap.get? sl=some (cA "slice" [.none,.none,.none]))(hlen:xs.length<=sizeLine)
  (h:∀ f:Array Value->Array Value,f xs.toArray=#[]->Q () { s with heap:=s.heap.update l (Obj.mapSeq f) }):wpAny (model prog w) A (delItem (.ref l) (.ref sl)) Q ah s:=by
 have hT:s.TypeIs (.ref l) "list" := ⟨_,ho,rfl⟩
 have hTs:s.TypeIs (.ref sl) "slice" := ⟨_,hos,rfl⟩
 refine wpAny_delItem_slot hT (by decide) F.slot_list_delitem (wpAny_call_entry F.slot_list_delitem hT F.entry_list_delitem ?_ (F.args_list_delitem_2 _ _))
 show wpAny _ _ (Builtin.List.listSubscript? (.ref sl)>>=_) _ _ s
 refine Uj ?_
 unfold Builtin.List.listSubscript?
 refine Uj (wpAny_specialOf hTs slice_no_index ?_)
 rw [if_pos (show (Option.isNone (none:Option Value))=true from rfl)]
 refine Uk ?_
 show wpAny _ _ (typeOf (.ref sl)>>=_) _ _ s
 refine Uj (wpAny_typeOf hTs ?_)
 rw [if_neg (by decide),listSliceParts_eq]
 refine Uj (Uj (wpAny_field hos rfl (x:= .none) rfl (Uj (wpAny_listPart .none ?_))))
 rw [if_neg (show ¬ ((rawPart none==rawInt 0)=true) from Bool.false_ne_true)]
 refine Uj (wpAny_field hos rfl (x:= .none) rfl (Uj (wpAny_listPart .none ?_)))
 refine Uj (wpAny_field hos rfl (x:= .none) rfl (Uj (wpAny_listPart .none (Uk ?_))))
 refine Uj (m:=Builtin.List.listItems (.ref l)) ?_
 unfold Builtin.List.listItems
 refine Uj (wpAny_seqItems ho rfl (Uk ?_))
 refine Uj (wpAny_of_eq (wW _) ?_)
 refine Uj (wpAny_rule ?_)
 have hsel:∀ (x:Value) (k:Nat),k<xs.length->_:=λ x k hk=>zo (n:=xs.toArray.size) (x:=x) (List.size_toArray ..▸hk)
 refine Uj (wpAny_updateSeq ho rfl (Uj (wpAny_letGo (Uk ⟨_,rfl,h _ ?_⟩))) (hz:=Ul (Up (List.size_toArray ..)) hlen) (_hz':=?_))
 ·exact congrArg List.toArray (rk xs _ hsel)
 ·exact Ul (Up ((List.size_toArray ..).trans (congrArg List.length (rk xs _ hsel)))) (Nat.zero_le _)
theorem DE{q:D×D×D}(h:Lj q=true):q=(.none,.none,.none):=by
 obtain ⟨a,b,c⟩:=q
 cases a with
 | none=>cases b with
  | none=>cases c with
   | none=>rfl
   | _=>exact ft h
  | _=>exact ft h
 | _=>exact ft h
theorem Hj(S:cO Z){e sl:Expr}{p q:Pos}:Ok (Sk Z.X Z.r c e sl σ) (SF Z c (exec (.Delete [.Subscript e sl q] p)) σ):=
 .bind (S.E c e σ) λ cq dY=> .bind (S.E c sl cq.2) λ mX jB=> .bind (bh cq.1) λ i ei=> .bind .self λ z hz=> .ifs λ h3=> .bind .self λ a ha=> .bind (mw a) λ d ed=> .map .self λ d' hd' env A W s bR=>
  wpAny_Delete (wpAny_deleteEach_cons (wpAny_delete_Subscript (dY.go bR λ y ac W₁ aK dP a₁=>jB.go a₁ λ sv az ay aq dH bj=>by
   obtain ⟨l,xs,m,el,hi,ho,hr,hlive⟩:=d7 bj.R (ei▸dP.le aq) a ha
   obtain ⟨sa,ys,es,hm,h⟩:=nH dH z hz
   rw [DE h3] at h
   obtain ⟨x1,x2,x3,g1,g2,g3⟩:=h
   have hos:=(bj.R.fz _ hm).1
   rw [← (show Value.none=x1 from g1.inv),← (show Value.none=x2 from g2.inv),← (show Value.none=x3 from g3.inv)] at hos
   rw [ed] at hr
   obtain ⟨ds,ed',hs⟩:=hr.dseq_inv
   have h4:av Z.X.O .truth [den ay.F.en d]=some (den ay.F.en d'):=cj bj.k d' hd'
   have hlen:xs.length<=sizeLine:=by
    rw [← hs.length]
    rw [ed'] at h4
    obtain ⟨b,hb,_⟩:=Option.map_eq_some_iff.mp (show (sP (.lst ds)).map D.bool=some _ from h4)
    exact Ok.ifs (P:=λ _=>ds.length<=sizeLine) (λ h=> .all h) b hb
   rw [el,es]
   exact EC ho hos hlen λ f hf=>wpAny_deleteEach_nil ⟨ay,aK.trans aq,trivial,bj.R.updL hi hlive ho (ys:=[]) hf (λ m'=> .dseq _ [] [] m' rfl .nil) az.toks⟩)))
end
noncomputable def BG:List Stmt:=am 154
noncomputable def wZ:Stmt:=bt BG 0
noncomputable def Bs:Expr:=(wC (bt BG 1)).t
noncomputable def Gc:FuncData:=(fi 154).get (by kernel_rfl)
theorem Em:Gc.body= .stmts (am 154):=by kernel_rfl
theorem E3:am 154=[.Assign [.Name "data" (ak (bA wZ)).p] (.Call (.Name "_join_text" (ak (ak (aJ wZ)).a).p) [(ak (aJ wZ)).l.headD dB] [] (ak (aJ wZ)).p) (bE wZ)]++([.Delete [.Subscript (ak Bs).a (ak Bs).b (ak Bs).p] (bE (bt BG 1))]++BG.drop 2):=by kernel_rfl
noncomputable def zx(X:Cx)(r:b5)(c:aw):de:=lL (RR X r c "data" "_join_text" ((ak (aJ wZ)).l.headD dB)) (lL (Sk X r c (ak Bs).a (ak Bs).b) (af r c (BG.drop 2)))
theorem C3{h₀:Heap}{X:Cx}(G:GC h₀ X.glob X.fns)(D:GD h₀ X){n:Nat}{r:b5}(S:cO ⟨h₀,X,n,r⟩)(h146:qc h₀)(hO:∀ d,av X.O (.meth 2) [.str "",d]=vz (.str "") d)(hX:X.fns 154=some Gc)(as:List V)(σ:St):Ok (gf X 154 (zx X r) as σ) (kD ⟨h₀,X,n,r⟩ 154 as σ):=
 iY (Z:=⟨h₀,X,n,r⟩) G D hX Em (λ c σ=>E3▸dh (di (Hf S G h146 hO)) λ σ'=>dh (di (Hj S)) λ σ''=>aE S _ σ'') as σ
noncomputable abbrev yz(j:Nat)(led:Bool)(pl:Bool):SetTable:={ mask:=7,place:=#[j],dummies:=#[],finger:=0,led:=led,moves:=0,plain:=pl }
theorem pw(led:Bool)(h:Int)(x:Value):layNew (.fresh 0 0 led) #[] h x=(#[(h,x)],yz (SetTable.bits h % 8) led true,false,false):=by
 unfold layNew
 rw [show (SetTable.fresh 0 0 led).freeSlot h=some (SetTable.bits h % 8,false) by kernel_rfl]
 rfl
noncomputable abbrev C9(k:Str)(t:Tok)(j:Nat)(led:Bool):Obj:=⟨.type "set",none,.set #[(cg w.params k,.str k t)] 1 (yz j led false),#[]⟩
section
variable{h₀:Heap}{W:Wd}{σ:St}{s:Shared}{A:Around}{E:Value->Shared->Prop}
theorem mW{a:Addr}{led:Bool}{k:Str}{t:Tok}{Q:Bool->Shared->Prop}(ho:s.heap.get? a=some ⟨.type "set",none,.set #[] 0 (.fresh 0 0 led),#[]⟩)
  (h:∀ h' (j:Nat),Heap.SameBut a s.heap h'->h'.get? a=some (C9 k t j led)->Q true { s with heap:=h' }):wpAny (model prog w) A (setAddHashed a (.str k t) (cg w.params k)) Q E s:=by
 have hel:ElemsOf (strKind prog w) (#[]:Array (Int×Value)).toList:=λ e he=>nm he
 unfold setAddHashed setAddHashedIn
 refine Uo (Uj (wpAny_setState_of ho rfl rfl ?_))
 dsimp only
 rw [byScan_of (knd:=strKind prog w) rfl (by decide) hel]
 simp only [↓reduceIte]
 unfold setAddByScan
 refine Uj (Uj (wpAny_rule (Uj (wpAny_setScan_of (knd:=strKind prog w) (strKind_is prog w k t) ho rfl rfl hel ?_))))
 dsimp only
 rw [pw]
 refine Uj (Uk ?_)
 simp only [↓reduceIte]
 refine Uj ?_
 rw [hashByValue_scannable 8 (x:= .str k t) rfl]
 refine Uk ?_
 rw [if_neg (show ¬ (plainKind (Value.str k t)=true) from Bool.false_ne_true)]
 refine Uj (wpAny_storeSet_of ho rfl ?_ (fits_of_scanBound (by show 1<4096;decide)))
 rw [if_neg (show ¬ ((!false&&(yz (SetTable.bits (cg w.params k) % 8) led false).tooFull)=true) from Bool.false_ne_true)]
 exact Uk (Uk (h _ (SetTable.bits (cg w.params k) % 8) (Heap.SameBut.update ..) (lT (d:= .plain) ho)))
theorem wX(k:Str)(t:Tok)(j:Nat)(led:Bool):cF w.params [k] (C9 k t j led).data:=⟨_,_,_,[(k,t)],rfl,rfl,(by show 1<4096;decide),rfl,.refl _,λ _=>rfl⟩
structure Nm(S:Addr)(l:List Str)(h:Heap)(h':Heap):Prop where
 keep:Heap.ExtBut S h h'
 size:h.objs.size<=h'.objs.size
 dat:∃ d',h'.get? S=some ⟨.type "set",none,d',#[]⟩∧cF w.params l d'
theorem w4(e:DictEntry):List.range' [:(#[e]:Array DictEntry).size].start [:(#[e]:Array DictEntry).size].size [:(#[e]:Array DictEntry).size].step=[0]:=by rw [show (#[e]:Array DictEntry).size=1 from rfl];rfl
theorem mV{S d:Addr}{led:Bool}{j:Nat}{tag k:Str}{tt:Tok}{z:Value}{kt:Tok}{ep:Nat}{Q:Unit->Shared->Prop}(hh:A.handled=none)(hd:(d==sysModules)=false)(hne:S≠d)(htk:tag≠k)
  (hS:s.heap.get? S=some (C9 tag tt j led)) (hod:s.heap.get? d=some ⟨.type "dict",none,.dict #[⟨cg w.params k,.str k kt,z⟩] ep,#[]⟩)
  (h:∀ h' tk,Nm S [tag,k] s.heap h'->Q () { s with heap:=h',toks:=tk }):wpAny (model prog w) A (setDisplayStar S (.ref d)) Q E s:=by
 have hcont:[tag].contains k=false:=Bool.eq_false_iff.mpr λ h=>htk (List.mem_singleton.mp (List.contains_iff_mem.mp h)).symm
 have hT:s.TypeIs (.ref d) "dict" := ⟨_,hod,rfl⟩
 have hm:s.heap.DictAt (strKind prog w) d [(k,z)] ep:=⟨_,_,hod,⟨rfl,rfl,rfl⟩,rfl,λ e he=>List.mem_singleton.mp (show e∈[_] from List.mem_toArray.mp he)▸⟨k,strKind_is prog w k kt,rfl⟩,.cons (strKind_is prog w k kt) rfl .nil,List.nodup_cons.mpr ⟨List.not_mem_nil,List.nodup_nil⟩⟩
 unfold setDisplayStar
 refine Uj (wpAny_isInstance (T := "dict") (b:=false) hT (by first | rfl | (rw [isSubtype_type];kernel_rfl)) ?_)
 rw [if_neg Bool.false_ne_true]
 refine Uj (wpAny_isInstance (T := "dict") (b:=false) hT (by first | rfl | (rw [isSubtype_type];kernel_rfl)) ?_)
 refine Uj (wpAny_askSetting ?_)
 have add:∀ {M':Around} {ac:Shared} {kt:Tok} {Q':Bool->Shared->Prop},ac.heap.get? S=some (C9 tag tt j led)->(∀ h' d',Heap.SameBut S ac.heap h'->h'.get? S=some ⟨.type "set",none,d',#[]⟩->cF w.params [tag,k] d'->Q' true { ac with heap:=h' })->wpAny (model prog w) M' (setAddHashed S (.str k kt) (cg w.params k)) Q' E ac:=λ hS' hq=>
  j9 hS' (wX ..) hcont (by show 1<=1000;decide) hq
 show wpAny (model prog w) A (match (if w.params.followText "set-display-star-reads-storage" = true then Value.none else Value.ref d) with | .ref a=>_ | _=>_) _ _ _
 generalize w.params.followText "set-display-star-reads-storage" = byText
 cases byText with
 | true=>
  show wpAny (model prog w) A (pyIter (.ref d)>>=λ it=>runValue (.builtin "set.update.loop" ⟨[.ref S,it],[]⟩)>>=λ _=>pure ()) Q E s
  refine Uj (wpAny_pyIter_dict (knd:=strKind prog w) hd hm ?_)
  have hit0:(s.heap.push { cls:= .type "dict_keyiterator",data:= .fields #[.ref d,.int 0 0,.int 1 0,.int ep 0] }).IsKeyIter s.heap.objs.size d 0 1 ep:=⟨_,Heap.get?_push_size _ rfl,rfl,rfl⟩
  have lt:∀ {b o},s.heap.get? b=some o->b≠s.heap.objs.size:=λ h=>Nat.ne_of_lt (Heap.lt_size h)
  refine Uj (wpAny_runValue (codeAny_builtin F.entry_set_update_loop ?_))
  rw [Around.under_plainId F.plain_set_update_loop _]
  unfold Builtin.«set.update.loop»
  refine Uj (wpAny_pyNext_dict_item (knd:=strKind prog w) (kvs:=[(k,z)]) (i:=0) (ep:=ep) hit0 (hm.push _) rfl λ key h1 hkey hit1 hs1=>?_)
  obtain ⟨kt,rfl⟩:=Value.isStrOf_shape hkey
  have keep1:∀ {b o},s.heap.get? b=some o->h1.get? b=some o:=λ h=>(hs1.2 _ (lt h)).trans (Heap.get?_push_of_some _ h)
  dsimp only
  refine Uj (Uo ?_)
  unfold setAdd
  refine Uo (Uj (wpAny_pyHash_str (add (keep1 hS) λ h2 d2 hs2 hg2 hd2=>Uk ⟨plainId_quiet F.plain_set_update_loop _,codeAny_builtin F.entry_set_update_loop ?_⟩)))
  rw [Around.under_plainId F.plain_set_update_loop _]
  unfold Builtin.«set.update.loop»
  have hm2:h2.DictAt (strKind prog w) d [(k,z)] ep:=let ⟨o,es,ho,r⟩:=hm;⟨o,es,(hs2.2 d hne.symm).trans (keep1 ho),r⟩
  have hit2:h2.IsKeyIter s.heap.objs.size d 1 1 ep:=let ⟨oi,ho,r⟩:=hit1;⟨oi,(hs2.2 _ (lt hS).symm).trans ho,r⟩
  refine b7 (Uj (wpAny_pyNext_dict_end (knd:=strKind prog w) (kvs:=[(k,z)]) (i:=1) (ep:=ep) hh hit2 hm2 rfl λ h3 hk3=>Uk λ hz3=>Uk (h h3 _ ⟨λ b o hb ho=>hk3 b o (lt ho) ((hs2.2 b hb).trans (keep1 ho)),Ul ?_ hz3,d2,hk3 S _ (lt hS) hg2,hd2⟩)))
  show s.heap.objs.size<=h2.objs.size
  rw [hs2.1,hs1.1,Heap.size_push]
  exact Nat.le_succ _
 | false=>
  show wpAny (model prog w) A (typeOf (.ref d)>>=_) Q E s
  refine Uj (wpAny_typeOf hT ?_)
  rw [if_pos (by rfl)]
  refine Uj (wpAny_rule ?_)
  rw [if_neg (by rw [hd];exact Bool.false_ne_true)]
  refine Uj (wpAny_dictEpoch hod rfl (Uj (wpAny_dictEntries hod rfl ?_)))
  unfold setRoomFor
  refine Uj (Uj (wpAny_setState_of hS rfl rfl ?_))
  show wpAny _ _ (match (yz j led false).roomFor 1 with | some wanted=>setRelay S wanted | none=>pure ()) _ _ s
  rw [show (yz j led false).roomFor 1=none from rfl]
  refine Uk ?_
  rw [Std.Legacy.Range.forIn_eq_forIn_range']
  refine Uj ?_
  rw [w4 ⟨cg w.params k,.str k kt,z⟩,List.forIn_cons]
  refine Uj (Uj (wpAny_dictEntries hod rfl ?_))
  show wpAny _ _ (holding [.str k kt] (setAddHashed S (.str k kt) (cg w.params k)>>=λ _=>pure ())>>=_) _ _ s
  refine Uj (Uo (Uj (add hS λ h2 d2 hs2 hg2 hd2=>Uk (Uj (wpAny_dictEpoch ((hs2.2 d hne.symm).trans hod) rfl ?_)))))
  rw [if_neg (by simp)]
  refine Uk ?_
  dsimp only
  rw [List.forIn_nil]
  exact Uk (Uk (h h2 _ ⟨hs2.extBut,Up hs2.1.symm,d2,hg2,hd2⟩))
end
theorem DictAt.dictOf{K:Type}[DecidableEq K]{knd:KeyKind prog w K}{h:Heap}{a:Addr}{kvs:List (K×Value)}{ep:Nat}(x:h.DictAt knd a kvs ep):h.DictOf knd a kvs:=Exists.elim x λ o q=>Exists.elim q λ es q=>⟨o,es,ep,q.1,q.2.1,q.2.2.1,q.2.2.2⟩
inductive Gz(W:Wd)(s:Shared)(i:Nat)(k:Str)(v:V)(x:Value):Prop
 | mk (a:Addr) (t:Tok) (z:Value) (ep:Nat) (e:x= .ref a) (hi:W.ρ[i]?=some a) (hg:s.heap.get? a=some ⟨.type "dict",none,.dict #[⟨cg w.params k,.str k t,z⟩] ep,#[]⟩) (hz:VR W.ρ W.F v z)
theorem mx{h:Heap}{a:Addr}{k:Str}{t:Tok}{z:Value}{ep:Nat}(hg:h.get? a=some ⟨.type "dict",none,.dict #[⟨cg w.params k,.str k t,z⟩] ep,#[]⟩):h.DictAt (strKind prog w) a [(k,z)] ep:=
 ⟨_,_,hg,⟨rfl,rfl,rfl⟩,rfl,λ e he=>List.mem_singleton.mp (show e∈[_] from List.mem_toArray.mp he)▸⟨k,strKind_is prog w k t,rfl⟩,.cons (strKind_is prog w k t) rfl .nil,List.nodup_cons.mpr ⟨List.not_mem_nil,List.nodup_nil⟩⟩
noncomputable def AS(h:Heap)(as:List Addr):List (Addr×Obj):=as.filterMap λ a=>(h.get? a).map λ o=>(a,o)
theorem ji{h:Heap}{as:List Addr}{p:Addr×Obj}:p∈AS h as↔p.1∈as∧h.get? p.1=some p.2:=by
 unfold AS
 rw [List.mem_filterMap]
 refine ⟨λ ⟨a,ha,e⟩=>?_,λ h=>⟨p.1,h.1,by rw [h.2];rfl⟩⟩
 obtain ⟨o,ho,e⟩:=Option.map_eq_some_iff.mp e
 exact e▸⟨ha,ho⟩
theorem uf{F:List (Addr×Obj)}(as:List Addr):∀ ds:List D,as.length=ds.length->(∀ (j:Nat) a d,as[j]?=some a->ds[j]?=some d->DV F d (.ref a))->DVs F ds (as.map .ref):=by
 induction as with
 | nil=>exact λ ds h _=>List.eq_nil_of_length_eq_zero h.symm▸ .nil
 | cons a as ih=>
  intro ds h k
  cases ds with
  | nil=>exact absurd h (Nat.succ_ne_zero _)
  | cons d ds=>exact .cons _ _ _ _ (k 0 a d rfl rfl) (ih ds (Nat.succ.inj h) λ j=>k (j+1))
structure J4(F:List (Addr×Obj))(kvs:List (Str×Value))(ds:List D):Prop where
 len:kvs.length=ds.length
 get:∀ (j:Nat) k x d,kvs[j]?=some (k,x)->ds[j]?=some d->∃ d',d= .tup [.str k,d']∧DV F d' x
section
variable{Z:Zx}{c:aw}{h₀:Heap}{W:Wd}{σ:St}{s:Shared}{A:Around}
theorem nK(R:ae w.params h₀ W σ s){kvs:List (Str×Value)}{ds:List D}{as:List Addr}{lo B:Addr}{h':Heap}{tk c:Nat}{acc:Array Value}(hz:s.heap.objs.size<=h'.objs.size)(k:∀ b o,s.heap.get? b=some o->h'.get? b=some o)
  (hB:h'.get? B=some { cls:= .type "list",dict:=none,data:= .seq acc c,slots:=#[] }) (hl:as.length=kvs.length) (hg:KdxG (strKind prog w) kvs lo h' as) (hacc:acc.toList=as.map .ref)
  (hk:J4 W.F.fs kvs (dens W.F.en ds)) (hBs:s.heap.objs.size<=B) (hlo:s.heap.objs.size<=lo) (hBa:∀ a∈as,a≠B) :
  PV h₀ W (.ref σ.length) (σ++[some ⟨.type "list",none,.dseq (.lst ds)⟩]) (.ref B) { s with heap:=h',toks:=tk }:=by
 have ax:=R.frzs (AS h' as) (tk:=tk) hz k λ p hp=>⟨Ul hlo (Nat.le_of_lt (hg.above _ (ji.mp hp).1)),(ji.mp hp).2⟩
 have hne:∀ {b x},s.heap.get? b=some x->b≠B:=λ h e=>absurd (Heap.lt_size h) (Nat.not_lt.mpr (e▸hBs))
 have hdv:DVs (AS h' as++W.F.fs) (dens W.F.en ds) (as.map .ref):=uf as _ (hl.trans hk.len) λ j a d h1 h2=>by
  obtain ⟨key,k,x,e1,e2,e3⟩:=hg.pairs j a h1
  obtain ⟨d',e4,hd'⟩:=hk.get j k x d e1 h2
  obtain ⟨t,e5⟩:=Value.isStrOf_shape e2
  rw [e5] at e3
  exact e4▸ .tup _ [.str k t,x] a 0 (List.mem_append.mpr (.inl (ji.mpr ⟨List.mem_of_getElem? h1,e3⟩))) (.cons _ _ _ _ (.str _ _) (.cons _ _ _ _ (hd'.mono λ _ h=>List.mem_append.mpr (.inr h)) .nil))
 refine ⟨{ W with ρ:=W.ρ++[B],F:=⟨W.F.en,AS h' as++W.F.fs⟩ },⟨List.prefix_append _ _,⟨rfl,λ _ h=>List.mem_append.mpr (.inr h)⟩,rfl,rfl,rfl⟩,.ref _ _ (by rw [R.len];exact List.getElem?_concat_length),
  ax.own (ao:=⟨.type "list",none,.dseq (.lst ds)⟩) hB (λ hm=>absurd (R.lt _ hm) (Nat.not_lt.mpr hBs)) (R.no_old (Heap.get?_none_of_le hBs)) (λ p hp=>(List.mem_append.mp hp).elim (λ hp=>hBa _ (ji.mp hp).1) λ hp=>hne (R.fz p hp).1) (λ p hp=>hne (R.pv p hp).1) (.mk _ _ _ _ _ .none ?_)⟩
 rw [show acc=(as.map Value.ref).toArray by rw [← hacc,Array.toArray_toList]]
 exact .dseq (.lst ds) (dens W.F.en ds) _ c rfl hdv
theorem HO{i:Nat}{k:Str}{v:V}{x:Value}(h:sF W s i [(k,v)] x):Gz W s i k v x:=by
 obtain ⟨a,es,ep,e,hi,hg,hE⟩:=h
 obtain ⟨t,z,es',hz,hE',e'⟩:=hE.inv
 rw [← e',← (show []=es' from hE'.inv)] at hg
 exact ⟨a,t,z,ep,e,hi,hg,hz⟩
noncomputable def zU(σ:St)(v:V):Option (Str×V):=(ED σ v).bind one
theorem Dy{v:V}{x:Value}(R:ae w.params h₀ W σ s)(hx:VR W.ρ W.F v x):Ok (zU σ v) λ p=>∃ i,Gz W s i p.1 p.2 x:= .bind (pR R hx) λ m ⟨i,h⟩=>(d9 m).mono λ p e=>⟨i,HO (e▸h)⟩
theorem tL(R:ae w.params h₀ W σ s){v:V}:Ok (zU σ v) λ p=>∃ i a t z ep,v= .ref i∧W.ρ[i]?=some a∧s.heap.get? a=some ⟨.type "dict",none,.dict #[⟨cg w.params p.1,.str p.1 t,z⟩] ep,#[]⟩∧VR W.ρ W.F p.2 z:=λ p hp=>by
 obtain ⟨m,hm,_⟩:=cY hp
 obtain ⟨i,hi,h⟩:=cY hm
 obtain ⟨o,ho,_⟩:=cY h
 have ei:=bh v i hi
 obtain ⟨a,_,ha,_,_⟩:=R.obj i _ (St.at_some ho)
 obtain ⟨j,a',t,z,ep,e,hj,hg,hz⟩:=Dy R (show VR W.ρ W.F v (.ref a) from (show v=V.ref i from ei)▸VR.ref i a ha) p hp
 cases Value.ref.inj e
 exact ⟨i,a,t,z,ep,ei,ha,hg,hz⟩
theorem lR{v:V}{i:Nat}{a:Addr}{y:Value}(ei:v= .ref i)(hi:W.ρ[i]?=some a)(h:VR W.ρ W.F v y):Value.ref a=y:=let ⟨_,hb,e⟩:=(show VR W.ρ W.F (.ref i) y from ei▸h).inv;(Option.some.inj (hi.symm.trans hb))▸e
noncomputable def uz(h₀:Heap):Prop:=∃ o vs,h₀.get? 173=some o∧o.data= .fields vs
noncomputable def Rc(X:Cx)(c:aw)(x a b:Str):de:=λ σ=>if c.code= .ref 173 then (aX X.glob c a σ).bind λ v=>(sS v).bind λ tag=>(aX X.glob c b σ).bind λ u=>(zU σ u).bind λ p=>if tag=p.1 then none else (aS c x (.ref σ.length) (σ++[some (qN [tag,p.1])])).map λ σ'=>(.next,σ') else none
theorem Af{env:Env}{Q:Bool->Shared->Prop}{c:Addr}{o:Obj}{vs:Array Value}{E:Value->Shared->Prop}(hc:env.code= .ref c)(ho:s.heap.get? c=some o)(hd:o.data= .fields vs)(h:∀ b,Q b s):wpAny (model prog w) A (inMainModule env) Q E s:=by
 unfold inMainModule
 dsimp only
 rw [hc]
 split
 ·exact Uk (h _)
 ·refine Uj (wpAny_fieldsOf ho hd ?_)
  split
  ·exact Uj (wpAny_askSetting (Uk (h _)))
  ·exact Uk (h _)
theorem zk{env:Env}{x y:Expr}{pos:Pos}{tag k:Str}{kt:Tok}{z:Value}{a:Addr}{ep:Nat}{b:Bool}{Q:Value->Shared->Prop}(hh:A.handled=none)(hd:(a==sysModules)=false)(htk:tag≠k)(ha:a≠s.heap.objs.size)
  (hx:∀ h' Q',(∀ b o,s.heap.get? b=some o->h'.get? b=some o)->s.heap.objs.size<=h'.objs.size->(∀ tt,Q' (.str tag tt) { s with heap:=h' })->wpAny (model prog w) A (eval x env) Q' ah { s with heap:=h' })
  (hy:∀ h' tk Q',(∀ b o,s.heap.get? b=some o->h'.get? b=some o)->s.heap.objs.size<=h'.objs.size->Q' (.ref a) { s with heap:=h',toks:=tk }->wpAny (model prog w) A (eval y env) Q' ah { s with heap:=h',toks:=tk })
  (hod:s.heap.get? a=some ⟨.type "dict",none,.dict #[⟨cg w.params k,.str k kt,z⟩] ep,#[]⟩)
  (h:∀ h' tk,(∀ b o,s.heap.get? b=some o->h'.get? b=some o)->s.heap.objs.size<=h'.objs.size->(∃ d',h'.get? s.heap.objs.size=some ⟨.type "set",none,d',#[]⟩∧cF w.params [tag,k] d')->Q (.ref s.heap.objs.size) { s with heap:=h',toks:=tk }) :
  wpAny (model prog w) A (setDisplay .oneByOne b [(false,eval x env>>=λ v=>standAt pos>>=λ _=>pure v),(true,eval y env>>=λ v=>standAt pos>>=λ _=>pure v)]) Q ah s:=by
 have lt:∀ {b o},s.heap.get? b=some o->b≠s.heap.objs.size:=λ h=>Nat.ne_of_lt (Heap.lt_size h)
 unfold setDisplay
 rw [if_neg (by decide)]
 refine Uj (wpAny_newSet_of (knd:=strKind prog w) λ led _=>?_)
 dsimp only
 refine Uj (Uo (Uj ?_))
 show wpAny _ _ (evalAll [eval x env>>=λ v=>standAt pos>>=λ _=>pure v]) _ _ _
 refine Uj (Uj (hx (s.heap.push { cls:= .type "set",dict:=none,data:= .set #[] 0 (.fresh 0 0 led) }) _ (λ _ _ h=>Heap.get?_push_of_some _ h) (by rw [Heap.size_push];exact Nat.le_succ _) λ tt=>Uj (wpAny_standAt (Uk (Uj (Uo (Uk (Uk ?_))))))))
 refine Uj (Uo ?_)
 rw [List.forIn_cons]
 refine Uj (Uj (Uj ?_))
 unfold setAdd
 refine Uo (Uj (wpAny_pyHash_str (mW (Heap.get?_push_size _ rfl) λ h1 j hs1 hg1=>Uk ?_)))
 have k1:∀ b o,s.heap.get? b=some o->h1.get? b=some o:=λ b o ho=>(hs1.2 b (lt ho)).trans (Heap.get?_push_of_some _ ho)
 have z1:s.heap.objs.size<=h1.objs.size:=by rw [hs1.1];show _<=(s.heap.push _).objs.size;rw [Heap.size_push];exact Nat.le_succ _
 dsimp only
 rw [List.forIn_nil]
 refine Uk ?_
 rw [if_neg (by decide)]
 refine Uk (Uj ?_)
 show wpAny _ _ (forIn [(true,eval y env>>=λ v=>standAt pos>>=λ _=>pure v)] PUnit.unit _) _ _ _
 rw [List.forIn_cons]
 refine Uj (Uj (Uj (hy h1 _ _ k1 z1 (Uj (wpAny_standAt (Uk ?_))))))
 rw [if_pos rfl]
 refine Uj (Uo (mV (s:={ s with heap:=h1,toks:=s.toks+1 }) hh hd ha.symm htk hg1 (k1 _ _ hod) λ h2 tk q=>Uk ?_))
 dsimp only
 rw [List.forIn_nil]
 exact Uk (Uk (Uk (h h2 tk (λ b o ho=>q.keep b o (lt ho) (k1 b o ho)) (Ul z1 q.size) q.dat)))
theorem G9(G:GC Z.h₀ Z.X.glob Z.X.fns)(hs:∃ o,Z.h₀.get? sysModules=some o)(h173:uz Z.h₀){x a b:Str}{tp ap bp sp p q:Pos}:Ok (Rc Z.X c x a b σ) (SF Z c (exec (.Assign [.Name x tp] (.Set [.Name a ap,.Starred (.Name b bp) sp] 0 q) p)) σ):=
 .ifs λ hcode=> .bind .self λ v hv=> .bind .self λ tag ht=> .bind .self λ u hu=> .bind .self λ m hm=> .ifn λ hne=> .map .self λ σ' hst env A W s bR=>by
  obtain ⟨oc,vs,hoc,hdc⟩:=h173
  have R:=bR.R
  obtain ⟨i,a',t',z,ep,ei,hi,hg,hz⟩:=tL R m hm
  refine wpAny_Assign_Name ?_ (bq rfl)
  rw [arm_eval_Set]
  refine Uj (wpAny_standAt (Uj (Af (c:=173) ((congrArg Env.code bR.e).symm.trans hcode) (R.old _ _ hoc (by decide)) hdc λ b'=>?_)))
  refine zk (x:= .Name a ap) (y:= .Name b bp) bR.a.handled (R.sys hs hi) hne (Nat.ne_of_lt (R.lt a' (List.mem_of_getElem? hi))) (λ h' Q' k hz hq=>?_) (λ h' tk Q' k hz hq=>?_) hg λ h' tk k hz hd=>?_
  ·exact bR.e▸wpAny_Name (aT G (R.ext (tk:=s.toks) hz k) bR.ok hv λ y hy=>let ⟨tt,e⟩:=gT hy tag ht;e▸hq tt) (bc hv)
  ·exact bR.e▸wpAny_Name (aT G (R.ext (tk:=tk) hz k) bR.ok hu λ y hy=>lR ei hi hy▸hq) (bc hu)
  ·obtain ⟨d',hg',hd'⟩:=hd
   have R2:=R.new (tk:=tk) (ao:=qN [tag,m.1]) hz (Nat.le_refl _) R.new_none k hg' (.mk _ _ _ _ _ .none (.sset _ _ hd'))
   have le:=Wd.le_new W s.heap.objs.size
   have a₁:=bR.to le R2
   exact a₁.e▸bv R2 a₁.ok hst (.ref _ _ (by rw [R.len];exact List.getElem?_concat_length)) λ h' tk R3=>⟨_,le,trivial,R3⟩
end
section
variable{Z:Zx}{c:aw}{h₀:Heap}{W:Wd}{σ:St}{s:Shared}{A:Around}{E:Value->Shared->Prop}
theorem kJ{h:Heap}{a b:Addr}{o:Obj}{vs:List Value}{out:Array Value}(hb:b≠a)(ho:h.get? b=some o):(sortedHeap h a vs out).get? b=some o:=by
 unfold sortedHeap
 have hl:b<h.objs.size:=Heap.lt_size ho
 rw [Heap.get?_update_ne _ _ _ _ hb,Heap.get?_push_ne _ _ _ (by rw [size_push',Heap.size_update];exact Nat.ne_of_lt (Nat.lt_succ_of_lt hl)),Heap.get?_push_ne _ _ _ (by rw [Heap.size_update];exact Nat.ne_of_lt hl),Heap.get?_update_ne _ _ _ _ hb]
 exact ho
theorem kI{h:Heap}{a:Addr}{n:Nat}{xs out:Array Value}{vs:List Value}(ho:h.get? a=some (seqObj "list" xs n)):∃ c,(sortedHeap h a vs out).get? a=some (seqObj "list" out c):=by
 have hl:a<h.objs.size:=Heap.lt_size ho
 obtain ⟨e1,ho1⟩:∃ e1,(h.update a (Obj.mapSeq λ _=>#[])).get? a=some (seqObj "list" #[] e1):=⟨_,get?_update_seq ho (λ _=>#[])⟩
 unfold sortedHeap
 refine ⟨_,get?_update_seq (xs:=#[]) (n:=e1) ?_ λ _=>out⟩
 rw [Heap.get?_push_ne _ _ _ (by rw [size_push',Heap.size_update];exact Nat.ne_of_lt (Nat.lt_succ_of_lt hl)),Heap.get?_push_ne _ _ _ (by rw [Heap.size_update];exact Nat.ne_of_lt hl)]
 exact ho1
theorem Cq(v:Value):((arrOf (SortSt.mk' general' ([v].toArray.zip [v].toArray) #[] 7 none)).map (·.2))=#[v]:=by
 show (([v].toArray.zip [v].toArray).map (·.2))=#[v]
 simp
theorem lZ(v:Value):#[v].size<=sizeLine:=by rw [sizeLine_eq];show 1<=16777216;decide
theorem yO{a:Addr}{v:Value}{n:Nat}{P:PySem.Fin->Shared->Prop}(ho:s.heap.get? a=some (seqObj "list" [v].toArray n))(h:P (.done (.ret .none)) { s with heap:=sortedHeap s.heap a [v] #[v] }):wpAny (model prog w) A (Builtin.«list.sort» ⟨[.ref a],[]⟩) P E s:=by
 have ha:a<s.heap.objs.size:=Heap.lt_size ho
 obtain ⟨e1,ho1⟩:∃ e1,(s.heap.update a (Obj.mapSeq λ _=>#[])).get? a=some (seqObj "list" #[] e1):=⟨_,get?_update_seq ho (λ _=>#[])⟩
 have ho6:(((s.heap.update a (Obj.mapSeq λ _=>#[])).push (seqObj "tuple" [v].toArray 0)).push (seqObj "list" #[] 0)).get? a=some (seqObj "list" #[] e1):=by
  rw [Heap.get?_push_ne _ _ _ (by rw [size_push',Heap.size_update];exact Nat.ne_of_lt (Nat.lt_succ_of_lt ha)),Heap.get?_push_ne _ _ _ (by rw [Heap.size_update];exact Nat.ne_of_lt ha)]
  exact ho1
 rw [list_sort_plain]
 refine Uj (listItems_at ho rfl (Uj (listUpdate_at ho rfl (Uj (seqEpoch_at ho1 rfl (Uj (wpAny_newTuple (Uj (wpAny_newList (Uo ?_) (Nat.zero_le _))) (lZ v))))) (lZ v) (Nat.zero_le _))))
 show wpAny (model prog w) A _ P E { s with heap:=((s.heap.update a (Obj.mapSeq λ _=>#[])).push (seqObj "tuple" [v].toArray 0)).push (seqObj "list" #[] 0) }
 dsimp only
 have h2:[v].toArray.size<2:=by show 1<2;decide
 rw [if_pos h2,if_pos h2]
 refine Uj (Uk ?_)
 rw [StateT.run_pure]
 refine Uj (Uk ?_)
 dsimp only
 refine Uj (seqEpoch_at ho6 rfl ?_)
 rw [Cq]
 refine Uj (listUpdate_at ho6 rfl ?_ (Nat.zero_le _) (Nat.le_succ_of_le (lZ v)))
 simp only [bne_self_eq_false,Bool.false_eq_true,if_false]
 exact Uk h
theorem mU{r d:Addr}{k:Str}{x:Value}{ep:Nat}{Q:Value->Shared->Prop}(hh:A.handled=none)(hv:s.heap.IsItemsView r d)(hm:s.heap.DictAt (strKind prog w) d [(k,x)] ep)
  (h:∀ (h':Heap) (tk:Nat) (a B c:Nat),(∀ b o,s.heap.get? b=some o->h'.get? b=some o)->h'.get? B=some { cls:= .type "list",dict:=none,data:= .seq #[.ref a] c,slots:=#[] }->KdxG (strKind prog w) [(k,x)] s.heap.objs.size h' [a]->a≠B->s.heap.objs.size<=B->Q (.ref B) { s with heap:=h',toks:=tk }) :
  wpAny (model prog w) A (call (.builtin "sorted") [.ref r]) Q E s:=by
 have one:∀ z:Value,([z]:List Value).length<=sizeLine:=λ z=>by rw [sizeLine_eq];show 1<=16777216;decide
 refine call_function_entry kind_sorted plain_sorted entry_sorted (args_sorted1 _) ?_
 unfold Builtin.«sorted»
 refine Uj (m:=checkCount "sorted" 1 1 _) (Uk (Uj (kdx_collect (A:=A.in1) (knd:=strKind prog w) (kvs:=[(k,x)]) (ep:=ep) hh hv hm (one x) λ h1 tk as hk hl hG=>?_)))
 obtain ⟨a,rfl⟩:∃ a,as=[a]:=List.length_eq_one_iff.mp hl
 refine Uj (wpAny_newList (Uj (Uo (wpAny_call_entry slot_list_sort ⟨_,Heap.get?_push_size _ rfl,rfl⟩ entry_list_sort (yO (v:= .ref a) (n:=0) (Heap.get?_push_size _ rfl) ⟨_,rfl,Uk ⟨_,rfl,?_⟩⟩) (args_list_sort _)))) (one _))
 have haB:a<h1.objs.size:=hG.there (.head _)
 have keep:∀ b o,h1.get? b=some o->(sortedHeap (h1.push (seqObj "list" [Value.ref a].toArray 0)) h1.objs.size [.ref a] #[.ref a]).get? b=some o:=λ b o ho=>kJ (Nat.ne_of_lt (Heap.lt_size ho)) (Heap.get?_push_of_some _ ho)
 obtain ⟨c,hc⟩:=kI (out:=#[.ref a]) (vs:=[.ref a]) (show (h1.push (seqObj "list" [Value.ref a].toArray 0)).get? h1.objs.size=some (seqObj "list" [Value.ref a].toArray 0) from Heap.get?_push_size _ rfl)
 exact h _ tk a h1.objs.size c (λ b o hb=>keep b o (hk b o hb)) hc ⟨hG.rise,hG.above,λ j b hj=>let ⟨key,k',x',e1,e2,e3⟩:=hG.pairs j b hj;⟨key,k',x',e1,e2,keep b _ e3⟩⟩ (Nat.ne_of_lt haB) (Nat.le_of_lt (Nat.lt_trans (hG.above a (.head _)) haB))
noncomputable def Qz:V->Option D
 | .d d=>some d
 | _=>none
noncomputable def Rf(X:Cx)(c:aw)(f x:Str)(σ:St):Option (V×St):=(aX X.glob c f σ).bind λ v=>(eO v).bind λ g=>if g= .builtin "sorted" then (aX X.glob c x σ).bind λ u=>(zU σ u).bind λ p=>(Qz p.2).map λ d=>(.ref σ.length,σ++[some ⟨.type "list",none,.dseq (.lst [.tup [.str p.1,d]])⟩]) else none
theorem Ha(G:GC Z.h₀ Z.X.glob Z.X.fns)(hs:∃ o,Z.h₀.get? sysModules=some o){f x:Str}{fp xp ap ip pos:Pos}(hl:(ap.endLine==ip.line)=true):Ok (Rf Z.X c f x σ) (SV Z c (eval (.Call (.Name f fp) [.Call (.Attribute (.Name x xp) "items" ap) [] [] ip] [] pos)) σ):=
 .bind .self λ v hv=> .bind (P:=λ g=>v= .glob g) (by cases v<;>first | exact .some rfl | exact .none) λ g ev=> .ifs λ eg=> .bind .self λ u hu=> .bind .self λ p hp=> .map (P:=λ d=>p.2= .d d) (by cases p.2<;>first | exact .some rfl | exact .none) λ d ed env A W s bR=>by
  obtain ⟨i,a',t',z,ep,ei,hi,hg,hz⟩:=tL bR.R p hp
  have hz:DV W.F.fs (den W.F.en d) z:=(show VR W.ρ W.F (.d d) z from ed▸hz).inv
  have R:=bR.R
  show wpAny _ A (eval (.Name f fp) env>>=λ fv=>callWith pos fv [] (backTo pos (starEach [_] env)) []) _ ah s
  refine bR.e▸Uj (wpAny_Name (aT G R bR.ok hv λ y hy=>?_) (bc hv))
  rw [← (show Value.builtin "sorted" = y from eg▸(show VR W.ρ W.F (.glob g) y from ev▸hy).inv)]
  refine aN (aU (λ e he=>by cases he;rfl) ?_)
  rw [aV rfl]
  refine Calls.spliced_cons (wpAny_Call_items (knd:=strKind prog w) (R.sys hs hi) (DictAt.dictOf (mx hg)) rfl hl (λ Q' hq=>wpAny_Name (aT G R bR.ok hu λ y hy=>lR ei hi hy▸hq) (bc hu)) (Calls.spliced_nil ⟨λ Q hq=>Uk (hq _),mU bR.a.handled ⟨_,Heap.get?_push_size _ rfl,rfl,rfl⟩ ((mx hg).push _) λ h' tk b B c' hk hB hG hne hBs=>?_⟩))
  have hsz:s.heap.objs.size<(s.heap.push { cls:= .type "dict_items",data:= .fields #[.ref a'] }).objs.size:=by rw [Heap.size_push];exact Nat.lt_succ_self _
  have hlt:=Nat.lt_of_lt_of_le hsz hBs
  exact nK R (Nat.le_of_lt (Nat.lt_trans hlt (Heap.lt_size hB))) (λ b o ho=>hk b o (Heap.get?_push_of_some _ ho)) hB rfl hG rfl ⟨rfl,λ j k x d' h1 h2=>by
   cases j with
   | zero=>cases h1;cases h2;exact ⟨_,rfl,hz⟩
   | succ j=>exact M.Internal.ns h1⟩ (Nat.le_of_lt hlt) (Nat.le_of_lt hsz) λ a ha'=>List.mem_singleton.mp ha'▸hne
noncomputable def Q9(X:Cx)(c:aw)(x:Str)(σ:St):Option (Bool×St):=(aX X.glob c x σ).bind λ u=>(zU σ u).map λ _=>(true,σ)
theorem G8(G:GC Z.h₀ Z.X.glob Z.X.fns)(hs:∃ o,Z.h₀.get? sysModules=some o){x:Str}{xp:Pos}:Ok (Q9 Z.X c x σ) (SB Z c (λ env=>isTrue (.Name x xp) env (eval (.Name x xp) env)) σ):= .bind .self λ u hu=> .map .self λ p hp env A W s bR=>by
 obtain ⟨i,a',t',z,ep,ei,hi,hg,hz⟩:=tL bR.R p hp
 refine wpAny_isTrue_value (bR.e▸wpAny_Name (aT G bR.R bR.ok hu λ y hy=>lR ei hi hy▸wpAny_truthy_dict (bR.R.sys hs hi) (DictAt.dictOf (mx hg)) (show ((1:Nat):Int)<2 ^ 63 by decide) ⟨rfl,W,.refl W,bR.R.toks _⟩) (bc hu))
theorem uP{t:Expr}{b o:List Stmt}{p:Pos}{q:Bool×St}{u:Fl×St}(ht:SB Z c (λ env=>isTrue t env (eval t env)) σ q)(hx:SF Z c (execs (if q.1=true then b else o)) q.2 u):SF Z c (exec (.If t b o p)) σ u:=λ env A W s a=>wpAny_If (ht.go a λ ac W₁ le a₁=>by
 have:=aC (hx _ _ _ _ a₁) λ _ _ z=>PF.le z le
 generalize q.1=y at this ⊢
 cases y<;>exact this)
noncomputable def RT(X:Cx)(r:b5)(c:aw)(d f:Str)(t:Expr)(body:List Stmt):de:=λ σ=>(Q9 X c d σ).bind λ q=>if q.1=true then (Rf X c f d q.2).bind (IG X r c t body) else none
theorem Hg(S:cO Z)(G:GC Z.h₀ Z.X.glob Z.X.fns)(CO:ClsOk Z.h₀ Z.X)(hs:∃ o,Z.h₀.get? sysModules=some o){d f:Str}{t:Expr}{body:List Stmt}{dp fp xp ap ip pos p q:Pos}(hl:(ap.endLine==ip.line)=true) :
  Ok (RT Z.X Z.r c d f t body σ) (SF Z c (exec (.If (.Name d dp) [.For t (.Call (.Name f fp) [.Call (.Attribute (.Name d xp) "items" ap) [] [] ip] [] pos) body [] p] [] q)) σ):=
 .bind (G8 G hs) λ z ht=> .ifs λ hz=> .bind (Ha G hs hl) λ y te=>(di (uQ S CO rfl te)).mono λ u hx=>uP ht (by rw [if_pos hz];exact hx)
end
theorem cE:Slot "set_iterator" "__next__" "set_iterator.__next__":=
 .of (owner := "set_iterator") (n := "__next__") (by rw [typeLookup_type,builtinLookup_eq_fast];kernel_rfl) (by decide +kernel) (by decide +kernel) (by decide +kernel)
  (by first | exact .inl (by decide +kernel) | exact .inr (by decide +kernel)) (by rw [isSubtype_type];kernel_rfl)
theorem kR(a:Value):argsOk "set_iterator.__next__" ⟨[a],[]⟩:=by unfold argsOk;kernel_rfl
theorem jV:entryFor table "set_iterator.__next__" = some Builtin.«set_iterator.__next__»:=entryFor_of_fast (by kernel_rfl)
theorem kP:entryFor table "set.__iter__" = some Builtin.«frozenset.__iter__»:=entryFor_alias (id' := "frozenset.__iter__") (by kernel_rfl) rfl (by decide +kernel) (by kernel_rfl)
noncomputable def fE(b:Bool):List Nat:=if b then [0,1] else [1,0]
noncomputable def u6{α:Type}(x y:α)(i:Nat):α:=if i=0 then x else y
theorem mY{α:Type}(f:Nat->Nat)(x y:α):pickOrder f #[x,y]=((fE (f 0 % 2==0)).map (u6 x y)).toArray:=by
 have h:f 0 % 2=0∨f 0 % 2=1:=by omega
 unfold pickOrder
 rcases h with h | h<;>rw [h]<;>simp [pickOrder.go,h,Nat.mod_one,fE,u6]
section
variable{s:Shared}{A:Around}{E:Value->Shared->Prop}
theorem iM{src:Source}{n:Nat}{Q:Nat->Shared->Prop}(hn:n≠0)(h:∀ i d,i<n->Q i { s with drawn:=d }):wpAny (model prog w) A (choose src n) Q E s:=λ _ _ _=>⟨hn,h _ _ (Nat.mod_lt _ (Nat.pos_of_ne_zero hn))⟩
theorem r3{α:Type}{z:α}{Q:List α->Shared->Prop}(h:∀ d,Q [z] { s with drawn:=d }):wpAny (model prog w) A (drawOrder 1 [z]) Q E s:=by
 unfold drawOrder
 refine Uj (iM (Nat.succ_ne_zero 0) λ i d hi=>?_)
 obtain rfl:i=0:=Nat.lt_one_iff.mp hi
 exact Uj (Uk (Uk (h d)))
theorem nc{Q:List Nat->Shared->Prop}(h:∀ d b,Q (fE b) { s with drawn:=d }):wpAny (model prog w) A (drawOrder 2 [0,1]) Q E s:=by
 unfold drawOrder
 refine Uj (iM (Nat.succ_ne_zero 1) λ i d hi=>?_)
 match i,hi with
 | 0,_=>exact Uj (r3 λ d'=>Uk (h d' true))
 | 1,_=>exact Uj (r3 λ d'=>Uk (h d' false))
 | i+2,hi=>exact absurd hi (Nat.not_lt.mpr (Nat.le_add_left 2 i))
structure p9(h:Heap)(S:Addr)(e₀ e₁:Int×Value)(ep:Nat)(t:SetTable):Prop where
 obj:h.get? S=some ⟨.type "set",none,.set #[e₀,e₁] ep t,#[]⟩
 fits:t.fits 2=true
 plain:t.plain=false
noncomputable abbrev LX(first:Value)(k S ep:Nat):Obj:={ cls:= .type "set_iterator",dict:=none,data:= .fields #[first,rawInt k,.ref S,rawInt 2,rawInt ep],slots:=#[] }
inductive gQ(h:Heap)(it S ep k:Nat)(b:Bool):Prop
 | text (ht:w.params.followText "set-order" = true) (hp:(w.params.setOrder S ep 0 % 2==0)=b) (hg:h.get? it=some (LX (.int 0 0) k S ep)):gQ h it S ep k b
 | drawn (ht:w.params.followText "set-order" = false) (T n:Nat) (hg:h.get? it=some (LX (.ref T) k S ep)) (ne:it≠T) (hT:h.get? T=some (aF "tuple" ((fE b).map λ i:Nat=>rawInt i) n)):gQ h it S ep k b
theorem gQ.typeIs{it S ep k:Nat}{b:Bool}(h:gQ s.heap it S ep k b):s.TypeIs (.ref it) "set_iterator" := by cases h with
 | text _ _ h=>exact ⟨_,h,rfl⟩
 | drawn _ _ _ h=>exact ⟨_,h,rfl⟩
theorem qT{S ep:Nat}{e₀ e₁:Int×Value}{t:SetTable}{Q:Value->Shared->Prop}(hS:p9 s.heap S e₀ e₁ ep t)
  (h:∀ h' d it b,gQ h' it S ep 0 b->(∀ b ob,s.heap.get? b=some ob->h'.get? b=some ob)->s.heap.objs.size<=it->s.heap.objs.size<=h'.objs.size->Q (.ref it) { s with heap:=h',drawn:=d }):wpAny (model prog w) A (pyIter (.ref S)) Q E s:=by
 have hT:s.TypeIs (.ref S) "set" := ⟨_,hS.obj,rfl⟩
 have k1:∀ (o:Obj) b ob,s.heap.get? b=some ob->(s.heap.push o).get? b=some ob:=λ o b ob hb=>Heap.get?_push_of_some _ hb
 have hd:(!w.params.followText "set-order" && (!t.plain&&decide (2>1)))=!w.params.followText "set-order" := by rw [hS.plain];exact Bool.and_true _
 refine wpAny_pyIter_slot hT F.slot_set_iter (wpAny_call_entry F.slot_set_iter hT kP ?_ (F.args_set_iter_1 _))
 unfold Builtin.«frozenset.__iter__» Builtin.Frozenset.slot0 Builtin.Frozenset.addrOf Builtin.Frozenset.sizeOf setEntries setDrawn
 refine Uj (Uk (Uj (Uj (Uj (wpAny_setState_of hS.obj rfl hS.fits (Uk (Uk ?_)))))))
 refine Uj (Uj (wpAny_setState_of hS.obj rfl hS.fits ?_))
 unfold setsByText setEpoch
 refine Uj (Uj (wpAny_askSetting (Uk (Uk ?_))))
 show wpAny _ _ (if (!w.params.followText "set-order" && (!t.plain&&decide (2>1)))=true then _ else _) _ _ _
 rw [hd]
 cases hb:w.params.followText "set-order" with
 | true=>
  rw [if_neg (by decide)]
  refine Uj (Uk (Uj (Uj (wpAny_setState_of hS.obj rfl hS.fits (Uk (Uj (wpAny_newObj_type ?_ (by size_fits))))))))
  exact Uk ⟨_,rfl, "set_iterator",_,⟨_,Heap.get?_push_size _ rfl,rfl⟩,cE.lookup,h _ s.drawn s.heap.objs.size _ (.text hb rfl (Heap.get?_push_size _ rfl)) (k1 _) (Nat.le_refl _) (by rw [Heap.size_push];exact Nat.le_succ _)⟩
 | false=>
  rw [if_pos (by decide)]
  show wpAny _ _ (drawOrder 2 [0,1]>>=_) _ _ _
  refine Uj (nc λ d b=>?_)
  refine Uj (wpAny_newTuple ?_ (by rw [List.length_map,sizeLine_eq];cases b<;>exact Un rfl))
  refine Uj (Uj (wpAny_setState_of (k1 _ _ _ hS.obj) rfl hS.fits (Uk (Uj (wpAny_newObj_type ?_ (by size_fits))))))
  refine Uk ⟨_,rfl, "set_iterator",_,⟨_,Heap.get?_push_size _ rfl,rfl⟩,cE.lookup,h _ d _ b (.drawn hb s.heap.objs.size 0 (Heap.get?_push_size _ rfl) ?_ (Heap.get?_push_of_some _ (Heap.get?_push_size _ rfl))) (λ b ob hb=>Heap.get?_push_of_some _ (k1 _ b ob hb)) ?_ ?_⟩
  ·show (s.heap.push _).objs.size≠_
   rw [Heap.size_push];exact Nat.succ_ne_self _
  ·show _<=(s.heap.push _).objs.size
   rw [Heap.size_push];exact Nat.le_succ _
  ·rw [Heap.size_push]
   show _<=(s.heap.push _).objs.size+1
   rw [Heap.size_push];exact Nat.le_succ_of_le (Nat.le_succ _)
theorem kX{h:Heap}{it:Addr}{vs:Array Value}(ho:h.get? it=some ⟨.type "set_iterator",none,.fields vs,#[]⟩)(i:Nat)(v:Value):(h.update it (Obj.mapFields λ vs=>vs.setIfInBounds i v)).get? it=some ⟨.type "set_iterator",none,.fields (vs.setIfInBounds i v),#[]⟩:=by
 rw [Heap.get?_update_self _ ho (by rfl)];rfl
theorem oM{S ep k:Nat}{e₀ e₁:Int×Value}{t:SetTable}{Q:Option (Value×Nat)->Shared->Prop}(hS:p9 s.heap S e₀ e₁ ep t)(hb:w.params.followText "set-order" = true)(h:Q (((pickOrder (w.params.setOrder S ep) #[e₀,e₁])[k]?).map λ e=>(e.2,0)) s):wpAny (model prog w) A (setNext S 0 k ep) Q E s:=by
 have txt:∀ {Q':Bool->Shared->Prop},Q' true s->wpAny (model prog w) A setsByText Q' E s:=λ hq=>by
  unfold setsByText
  exact Uj (wpAny_askSetting (Uk (hb▸hq)))
 unfold setNext
 refine Uj (wpAny_setState_of hS.obj rfl hS.fits (Uj (txt ?_)))
 rw [if_pos rfl]
 dsimp only
 rw [if_neg (by simp)]
 refine Uj ?_
 unfold setWalk
 refine Uj (wpAny_setState_of hS.obj rfl hS.fits (Uj (txt ?_)))
 rw [if_pos rfl]
 exact Uj (wpAny_askSetting (Uk (Uk h)))
end
noncomputable abbrev mZ(e₀ e₁:Int×Value)(i:Nat):Value:=(u6 e₀ e₁ i).2
theorem pq:typeLookup (.type "set") "__len__" = pure (some (.builtin "set.__len__")):=by rw [typeLookup_type,builtinLookup_eq_fast];kernel_rfl
section
variable{s:Shared}{A:Around}{E:Value->Shared->Prop}
theorem Dw{b:Bool}{k i:Nat}(h:(fE b)[k]?=some i):i<2:=(show ∀ b,∀ i∈fE b,i<2 by decide) b i (List.mem_of_getElem? h)
theorem vr{α:Type}(l:List Nat)(f:Nat->α)(k:Nat):((l.map f).toArray)[k]?=(l[k]?).map f:=(List.getElem?_toArray ..).trans List.getElem?_map
theorem kb{S ep it k:Nat}{b:Bool}{e₀ e₁:Int×Value}{t:SetTable}{Q:Option Value->Shared->Prop}(hh:A.handled=none)(hS:p9 s.heap S e₀ e₁ ep t)(hit:gQ s.heap it S ep k b)
  (hi:∀ i,(fE b)[k]?=some i->∀ h',gQ h' it S ep (k+1) b->Heap.SameBut it s.heap h'->Q (some (mZ e₀ e₁ i)) { s with heap:=h' })
  (he:(fE b)[k]?=none->∀ h',Heap.ExtBut it s.heap h'->s.heap.objs.size<=h'.objs.size->Q none { s with heap:=h' }):wpAny (model prog w) A (pyNext (.ref it)) Q E s:=by
 have sz:¬ ((((#[e₀,e₁]:Array (Int×Value)).size:Int) != 2)=true):=show ¬ ((((2:Nat):Int) != 2)=true) by decide
 have fin:(fE b)[k]?=none->∀ {h1:Heap},Heap.SameBut it s.heap h1->wpAny (model prog w) A.in1 (newExc (.type "StopIteration") []>>=λ e=>raiseNew e) (λ (_:PySem.Fin) _=>False)
   (λ x s'=>wpAny (model prog w) A (do if (← isInstance x (.type "StopIteration"))=true then pure none else throw x) Q E s') { s with heap:=h1 }:=λ hn {h1} hs1=>
  Uj (iT λ h' e st=>by
   obtain ⟨oe,_,hoe,hce,_,hk,hz⟩:=st
   exact wpAny_raiseNew_none hh (Uj (wpAny_isInstance (T := "StopIteration") (b:=true) ⟨oe,hoe,hce⟩ isSubtype_stop (Uk (he hn h' (λ b ob hb hq=>hk b ob (hs1.extBut b ob hb hq)) (Ul (Up hs1.1.symm) hz))))))
 unfold pyNext
 refine Uj (wpAny_attempt (wpAny_callSpecial?_slot (name:=Str.ofString "__next__") hit.typeIs cE (wpAny_call_entry cE hit.typeIs jV ?_ (kR _))))
 unfold Builtin.«set_iterator.__next__»
 have sb:=Heap.SameBut.update s.heap it
 cases id hit with
 | text hb hp hg=>
  show wpAny _ _ (fieldsOf (.ref it)>>=_) _ _ s
  refine Uj (wpAny_fieldsOf hg rfl ?_)
  show wpAny _ _ (setEntries S>>=_) _ _ s
  unfold setEntries
  refine Uj (Uj (wpAny_setState_of hS.obj rfl hS.fits (Uk ?_)))
  rw [if_neg sz]
  show wpAny _ _ (setNext S 0 ((k:Int).toNat) ((ep:Int).toNat)>>=_) _ _ s
  rw [Int.toNat_natCast,Int.toNat_natCast]
  refine Uj (oM hS hb ?_)
  rw [mY,hp,vr]
  cases hk:(fE b)[k]? with
  | some i=>
   show wpAny _ _ (setField (.ref it) 0 (rawInt 0)>>=_) _ _ s
   have g1:=kX hg 0 (rawInt 0)
   exact Uj (wpAny_setField hg rfl (Un rfl) (Uj (wpAny_setField g1 rfl (Un rfl) (Uk ⟨_,rfl,Uk (hi i hk _ (.text hb hp (kX g1 1 (rawInt ((k:Int)+1)))) ((sb _).trans (Heap.SameBut.update _ it _)))⟩))))
  | none=>
   show wpAny _ _ (setField (.ref it) 2 .none>>=_) _ _ s
   exact Uj (wpAny_setField hg rfl (Un rfl) (wpAny_mono (fin hk (sb _)) (λ _ _ x=>x.elim) λ _ _ x=>x))
 | drawn hb T n hg hTne hT=>
  show wpAny _ _ (fieldsOf (.ref it)>>=_) _ _ s
  refine Uj (wpAny_fieldsOf hg rfl ?_)
  show wpAny _ _ (setEntries S>>=_) _ _ s
  unfold setEntries
  refine Uj (Uj (wpAny_setState_of hS.obj rfl hS.fits (Uk ?_)))
  rw [if_neg sz]
  show wpAny _ _ (seqItems? (.ref T)>>=_) _ _ s
  refine Uj (wpAny_seqItems hT rfl ?_)
  dsimp only
  rw [Int.toNat_natCast,vr]
  cases hk:(fE b)[k]? with
  | some i=>
   show wpAny _ _ (setNextDrawn S ((i:Int).toNat) ((ep:Int).toNat)>>=_) _ _ s
   rw [Int.toNat_natCast,Int.toNat_natCast]
   unfold setNextDrawn
   refine Uj (Uj (wpAny_setState_of hS.obj rfl hS.fits ?_))
   dsimp only
   rw [if_neg (by simp),show (#[e₀,e₁]:Array (Int×Value))[i]?=some (u6 e₀ e₁ i) from by
    have:=Dw hk
    match i,this with
    | 0,_=>rfl
    | 1,_=>rfl]
   exact Uk (Uj (wpAny_setField hg rfl (Un rfl) (Uk ⟨_,rfl,Uk (hi i hk _ (.drawn hb T n (kX hg 1 (rawInt ((k:Int)+1))) hTne ((Heap.get?_update_other _ _ hTne).trans hT)) (sb _))⟩)))
  | none=>
   show wpAny _ _ (setField (.ref it) 0 (rawInt 0)>>=_) _ _ s
   have g1:=kX hg 0 (rawInt 0)
   exact Uj (wpAny_setField hg rfl (Un rfl) (Uj (wpAny_setField g1 rfl (Un rfl) (wpAny_mono (fin hk ((sb _).trans (Heap.SameBut.update _ it _))) (λ _ _ x=>x.elim) λ _ _ x=>x))))
theorem AP{r:Addr}{Q:Bool->Shared->Prop}(hT:s.TypeIs (.ref r) "set")(h:Q false s):wpAny (model prog w) A (Builtin.List.listLengthHint (.ref r)) Q E s:=by
 unfold Builtin.List.listLengthHint
 refine Uj (wpAny_specialOf hT pq ?_)
 generalize hid:("set.__len__" : String)=id0
 wp_delta
 rw [show splitId id0=some ("set", "__len__") from by subst hid;decide +kernel]
 subst hid
 refine Uj (wpAny_isInstance (T := "set") (b:=true) hT (by rw [isSubtype_type];kernel_rfl) ?_)
 refine wpAny_ite_split (λ hab=>absurd hab (by decide)) (λ _=>?_)
 refine wpAny_ite_split (λ _=>?_) (λ hab=>absurd (by decide +kernel) hab)
 exact Uj (wpAny_typeOf hT (Uk h))
end
noncomputable abbrev io(xs:Array Value)(c:Nat):Obj:={ cls:= .type "list",dict:=none,data:= .seq xs c,slots:=#[] }
theorem oj{h:Heap}{L:Addr}{xs:Array Value}{n:Nat}(g:Array Value->Array Value)(ho:h.get? L=some (io xs n)):∃ c,(h.update L (Obj.mapSeq g)).get? L=some (io (g xs) c):=⟨_,get?_update_seq (c := "list") ho g⟩
inductive NU(s:Shared)(L it:Addr)(H:Heap)(xs:Array Value)(r:Result)(s':Shared):Prop
 | mk (h':Heap) (c:Nat) (er:r= .ok (.ret (.ref L))) (es:s'={ s with heap:=h' }) (k:∀ b ob,b≠L->b≠it->H.get? b=some ob->h'.get? b=some ob) (hz:H.objs.size<=h'.objs.size) (hg:h'.get? L=some (io xs c))
inductive JG(s:Shared)(d:Drawn)(xs:List Value)(r:Result)(s':Shared):Prop
 | mk (h':Heap) (c:Nat) (er:r= .ok (.ret (.ref s.heap.objs.size))) (es:s'={ s with heap:=h',drawn:=d }) (k:∀ b ob,s.heap.get? b=some ob->h'.get? b=some ob) (hz:s.heap.objs.size<=h'.objs.size) (hg:h'.get? s.heap.objs.size=some (io xs.toArray c))
section
variable{s:Shared}{A:Around}{E:Value->Shared->Prop}{S L it ep:Nat}{e₀ e₁:Int×Value}{t:SetTable}{b:Bool}
theorem yk{xs:Array Value}{ys:List Value}{c n:Nat}(h:some (io xs c)=some (aF "tuple" ys n)):False:=absurd (show some (Value.type "list")=some (Value.type "tuple") from congrArg (Option.map Obj.cls) h) (by decide)
theorem gQ.keep{h h':Heap}{k:Nat}(x:gQ h it S ep k b)(hL:it≠L){xs:Array Value}{c:Nat}(ho:h.get? L=some (io xs c))(hk:∀ b ob,b≠L->h.get? b=some ob->h'.get? b=some ob):gQ h' it S ep k b:=by
 cases x with
 | text a p g=>exact .text a p (hk _ _ hL g)
 | drawn a T n g d e=>exact .drawn a T n (hk _ _ hL g) d (hk _ _ (λ q=>yk (ho.symm.trans (show h.get? L=some (aF "tuple" _ n) from q▸e))) e)
theorem p9.keep{h h':Heap}(x:p9 h S e₀ e₁ ep t)(k:∀ ob,h.get? S=some ob->h'.get? S=some ob):p9 h' S e₀ e₁ ep t:=⟨k _ x.obj,x.fits,x.plain⟩
theorem Bd(hh:A.handled=none)(hL:it≠L)(hSL:S≠L)(hSi:S≠it):∀ (r:List Nat) (k:Nat) (H:Heap) (xs:Array Value) (c:Nat),(fE b).drop k=r->xs.size=k->gQ H it S ep k b->p9 H S e₀ e₁ ep t->H.get? L=some (io xs c) ->
  codeAny (model prog w) A (.builtin "list.extend.loop" ⟨[.ref L,.ref it,.ref L],[]⟩) (NU s L it H (xs++(r.map (mZ e₀ e₁)).toArray)) { s with heap:=H }:=by
 intro r
 induction r with
 | nil=>
  intro k H xs c hr hx hit hS hg
  refine codeAny_builtin PySem.F.entry_extend_loop ?_
  rw [Around.under_plainId PySem.F.plain_extend_loop _]
  show wpAny _ A.in1 (pyNext (.ref it)>>=_) _ _ _
  refine Uj (kb (s:={ s with heap:=H }) hh hS hit (λ i hi=>M.Internal.ns ((List.getElem?_eq_none_iff.mpr (List.drop_eq_nil_iff.mp hr)).symm.trans hi)) λ _ h' hk hz=>?_)
  exact Uk ⟨h',c,rfl,rfl,λ b ob _ h2 h3=>hk b ob h2 h3,hz,by rw [show xs++(List.map (mZ e₀ e₁) []).toArray=xs from Array.append_empty];exact hk L _ hL.symm hg⟩
 | cons i r ih=>
  intro k H xs c hr hx hit hS hg
  have hi:(fE b)[k]?=some i:=by
   have:((fE b).drop k)[0]?=some i:=by rw [hr];rfl
   rw [List.getElem?_drop] at this
   exact this
  refine codeAny_builtin PySem.F.entry_extend_loop ?_
  rw [Around.under_plainId PySem.F.plain_extend_loop _]
  show wpAny _ A.in1 (pyNext (.ref it)>>=_) _ _ _
  refine Uj (kb (s:={ s with heap:=H }) hh hS hit (λ j hj h1 hit1 hs1=>?_) λ hn=>M.Internal.ns (hn.symm.trans hi))
  cases Option.some.inj (hj.symm.trans hi)
  have hL1:h1.get? L=some (io xs c):=(hs1.2 L hL.symm).trans hg
  have hk:k<=2:=Nat.le_of_lt (Nat.lt_of_lt_of_eq (List.getElem?_eq_some_iff.mp hi).1 (by cases b<;>rfl))
  show wpAny _ A.in1 (updateSeq L (·.push (mZ e₀ e₁ i))>>=_) _ _ _
  refine Uj (wpAny_updateSeq hL1 rfl ?_ (by rw [sizeLine_eq,hx];exact Ul hk (by decide)) (by rw [sizeLine_eq,Array.size_push,hx];exact Ul (Nat.succ_le_succ hk) (by decide)))
  obtain ⟨c2,hL2⟩:=oj (·.push (mZ e₀ e₁ i)) hL1
  have k2:∀ b ob,b≠L->h1.get? b=some ob->(h1.update L (Obj.mapSeq (·.push (mZ e₀ e₁ i)))).get? b=some ob:=λ b ob hb e=>(Heap.get?_update_other _ _ (Ne.symm hb)).trans e
  refine Uk ⟨plainId_quiet PySem.F.plain_extend_loop _,codeAny_mono (ih (k+1) _ _ c2 (by rw [← List.drop_drop,hr];rfl) ((Array.size_push ..).trans (congrArg (·+1) hx)) (hit1.keep hL hL1 k2) (hS.keep λ ob ho=>k2 _ _ hSL ((hs1.2 S hSi).trans ho)) hL2) λ r' s' q=>?_⟩
  obtain ⟨h',c',er,es,kk,hz,hg'⟩:=q
  refine ⟨h',c',er,es,λ b ob hb1 hb2 ho=>kk b ob hb1 hb2 (k2 b ob hb1 ((hs1.2 b hb2).trans ho)),Ul (Up (hs1.1.symm.trans (Heap.size_update ..).symm)) hz,?_⟩
  rw [List.map_cons,List.toArray_cons,hg',Array.push_eq_append,Array.append_assoc]
theorem pV{Q:List Value->Shared->Prop}(hh:A.handled=none)(hS:p9 s.heap S e₀ e₁ ep t)
  (h:∀ h' d b,(∀ b ob,s.heap.get? b=some ob->h'.get? b=some ob)->s.heap.objs.size<=h'.objs.size->Q ((fE b).map (mZ e₀ e₁)) { s with heap:=h',drawn:=d }):wpAny (model prog w) A (collect (.ref S)) Q E s:=by
 have hSL:S≠s.heap.objs.size:=Nat.ne_of_lt (Heap.lt_size hS.obj)
 unfold collect
 refine Uj (wpAny_runValue (codeAny_builtin entry_proto_collect' ?_))
 rw [Around.under_plainId PySem.F.plain_proto_collect _]
 show wpAny _ A.in1 (newList []>>=λ l=>again (.builtin "list.__iadd__" ⟨[l,.ref S],[]⟩)) _ _ s
 refine Uj (wpAny_newObj_type (Uk ⟨plainId_quiet PySem.F.plain_list_iadd _,codeAny_builtin entry_list_iadd' ?_⟩))
 rw [Around.under_plainId PySem.F.plain_list_iadd _]
 have hL0:(s.heap.push { cls:= .type "list",data:= .seq ([]:List Value).toArray }).get? s.heap.objs.size=some (io #[] 0):=Heap.get?_push_size _ rfl
 have kp0:∀ b ob,s.heap.get? b=some ob->(s.heap.push { cls:= .type "list",data:= .seq ([]:List Value).toArray }).get? b=some ob:=λ b ob hb=>Heap.get?_push_of_some _ hb
 have z0:(s.heap.push { cls:= .type "list",data:= .seq ([]:List Value).toArray }).objs.size=s.heap.objs.size+1:=Heap.size_push ..
 show wpAny _ A.in1 (Builtin.List.listExtendWith (.ref s.heap.objs.size) (.ref S) (.ref s.heap.objs.size)) _ _ _
 generalize s.heap.push { cls:= .type "list",data:= .seq ([]:List Value).toArray }=H0 at hL0 kp0 z0 ⊢
 unfold Builtin.List.listExtendWith
 refine Uj (wpAny_typeOf (T := "set") (show Shared.TypeIs { s with heap:=H0 } (.ref S) "set" from ⟨_,kp0 _ _ hS.obj,rfl⟩) ?_)
 have h1:Builtin.List.listSameRef (.ref s.heap.objs.size) (.ref S)=false:=by simp [Builtin.List.listSameRef,Ne.symm hSL]
 simp only [h1,show (Value.type "set" == Value.type "list")=false from by decide,show (Value.type "set" == Value.type "tuple")=false from by decide,Bool.or_false,Bool.false_eq_true,if_false]
 refine Uj (qT (s:={ s with heap:=H0 }) (hS.keep λ ob ho=>kp0 _ _ ho) λ H1 d it b hit k1 hitz z1=>?_)
 replace k1:∀ b ob,H0.get? b=some ob->H1.get? b=some ob:=k1
 replace hitz:s.heap.objs.size+1<=it:=z0▸hitz
 replace z1:s.heap.objs.size+1<=H1.objs.size:=z0▸z1
 have hitL:it≠s.heap.objs.size:=Nat.ne_of_gt hitz
 have hold:∀ {b ob},s.heap.get? b=some ob->b≠s.heap.objs.size∧b≠it:=λ ho=>⟨Nat.ne_of_lt (Heap.lt_size ho),Nat.ne_of_lt (Nat.lt_of_lt_of_le (Heap.lt_size ho) (Nat.le_of_succ_le hitz))⟩
 have hL1:=k1 _ _ hL0
 have loop:∀ (H:Heap) (c:Nat),(∀ b ob,b≠s.heap.objs.size->H1.get? b=some ob->H.get? b=some ob)->H1.objs.size<=H.objs.size->H.get? s.heap.objs.size=some (io #[] c)->codeAny (model prog w) A (.builtin "list.extend.loop" ⟨[.ref s.heap.objs.size,.ref it,.ref s.heap.objs.size],[]⟩) (JG s d ((fE b).map (mZ e₀ e₁))) { s with heap:=H,drawn:=d }:=λ H c hk hz hg=>
  codeAny_mono (Bd (s:={ s with drawn:=d }) (e₀:=e₀) (e₁:=e₁) (t:=t) hh hitL hSL (hold hS.obj).2 (fE b) 0 H #[] c rfl rfl (hit.keep hitL hL1 hk) (hS.keep λ ob ho=>hk _ _ hSL (k1 _ _ (kp0 _ _ ho))) hg) λ r s' ⟨h',c',er,es,kk,hz',hg'⟩=>
   ⟨h',c',er,es,λ b ob ho=>kk b ob (hold ho).1 (hold ho).2 (hk b ob (hold ho).1 (k1 b ob (kp0 b ob ho))),Ul (Nat.le_of_succ_le z1) (Ul hz hz'),(Array.empty_append (xs:=((fE b).map (mZ e₀ e₁)).toArray))▸hg'⟩
 refine Uj (Uo (AP ⟨_,k1 _ _ (kp0 _ _ hS.obj),rfl⟩ ?_))
 refine wpAny_ite_split (λ _=>Uj (wpAny_rule (Uj ?_))) (λ _=>Uk ⟨plainId_quiet PySem.F.plain_extend_loop _,codeAny_mono (loop H1 0 (λ b ob _ e=>e) (Nat.le_refl _) hL1) λ r s' q=>?_⟩)
 ·show wpAny _ _ (updateSeq s.heap.objs.size (·.push .none)>>=λ _=>updateSeq s.heap.objs.size (·.pop)) _ _ _
  obtain ⟨c1,hL2⟩:=oj (·.push Value.none) hL1
  obtain ⟨c2,hL3⟩:=oj (·.pop) hL2
  refine Uj (wpAny_updateSeq hL1 rfl (wpAny_updateSeq hL2 rfl (Uk ⟨plainId_quiet PySem.F.plain_extend_loop _,codeAny_mono (loop _ c2 (λ b ob hb e=>(Heap.get?_update_other _ _ (Ne.symm hb)).trans ((Heap.get?_update_other _ _ (Ne.symm hb)).trans e)) (by rw [Heap.size_update,Heap.size_update];exact Nat.le_refl _) (by simpa using hL3)) λ r s' q=>?_⟩) (by rw [sizeLine_eq];show 1<=16777216;decide) (by rw [sizeLine_eq];show 0<=16777217;decide)) (by rw [sizeLine_eq];decide) (by rw [sizeLine_eq];show 1<=16777217;decide))
  obtain ⟨h',c',er,es,kk,hzz,hg⟩:=q
  subst er es
  show wpAny _ _ (load s.heap.objs.size>>=_) _ _ _
  exact Uj (wpAny_load hg (Uk (h h' d b kk hzz)))
 ·obtain ⟨h',c',er,es,kk,hzz,hg⟩:=q
  subst er es
  show wpAny _ _ (load s.heap.objs.size>>=_) _ _ _
  exact Uj (wpAny_load hg (Uk (h h' d b kk hzz)))
end
theorem DW:kas_sort 2= .ask 1 0 (λ c=> .ret (if c then #[1,0] else #[0,1])):=by
 show KasT.ask _ _ _=KasT.ask _ _ _
 congr 1
 funext c
 cases c<;>rfl
noncomputable def kh(h:Heap)(ex:List Addr):List (Addr×Obj):=oY {} h ex
theorem eA(a:Addr):({}:Heap).get? a=none:=Heap.get?_none_of_le (Nat.zero_le _)
theorem gZ{h:Heap}{ex:List Addr}{p:Addr×Obj}:p∈kh h ex↔p.1∉ex∧h.get? p.1=some p.2:=gA.trans ⟨λ h=>⟨h.1,h.2.2⟩,λ h=>⟨h.1,eA _,h.2⟩⟩
theorem gM{h:Heap}{L:Addr}(hn:h.Ns L λ _=>none):Fr {} L h λ _=>none:=⟨hn,λ b o e=>M.Internal.ns ((eA b).symm.trans e),Nat.zero_le _⟩
theorem nJ{h:Heap}{L:Addr}{ex:List Addr}(hL:L∈ex):News {} L h (kh h ex):=λ p hp=>let ⟨h1,h2⟩:=gZ.mp hp;⟨h2,λ e=>h1 (e▸hL),eA _⟩
theorem dU{h h':Heap}{L:Addr}{ex:List Addr}{l:List (Addr×Obj)}(N:News {} L h' l)(hs:kh h ex⊆l):∀ b o,b∉ex->h.get? b=some o->h'.get? b=some o:=λ b o hb ho=>(N (b,o) (hs (gZ.mpr ⟨hb,ho⟩))).1
theorem mv:entryFor table "list.__lt__" = some Builtin.«list.__lt__»:=entryFor_of_fast (by kernel_rfl)
theorem nB:plainId "list.__eq__.loop" = true:=by decide +kernel
theorem xG:entryFor table "list.__eq__.loop" = some Builtin.«list.__eq__.loop»:=entryFor_of_fast (by kernel_rfl)
theorem il:isSubtype (.type "list") (.type "list")=pure true:=by rw [isSubtype_type];kernel_rfl
section
variable{s:Shared}{A:Around}{E:Value->Shared->Prop}
theorem m6{l m:Addr}{a b:Str}{t u:Tok}{nl nm:Nat}(hne:a≠b) :
  MeetsIn prog w (Builtin.«list.__lt__» ⟨[.ref l,.ref m],[]⟩) (λ _ R s=>(s.heap.get? l=some (aF "list" [.str a t] nl)∧s.heap.get? m=some (aF "list" [.str b u] nm))∧R (.ok (.ret (.bool (decide (a.cps.toList<b.cps.toList))))) s):=
 λ A R s ⟨⟨hl,hm⟩,h⟩=>by
  show wpAny _ _ (isInstance (.ref m) (.type "list")>>=_) _ _ s
  refine Uj (wpAny_isInstance (show s.TypeIs (.ref m) "list" from ⟨_,hm,rfl⟩) il ?_)
  show wpAny _ _ (again (.builtin "list.__eq__.loop" ⟨[.ref l,.ref m,rawInt 0,rawInt 0],[]⟩)) _ _ s
  refine Uk ⟨plainId_quiet nB _,codeAny_builtin xG ?_⟩
  rw [Around.under_plainId nB _]
  show wpAny _ _ (Builtin.List.listItems (.ref l)>>=_) _ _ s
  refine Uj (listItems_at hl rfl (Uj (listItems_at hm rfl ?_)))
  show wpAny _ _ (eqBool (.str a t) (.str b u)>>=_) _ _ s
  refine Uj ((PySem.strKind prog w).eqBool (strKind_is prog w a t) (strKind_is prog w b u) ?_)
  rw [decide_eq_false hne,if_neg Bool.false_ne_true]
  refine Uj (listItems_at hl rfl (Uj (listItems_at hm rfl ?_)))
  show wpAny _ _ (richCompare .Lt (.str a t) (.str b u)>>=_) _ _ s
  exact Uj (wpAny_richCompare_same (typeIs_str s a t) (typeIs_str s b u) slot_str_lt (call_str_lt ⟨by simp,Uk h⟩))
theorem rq{l m:Addr}{a b:Str}{t u:Tok}{nl nm:Nat}{Q:Bool->Shared->Prop}(hu:A.units<cLine)(hl:s.heap.get? l=some (aF "list" [.str a t] nl))(hm:s.heap.get? m=some (aF "list" [.str b u] nm))(hne:a≠b)
  (h:Q (decide (a.cps.toList<b.cps.toList)) s):wpAny (model prog w) A (keyLt' oneType' (.ref l) (.ref m)) Q E s:=by
 rw [keyLt'_oneType,oneLt'_eq,if_pos rfl]
 have hTl:s.TypeIs (.ref l) "list" := ⟨_,hl,rfl⟩
 exact Uj (wpAny_cRoomFor hu (Uj (wpAny_callSpecialIfBound?_slot hTl F.slot_list_lt (call_meetsIn F.slot_list_lt hTl mv (F.args_list_lt_2 _ _) (m6 hne) ⟨⟨hl,hm⟩,wpAny_truthy_bool h⟩))))
end
structure mL(params:Arguments)(body:Expr)(scope:Scope)(nm sep:Str):Prop where
 p1:params.posonlyargs=[]
 p2:params.vararg=none
 p3:params.kwarg=none
 p4:params.args.map (·.arg)=[nm]
 p5:params.kwonlyargs=[]
 gen:scope.isGenerator=false
 cor:scope.isCoroutine=false
 kind:scope.kind= .function
 cell:∀ x∈scope.names,x.2≠ .cell
 loc:scope.names.lookup nm=some .local
 dbg:(nm==("__debug__" : Str))=false
 body:∃ np ap pos q1 p1 q2 p2,ap.endLine=pos.line∧body= .Call (.Attribute (.Name nm np) "split" ap) [.Constant (.str sep) q1 p1,.Constant (.int 1) q2 p2] [] pos
section
variable{h₀:Heap}{X:Cx}{W:Wd}{σ:St}{s s':Shared}{A:Around}{params:Arguments}{body:Expr}{scope:Scope}{nm sep:Str}{name qual:Str}{pm ctv:Value}{c' f:Addr}
theorem Ay{n:Nat}(O:j3 h₀ X n)(R:ae w.params h₀ W σ s)(a:bD 2 A)(hnl:s.heap.NoLimit)(li:mL params body scope nm sep)(hf:s.heap.get? f=some (kla_obj name qual params body scope [] pm c' ctv))(hrec:s.heap.CodeRec (.ref c') qual)
  {x:Str} {t:Tok} (hx:X.O (.meth 3) [.str x,.str sep,.int 1]=some (.lst [.str x])):wpAny (model prog w) A (call (.ref f) [.str x t] []) (PD h₀ W (.lst [.str x]) σ) ah s:=by
 obtain ⟨np,ap,pos,q1,p1,q2,p2,hline,rfl⟩:=li.body
 refine ca (kla_callFunE a.room hf rfl li.cor li.gen rfl hrec ?_)
 refine wpAny_mono (E:=ah) (j5 (dv:=[]) (kd:=λ _=>none) (b:=[(nm,.str x t)]) li.p1 li.p2 li.p3 (.inl ⟨rfl,rfl⟩) (λ n v q=>M.Internal.ns q) ?_ ?_) (λ _ _ x=>x) λ _ _ x=>x.elim
 ·show eF (params.args.map (·.arg)) (params.kwonlyargs.map (·.arg)) [] _ [_]=_
  rw [li.p4,li.p5];simp [eF];exact ⟨_,rfl,by simp⟩
 refine wpAny_newFunctionEnv li.cell (λ y hy=>List.mem_singleton.mp hy▸li.loc) (λ ab hns hsb=>⟨hnl.fresh _ hsb,kla_codeExpr (wpAny_mono (E:=ah) ?_ (λ _ _ q=>q) λ _ _ x=>x.elim)⟩) li.kind
 have hz:s.heap.objs.size<=ab.objs.size:=by rw [hsb.1,Heap.size_push];exact Nat.le_succ _
 have ax:=R.ext (tk:=s.toks+1) hz λ b o e=>hsb.extBut b o (Nat.ne_of_lt (Heap.lt_size e)) (Heap.get?_push_of_some _ e)
 rw [arm_eval_Call,c9 rfl]
 refine Uj (wpAny_Name (wpAny_loadName_local (v:= .str x t) (s:={ s with heap:=ab,toks:=s.toks+1 }) li.kind (show Env.kindOf _ nm=some .local from li.loc) hns (by simp) (Uj (wpAny_standAt ?_))) li.dbg)
 unfold methodCall
 rw [show methodCallForm _ _ _=true from rfl]
 refine Uj (Uo ?_)
 show wpAny (model prog w) _ (getMethod (.str x t) ("split" : Str) _) _ ah _
 refine (iA (name := "split") (.str x t) "str.split" (by kernel_rfl)) _ _ (Uj (wpAny_of_eq (i7 hline) (aN (aU (λ e he=>by cases he;rfl) ?_))))
 rw [aV rfl,aV rfl]
 exact Calls.spliced_cons (wpAny_mkText (Calls.spliced_cons (wpAny_mkInt (Calls.spliced_nil ⟨λ Q hq=>Uk (hq _),O.meth 3 _ (by decide) _ hx _ _ _ (A.deeper (newEnv scope s.heap.objs.size mainGlobals [] (qual ++ ".<locals>.") (some f) (.ref c') none builtinsNs)) [.str x t,.str sep (s.toks+1),.int 1 (s.toks+1+1)] ((a.le (Nat.le_succ 1)).deeper _) ((ax.toks _).toks _) (.cons _ _ _ _ (.str _ _) (.cons _ _ _ _ (.str _ _) (.cons _ _ _ _ (.int _ _) .nil)))⟩))))
end
structure Kp(h₀:Heap)(L:Addr)(s s':Shared):Prop where
 heap:∀ b o,b≠b8->b≠L->s.heap.get? b=some o->s'.heap.get? b=some o
 gens:∀ (j:Nat) (x:GenState),s.gens[j]?=some x->s'.gens[j]?=some x
 size:s.heap.objs.size<=s'.heap.objs.size
 os:s'.os=s.os
 raw:∃ tb,mQ w.params h₀ tb s'
inductive GF(h₀:Heap)(L:Addr)(s:Shared)(x:Str)(k:Value)(s':Shared):Prop
 | mk (kp:∀ b o,b≠b8->s.heap.get? b=some o->s'.heap.get? b=some o) (kq:Kp h₀ L s s') (K n t:Nat) (e:k= .ref K) (g:s'.heap.get? K=some (aF "list" [.str x t] n)) (nw:∀ b o,s.heap.get? b=some o->b≠K) (k0:h₀.get? K=none)
section
variable{h₀:Heap}{X:Cx}{W:Wd}{σ:St}{s s' s'':Shared}{A:Around}{params:Arguments}{body:Expr}{scope:Scope}{nm sep:Str}{name qual:Str}{pm ctv:Value}{c' f L z:Addr}{h':Heap}{tk:Nat}
theorem mQ.no_tab{tb:Tb}(r:mQ w.params h₀ tb s){a:Addr}(h:h₀.get? a=none):a≠b8:=λ e=>let ⟨_,ho⟩:=r.tab.2.1;M.Internal.ns (h.symm.trans (e▸ho))
theorem mQ.zero{tb:Tb}(R:mQ w.params h₀ tb s)(en:Nat->D):ae w.params h₀ { ρ:=[],F:=⟨en,[]⟩,pv:=oY h₀ s.heap [],gg:=Jo s,tb:=tb } [] s:=
 ⟨rfl,List.nodup_nil,λ _ h=>nm h,λ _ h=>nm h,λ _ h=>nm h,λ p hp=>let ⟨_,y,z⟩:=gA.mp hp;⟨z,λ h=>nm h,y,λ _ h=>nm h⟩,λ x hx=>jt.mp hx,λ _ _ _ h=>M.Internal.ns h,R.old,R.tab⟩
theorem Kp.refl{tb:Tb}(r:mQ w.params h₀ tb s):Kp h₀ L s s:=⟨λ _ _ _ _ h=>h,λ _ _ h=>h,Nat.le_refl _,rfl,tb,r⟩
theorem Kp.trans(a:Kp h₀ L s s')(b:Kp h₀ L s' s''):Kp h₀ L s s'':=⟨λ x o h1 h2 h=>b.heap x o h1 h2 (a.heap x o h1 h2 h),λ j x h=>b.gens j x (a.gens j x h),Ul a.size b.size,b.os.trans a.os,b.raw⟩
theorem Kp.turn(k:Kp h₀ L s s')(l0:h₀.get? L=none)(hz:s.heap.objs.size<=z)(z0:h₀.get? z=none)(hold:∀ b o,b∉[L,z]->s'.heap.get? b=some o->h'.get? b=some o)(hsz:s.heap.objs.size<=h'.objs.size){dr:Drawn}:Kp h₀ L s { s' with heap:=h',toks:=tk,drawn:=dr }:=by
 obtain ⟨tb,r⟩:=k.raw
 have out:∀ {b o},h₀.get? b=some o->b∉[L,z]:=λ h hm=>(List.mem_cons.mp hm).elim (λ e=>M.Internal.ns (l0.symm.trans (e▸h))) λ hm=>M.Internal.ns (z0.symm.trans (List.mem_singleton.mp hm▸h))
 obtain ⟨_,ht⟩:=r.tab.2.1
 exact ⟨λ b o h1 h2 h=>hold b o (λ hm=>(List.mem_cons.mp hm).elim h2 λ hm=>absurd (Heap.lt_size h) (Nat.not_lt.mpr (List.mem_singleton.mp hm▸hz))) (k.heap b o h1 h2 h),k.gens,hsz,k.os,tb,λ b o h hn=>hold b o (out h) (r.old b o h hn),hold _ _ (out ht) r.tab.1,r.tab.2⟩
theorem ae.kept(R:ae w.params h₀ W σ s){iL:Nat}(hi:W.ρ[iL]?=some L)(hf:∀ ao,σ[iL]?=some (some ao)->ao.data.isFro=false)(hl:iL<σ.length)(hlo:∃ ao,σ[iL]?=some (some ao))(k:Kp h₀ L s s'):∃ tb:Tb,tb.os=W.tb.os∧ae w.params h₀ { W with tb:=tb } (σ.set iL none) s':=by
 obtain ⟨tb,r⟩:=k.raw
 obtain ⟨ao,ho⟩:=hlo
 have nt:∀ {a},h₀.get? a=none->a≠b8:=λ h=>r.no_tab h
 have nF:∀ {q},q∈W.F.fs->q.1≠L:=λ hq=>(R.slot iL ao L ho hi).ne (hf ao ho) hq
 refine ⟨tb,r.tab.2.2.symm.trans (k.os.trans R.tab.2.2),List.length_set.trans R.len,R.nod,R.fr,λ a ha=>Nat.lt_of_lt_of_le (R.lt a ha) k.size,λ p hp=>⟨k.heap _ _ (nt (R.fz p hp).2) (nF hp) (R.fz p hp).1,(R.fz p hp).2⟩,
  λ p hp=>⟨k.heap _ _ (nt (R.pv p hp).2.2.1) (λ e=>(R.pv p hp).2.1 (e▸List.mem_of_getElem? hi)) (R.pv p hp).1,(R.pv p hp).2⟩,λ x hx=>k.gens _ _ (R.gg x hx),λ i bo a hj ha=>?_,r.old,r.tab⟩
 obtain ⟨hne,hj⟩:=(kW hj).elim (λ q=>M.Internal.ns q.2) id
 exact (R.slot i bo a hj ha).in λ o h=>k.heap a o (nt (R.fr a (List.mem_of_getElem? ha))) (λ e=>hne (R.inj (e▸ha) hi)) h
theorem DT{n:Nat}(O:j3 h₀ X n)(G:GC h₀ X.glob X.fns){tb:Tb}(raw:mQ w.params h₀ tb s)(a:bD 2 A)(li:mL params body scope nm sep)(hf:s.heap.get? f=some (kla_obj name qual params body scope [] pm c' ctv))(hrec:h₀.CodeRec (.ref c') qual)(hct:c'≠b8)
  {x:Str} {t:Tok} (hx:X.O (.meth 3) [.str x,.str sep,.int 1]=some (.lst [.str x])):wpAny (model prog w) A (call (.ref f) [.str x t] []) (GF h₀ L s x) ah s:=by
 have Z:=raw.zero λ _=> .none
 have hrec':s.heap.CodeRec (.ref c') qual:=by
  obtain ⟨c,oc,vs,tq,hc',hoc,r⟩:=hrec
  cases hc'
  exact ⟨c',oc,vs,tq,rfl,raw.old c' oc hoc hct,r⟩
 refine b7 (aC (Ay O Z a (Z.nolimit G) li hf hrec' hx) λ k s' ⟨W',le,hv,R'⟩ hz=>?_)
 have kp:∀ b o,s.heap.get? b=some o->(b≠b8->s'.heap.get? b=some o)∧∀ p∈W'.F.fs,b≠p.1:=λ b o ho=>by
  cases q:h₀.get? b with
  | none=>
   obtain ⟨x,y,z,u⟩:=R'.pv (b,o) (le.pv▸gA.mpr ⟨λ h=>M.Internal.nm h,q,ho⟩)
   exact ⟨λ _=>x,λ p hp e=>u p hp e.symm⟩
  | some o'=>exact ⟨λ hb=>Option.some.inj ((raw.old b o' q hb).symm.trans ho)▸R'.old b o' q hb,λ p hp e=>M.Internal.ns ((R'.fz p hp).2.symm.trans (e▸q))⟩
 obtain ⟨xs,K,n,hm,hs,e⟩:=hv.inv
 obtain ⟨y,ys,hy,hys,e1⟩:=hs.inv
 obtain ⟨t',e2⟩:=hy.inv
 have e3:[]=ys:=hys.inv
 exact ⟨λ b o hb h=>(kp b o h).1 hb,⟨λ b o hb _ h=>(kp b o h).1 hb,λ j x h=>R'.gg (j,x) (le.gg▸jt.mpr h),hz,R'.tab.2.2.trans (le.tb.trans raw.tab.2.2.symm),_,R'.old,R'.tab⟩,K,n,t',e.symm,by rw [e2,e3,e1];exact (R'.fz _ hm).1,λ b o h=>(kp b o h).2 _ hm,(R'.fz _ hm).2⟩
end
structure yc(h₀:Heap)(L D kS:Addr)(ks:List Value)(e1 e:Nat)(s s':Shared):Prop where
 kp:Kp h₀ L s s'
 ns:s'.heap.Ns L λ _=>none
 dd:s'.heap.get? D=some (seqObj "list" #[] e1)
 kk:s'.heap.get? kS=some (seqObj "list" ks.toArray e)
structure QV(h₀:Heap)(L D kS:Addr)(s:Shared):Prop where
 l0:h₀.get? L=none
 d0:h₀.get? D=none
 k0:h₀.get? kS=none
 kz:s.heap.objs.size<=kS
 dz:s.heap.objs.size<=D
 lt:∀ a,h₀.get? a=none->a≠b8
 Dk:D≠kS
 LD:L≠D
 Lk:L≠kS
inductive Jx(h₀:Heap)(L:Addr)(x y:Str)(s:Shared)(v:Value)(s':Shared):Prop
 | mk (D c t u:Nat) (e:v= .ref D) (kp:Kp h₀ L s s') (hz:s.heap.objs.size<=D) (g:s'.heap.get? D=some (aF "list" (if y.cps.toList<x.cps.toList then [.str y u,.str x t] else [.str x t,.str y u]) c))
section
variable{h₀:Heap}{X:Cx}{s s' s'':Shared}{A:Around}{params:Arguments}{body:Expr}{scope:Scope}{nm sep:Str}{name qual:Str}{pm ctv:Value}{c' f L D kS:Addr}{ks ks':List Value}{e1 e c:Nat}{h':Heap}{l:List (Addr×Obj)}
theorem yc.lam(k:yc h₀ L D kS ks e1 e s s')(x:QV h₀ L D kS s)(kp:∀ b o,b≠b8->s'.heap.get? b=some o->s''.heap.get? b=some o)(kq:Kp h₀ L s' s''):yc h₀ L D kS ks e1 e s s'':=
 ⟨k.kp.trans kq,let ⟨o,es,ep,ho,r⟩:=k.ns;⟨o,es,ep,kp _ _ (x.lt _ x.l0) ho,r⟩,kp _ _ (x.lt _ x.d0) k.dd,kp _ _ (x.lt _ x.k0) k.kk⟩
theorem yc.turn(k:yc h₀ L D kS ks e1 e s s')(x:QV h₀ L D kS s)(F:Fr {} L h' λ _=>none)(N:News {} L h' ((kS,seqObj "list" ks'.toArray c)::kh s'.heap [L,kS])):yc h₀ L D kS ks' e1 c s { s' with heap:=h' }:=
 have hold:=dU N λ p hp=> .tail _ hp
 have hg:=(N _ (.head _)).1
 ⟨k.kp.turn (tk:=s'.toks) (dr:=s'.drawn) x.l0 x.kz x.k0 hold (Nat.le_of_lt (Nat.lt_of_le_of_lt x.kz (Heap.lt_size hg))),F.ns,hold D _ (λ h=>(List.mem_cons.mp h).elim (λ e=>x.LD e.symm) λ h=>x.Dk (List.mem_singleton.mp h)) k.dd,hg⟩
theorem Cu{g:Heap}{ob:Obj}{z:Addr}:UpdF z ob ((z,ob)::kh g [L,z]) (λ o'=>(z,o')::kh g [L,z]):= .head λ p hp e=>(gZ.mp hp).1 (e▸ .tail _ (.head _))
theorem vj{g:Heap}{ob:Obj}{z:Addr}(hz:L≠z)(hg:g.get? z=some ob):News {} L g ((z,ob)::kh g [L,z]):=λ p hp=>(List.mem_cons.mp hp).elim (λ e=>e▸⟨hg,hz.symm,eA _⟩) λ hp=>nJ (.head _) p hp
theorem PR{a b z:Addr}(h1:z≠a)(h2:z≠b):z∉[a,b]:=λ h=>(List.mem_cons.mp h).elim h1 λ h=>h2 (List.mem_singleton.mp h)
theorem yP{n:Nat}(O:j3 h₀ X n)(G:GC h₀ X.glob X.fns){tb:Tb}(raw:mQ w.params h₀ tb s)(a:bD 4 A)(li:mL params body scope nm sep)(hf:s.heap.get? f=some (kla_obj name qual params body scope [] pm c' ctv))(hfL:f≠L)(hft:f≠b8)(hrec:h₀.CodeRec (.ref c') qual)(hct:c'≠b8)
  (l0:h₀.get? L=none) (hLns:s.heap.Ns L λ _=>none) {S ep:Nat} {t:SetTable} {jA jz:Str} {tx ty:Tok} (hset:p9 s.heap S (cg w.params jA,.str jA tx) (cg w.params jz,.str jz ty) ep t) (hne:jA≠jz) (hm:∀ z,z=jA∨z=jz->X.O (.meth 3) [.str z,.str sep,.int 1]=some (.lst [.str z])) :
  wpAny (model prog w) A (call (.builtin "sorted") [.ref S] [(Str.ofString "key",.ref f)]) (λ v s'=>∃ x y,((x=jA∧y=jz)∨(x=jz∧y=jA))∧Jx h₀ L x y s v s') ah s:=by
 refine call_function_entry_kw kind_sorted plain_sorted entry_sorted (ksk_s1 _ _) ?_
 unfold Builtin.«sorted»
 refine Uj (m:=checkCount "sorted" 1 1 _) (Uk (Uj (pV (A:=A.in1) a.handled hset λ H1 dd b kp1 hz1=>?_)))
 obtain ⟨x,y,tx,ty,hvs,hxy⟩:∃ x y tx' ty',(fE b).map (mZ (cg w.params jA,.str jA tx) (cg w.params jz,.str jz ty))=[Value.str x tx',Value.str y ty']∧((x=jA∧y=jz)∨(x=jz∧y=jA)):=by
  cases b with
  | true=>exact ⟨jA,jz,tx,ty,rfl,.inl ⟨rfl,rfl⟩⟩
  | false=>exact ⟨jz,jA,ty,tx,rfl,.inr ⟨rfl,rfl⟩⟩
 have hxne:x≠y:=hxy.elim (λ h=>h.1▸h.2▸hne) λ h=>h.1▸h.2▸hne.symm
 have hmx:=hm x (hxy.imp And.left And.left)
 have hmy:=hm y (hxy.elim (λ h=> .inr h.2) λ h=> .inl h.2)
 rw [hvs]
 refine Uj (wpAny_newList ?_ (by rw [sizeLine_eq];show 2<=16777216;decide))
 have hDo:(H1.push (seqObj "list" [Value.str x tx,Value.str y ty].toArray 0)).get? H1.objs.size=some (seqObj "list" [Value.str x tx,Value.str y ty].toArray 0):=Heap.get?_push_size _ rfl
 have hHz:(H1.push (seqObj "list" [Value.str x tx,Value.str y ty].toArray 0)).objs.size=H1.objs.size+1:=size_push' _ _
 have kpH:∀ b ob,s.heap.get? b=some ob->(H1.push (seqObj "list" [Value.str x tx,Value.str y ty].toArray 0)).get? b=some ob:=λ b ob hb=>Heap.get?_push_of_some _ (kp1 b ob hb)
 refine Uj (Uo (wpAny_call_entry_kw slot_list_sort ⟨_,hDo,rfl⟩ entry_list_sort ?body (ksk_l1 _ _)))
 generalize H1.push (seqObj "list" [Value.str x tx,Value.str y ty].toArray 0)=H at hDo hHz kpH ⊢
 generalize H1.objs.size=D at hDo hHz hz1 ⊢
 show wpAny (model prog w) A.in1.in1 (Builtin.«list.sort» ⟨[.ref D],[(Str.ofString "key",.ref f)]⟩) _ _ _
 rw [ksk_t1]
 have none0:∀ z,s.heap.objs.size<=z->h₀.get? z=none:=λ z hz=>fB raw hz
 have hL':∃ o,s.heap.get? L=some o:=let ⟨o,_,_,ho,_⟩:=hLns;⟨o,ho⟩
 have ltL:∀ {z},s.heap.objs.size<=z->L≠z:=λ hz e=>let ⟨_,ho⟩:=hL';absurd (Heap.lt_size ho) (Nat.not_lt.mpr (e▸hz))
 have k0:Kp h₀ L s { s with heap:=H,drawn:=dd }:=(Kp.refl raw).turn (tk:=s.toks) (z:=D) l0 hz1 (none0 D hz1) (λ b o _ h=>kpH b o h) (Nat.le_of_lt (Nat.lt_of_le_of_lt hz1 (Heap.lt_size hDo)))
 have hLns':H.Ns L λ _=>none:=let ⟨o,es,ep,ho,r⟩:=hLns;⟨o,es,ep,kpH _ _ ho,r⟩
 refine kat_keyed (s:={ s with heap:=H,drawn:=dd }) (h₀:={}) (L:=L) (m:=λ _=>none) (news:=kh H [L,D]) (vs:=[.str x tx,.str y ty]) (n:=0) (gM hLns') (nJ (.head _)) hDo (ltL hz1).symm (eA _) (λ p hp e=>(gZ.mp hp).1 (e▸ .tail _ (.head _))) (Nat.le_refl 2) (by show 2<64;decide) λ kS e1 h' F' N' l0' l1=>?_
 have hkS:=N' (kS,seqObj "list" #[] 0) (.head _)
 have hkz:s.heap.objs.size<=kS:=Ul (Nat.le_succ_of_le hz1) l0'
 have hDk:D≠kS:=Nat.ne_of_lt l0'
 have fx:QV h₀ L D kS s:=⟨l0,none0 D hz1,none0 kS hkz,hkz,hz1,λ _ h=>raw.no_tab h,hDk,ltL hz1,ltL hkz⟩
 have S0:yc h₀ L D kS [] e1 0 s { s with heap:=h',drawn:=dd }:=⟨k0.turn (tk:=s.toks) (dr:=dd) (z:=D) l0 hz1 (none0 D hz1) (dU N' λ p hp=> .tail _ (.tail _ hp)) (Nat.le_of_lt (Nat.lt_of_le_of_lt hkz (Heap.lt_size hkS.1))),F'.ns,(N' (D,seqObj "list" #[] e1) (.tail _ (.head _))).1,hkS.1⟩
 have a2:bD 2 A.in1.in1:=(a.in1).in1
 have key:∀ {ks e s' z tz},yc h₀ L D kS ks e1 e s s'->X.O (.meth 3) [.str z,.str sep,.int 1]=some (.lst [.str z])->wpAny (model prog w) A.in1.in1 (call (.ref f) [.str z tz] []) (GF h₀ L s' z) ah s':=λ k hz=>let ⟨_,r⟩:=k.kp.raw;DT O G r a2 li (k.kp.heap f _ hft hfL hf) hrec hct hz
 refine KatKeys.cons (wpAny_mono (key S0 hmx) (λ k s1 q=>?_) λ _ _ x=>x.elim)
 obtain ⟨kp1,kq1,K1,n1,t1,rfl,hK1,hK1n,hK10⟩:=q
 have S1:=S0.lam fx kp1 kq1
 refine KatBack.intro (gM S1.ns) (vj fx.Lk S1.kk) Cu λ h2 c2 F2 N2=>?_
 have S2:yc h₀ L D kS [.ref K1] e1 c2 s { s1 with heap:=h2 }:=S1.turn fx F2 N2
 have nL:∀ {ks e s' K},yc h₀ L D kS ks e1 e s s'->(∀ b o,s'.heap.get? b=some o->b≠K)->K∉[L,kS]:=λ k hn=>let ⟨o,_,_,ho,_⟩:=k.ns;PR (hn L o ho).symm (hn kS _ k.kk).symm
 have g1:h2.get? K1=some (aF "list" [.str x t1] n1):=dU N2 (λ p hp=> .tail _ hp) K1 _ (nL S0 hK1n) hK1
 refine KatKeys.cons (wpAny_mono (key S2 hmy) (λ k s3 q=>?_) λ _ _ x=>x.elim)
 obtain ⟨kp3,kq3,K2,n2,t2,rfl,hK2,hK2n,hK20⟩:=q
 have S3:=S2.lam fx kp3 kq3
 refine KatBack.intro (gM S3.ns) (vj fx.Lk S3.kk) Cu λ h4 c4 F4 N4=>?_
 have S4:yc h₀ L D kS [.ref K1,.ref K2] e1 c4 s { s3 with heap:=h4 }:=S3.turn fx F4 N4
 have m1:h4.get? K1=some (aF "list" [.str x t1] n1):=dU N4 (λ p hp=> .tail _ hp) K1 _ (nL S0 hK1n) (kp3 K1 _ (fx.lt _ hK10) g1)
 have m2:h4.get? K2=some (aF "list" [.str y t2] n2):=dU N4 (λ p hp=> .tail _ hp) K2 _ (nL S2 hK2n) hK2
 refine KatKeys.nil ?_
 show wpAny _ _ (keyKind' (List.toArray [.ref K1,.ref K2])) _ _ _
 refine kas_kind (vs:=[.ref K1,.ref K2]) (T:= .type "list") (Nat.le_refl 2) (λ v hv=>(List.mem_cons.mp hv).elim (λ e=>e▸(Looks.ld m1).andThen .now) λ hv=>List.mem_singleton.mp hv▸(Looks.ld m2).andThen .now) (by decide) (by decide) ?_
 show (kas_sort 2).kasWp (kas_ask prog w A.in1.in1 oneType' (katRev false [.ref K1,.ref K2])) _ _
 rw [DW]
 refine rq (s:={ s3 with heap:=h4 }) a2.cl m2 m1 hxne.symm ?_
 refine KatFin.intro (gM S4.ns) (vj fx.Lk S4.kk) Cu λ h5 c5 F5 N5=>?_
 have S5:yc h₀ L D kS [] e1 c5 s { s3 with heap:=h5 }:=S4.turn fx F5 N5
 refine KasFin.intro (gM S5.ns) (vj fx.LD S5.dd) Cu λ h6 c6 F6 N6=>?_
 have hD6:=(N6 _ (.head _)).1
 refine ⟨_,rfl,Uk ⟨_,rfl,x,y,hxy,D,c6,tx,ty,rfl,S5.kp.turn (tk:=s3.toks) (dr:=s3.drawn) (z:=D) l0 hz1 fx.d0 (dU N6 λ p hp=> .tail _ hp) (Nat.le_of_lt (Nat.lt_of_le_of_lt hz1 (Heap.lt_size hD6))),hz1,hD6.trans ?_⟩⟩
 by_cases q:y.cps.toList<x.cps.toList
 ·rw [if_pos q,decide_eq_true q];rfl
 ·rw [if_neg q,decide_eq_false q];rfl
end
noncomputable def Gl(acc:Nat)(k v:V)(σ:St):Option St:=(sS k).bind λ ks=>(σ.at acc).bind λ o=>(ug o).bind λ m=>if (m.map (·.1)).contains ks=false∧(m.map (·.1)).Nodup∧m.length<=1000∧o.data.isFro=false then some (σ.set acc (some (my (m++[(ks,v)])))) else none
noncomputable def mz(X:Cx)(r:b5)(c:aw)(kx vx t:Expr)(src:iK)(acc:Nat):Nat->Nat->St->Option St
 | 0,_,_=>none
 | m+1,k,σ=>(lH σ src k).bind λ rv=>match rv with
  | none=>some σ
  | some v=>(cW X r c t v σ).bind λ σ₁=>(r.E c kx σ₁).bind λ p=>(r.E c vx p.2).bind λ q=>(Gl acc p.1 q.1 q.2).bind λ cu=>mz X r c kx vx t src acc m (k+1) cu
noncomputable def GJ(A:Around)(kx vx t:Expr)(it:Value)(D:Addr)(env:Env)(Go P:Shared->Prop):Option Value->Shared->Prop:=λ r s=>match r with
 | none=>P s
 | some v=>wpAny (model prog w) A (letOwnedTupleGo t it v) (λ _ ac=>wpAny (model prog w) A (assign t env v) (λ _ az=>wpAny (model prog w) A (eval kx env) (λ z a8=>wpAny (model prog w) A (eval vx env) (λ z' dy=>wpAny (model prog w) A (dictSet D z z') (λ _ iQ=>Go iQ) ah dy) ah a8) ah az) ah ac) ah s
theorem xK{A:Around}{kx vx t iter:Expr}{scope:Scope}{pos:Pos}{it:Value}{D:Addr}{env:Env}(I:Nat->Shared->Prop){P:Shared->Prop}(turn:∀ m s,I m s->wpAny (model prog w) A (pyNext it) (GJ A kx vx t it D env (λ s=>∃ m',m'<m∧I m' s) P) ah s)(m:Nat){s:Shared}(h:I m s) :
  codeAny (model prog w) A (.compLoop (.DictComp kx vx [⟨t,iter,[],0⟩] scope pos) 0 it (.ref D) env) (GA P) s:=
 v3 I (λ m s hI=>by
  rw [compTurn_dict]
  refine Uj (wpAny_standAt (Uj (aC (turn m s hI) λ r ac q=>?_)))
  cases r with
  | none=>exact Uk q
  | some v=>
   refine Uj (aC q λ _ az q=>Uj (aC q λ _ a8 q=>Uj ?_))
   rw [List.forIn_nil]
   refine Uk ?_
   dsimp only
   rw [if_pos rfl]
   exact Uj (Uj (aC q λ z dy q=>Uj (Uo (aC q λ z' iQ q=>Uj (wpAny_standAt (Uo (aC q λ _ Kk q=>Uk ⟨rfl,q⟩))))))) ) rfl rfl m h
theorem rT{ρ:List Addr}{F:Fz}{es:List DictEntry}{kvs:List (Str×Value)}(hp:Pairs (strKind prog w) es kvs):∀ {m:List (Str×V)},(∀ e∈es,∃ k,(strKind prog w).is k e.key=true∧e.hash=(strKind prog w).hash k)->m.map (·.1)=kvs.map (·.1)->VRs ρ F (m.map (·.2)) (kvs.map (·.2))->ER w.params ρ F m es:=by
 induction hp with
 | nil=>exact λ _ hm _=>List.map_eq_nil_iff.mp hm▸ .nil
 | cons h1 h2 _ ih=>
  intro m hk hm hv
  cases m with
  | nil=>exact absurd hm (List.cons_ne_nil _ _).symm
  | cons a m=>
   obtain ⟨hm1,hm2⟩:=List.cons.inj hm
   obtain ⟨x,ys,r,rs,e⟩:=hv.inv
   obtain ⟨e1,e2⟩:=List.cons.inj e
   obtain ⟨hk1,hk2⟩:=List.forall_mem_cons.mp hk
   obtain ⟨t,z,es',hz,hn,e3⟩:=(Bg (k:=a.1) hk1 (by rw [show a.1=_ from hm1];exact h1) (h2.trans e1.symm) r).inv
   obtain ⟨e4,e5⟩:=List.cons.inj e3
   exact e4▸ .cons _ _ t _ _ _ hz (ih hk2 hm2 (e2▸rs))
section
variable{Z:Zx}{h₀:Heap}{W:Wd}{σ:St}{s:Shared}{A:Around}{c:aw}
theorem ER.pairs{ρ:List Addr}{F:Fz}{m:List (Str×V)}{es:List DictEntry}(h:ER w.params ρ F m es):∃ kvs:List (Str×Value),Pairs (strKind prog w) es kvs∧kvs.map (·.1)=m.map (·.1)∧VRs ρ F (m.map (·.2)) (kvs.map (·.2)):=by
 induction h with
 | nil=>exact ⟨[],.nil,rfl,.nil⟩
 | cons k v t x m es h _ ih=>
  obtain ⟨kvs,h1,h2,h3⟩:=ih
  exact ⟨(k,x)::kvs,.cons (strKind_is prog w k t) rfl h1,congrArg (k::·) h2,.cons _ _ _ _ h h3⟩
theorem zc{acc:Nat}{D:Addr}{k v:V}{x y:Value}(R:ae w.params h₀ W σ s)(hi:W.ρ[acc]?=some D)(hx:VR W.ρ W.F k x)(hy:VR W.ρ W.F v y):Ok (Gl acc k v σ) λ σ'=>wpAny (model prog w) A (dictSet D x y) (PU h₀ W σ') ah s:=
 .bind (gT hx) λ ks hks=> .bind .self λ o ho=> .bind (pT (R.at ho hi)) λ m hm=> .ifs λ hc=> .some (by
  obtain ⟨t,ex⟩:=hks
  obtain ⟨hk,hn,hl,hnf⟩:=hc
  obtain ⟨a,es,ep,e,_,hg,hE⟩:=hm
  cases Value.ref.inj e
  obtain ⟨kvs,hp,h1,h2⟩:=hE.pairs
  have hlen:kvs.length=m.length:=(List.length_map (·.1)).symm.trans ((congrArg List.length h1).trans (List.length_map ..))
  rw [ex]
  unfold dictSet
  refine Uo (Uj (wpAny_pyHash_str (wpAny_dictSetHashed_pairs (knd:=strKind prog w) (k:=ks) (kvs:=kvs) (s:={ s with toks:=s.toks+1 }) (strKind_is prog w ks t) ⟨_,es.toArray,ep,hg,⟨rfl,rfl,rfl⟩,rfl,λ e he=>vR hE e (List.mem_toArray.mp he),hp,by rw [h1];exact hn⟩ (λ h' hd' hs'=>?_) (by rw [sizeLine_eq,hlen];exact Ul hl (by decide)))))
  have hst:stored kvs ks y=kvs++[(ks,y)]:=if_neg λ h=>by
   obtain ⟨p,hp,e⟩:=List.any_eq_true.mp h
   exact ft (hk.symm.trans (List.contains_iff_mem.mpr (h1▸List.mem_map.mpr ⟨p,hp,of_decide_eq_true e⟩)))
  rw [hst] at hd'
  obtain ⟨⟨ocl,odc,odt,osl⟩,es',ep',ho',⟨e1,e2,e3⟩,hdt,hko',hp',_⟩:=hd'
  replace e1:ocl=_:=e1
  replace e2:odc=_:=e2
  replace e3:osl=_:=e3
  replace hdt:odt=_:=hdt
  rw [e1,e2,e3,hdt] at ho'
  have hE':ER w.params W.ρ W.F (m++[(ks,v)]) es'.toList:=rT hp' (λ e he=>hko' e (Array.mem_toList_iff.mp he)) (by rw [List.map_append,List.map_append,h1];rfl) (by rw [List.map_append,List.map_append];exact h2.append (.cons _ _ _ _ hy .nil))
  exact ⟨W,.refl W,R.upd (ao:=my (m++[(ks,v)])) (o:=⟨.type "dict",none,.dict es'.toList.toArray ep',#[]⟩) (h':=h') (tk:=s.toks+1) hi ⟨o,St.at_some ho,hnf⟩ (Up hs'.1.symm) hs'.extBut ho' (.mk _ _ _ _ _ .none (.dict _ es'.toList ep' hE'))⟩)
inductive SE(Z:Zx)(c:aw)(kx vx t:Expr)(src:iK)(acc:Nat)(it:Addr)(pv:List (Addr×Obj))(W:Wd)(σ':St)(m:Nat)(s:Shared):Prop
 | mk (k:Nat) (σ:St) (o:Obj) (W₁:Wd) (h:mz Z.X Z.r c kx vx t src acc m k σ=some σ') (le:W.le { W₁ with pv:=pv }) (R:ae w.params Z.h₀ { W₁ with pv:=(it,o)::pv } σ s) (hi:aY W₁ src k o)
theorem tm(S:cO Z)(CO:ClsOk Z.h₀ Z.X){kx vx t:Expr}{src:iK}{acc:Nat}{it D:Addr}{pv:List (Addr×Obj)}(ht:a6 t src=true)(hd:∀ q∈pv,q.1≠it)(a:bD Z.n A)(eX:cx Z.X.K Z.X.O W.F.en)(ok:c.Ok W.ρ.length)(hD:W.ρ[acc]?=some D)(m k:Nat)(σ:St) :
  Ok (mz Z.X Z.r c kx vx t src acc (m+1) k σ) λ σ'=>∀ W₁ o s,W.le { W₁ with pv:=pv }->ae w.params Z.h₀ { W₁ with pv:=(it,o)::pv } σ s->aY W₁ src k o ->
   wpAny (model prog w) A (pyNext (.ref it)) (GJ A kx vx t (.ref it) D (c.env W.ρ) (λ s=>∃ m',m'<m+1∧SE Z c kx vx t src acc it pv W σ' m' s) (PU Z.h₀ W σ' ())) ah s:=by
 refine .bind .self λ rv hrv=>?_
 cases rv with
 | none=>exact .some λ W₁ o s le R hi=>aC (cS a.handled R hd hi _ hrv) λ y ac q=>by cases q with | none R'=>exact ⟨_,le,R'⟩
 | some v=>
  refine .bind (dl S CO t v σ) λ σ₁ ha=> .bind (S.E c kx σ₁) λ p hk=> .bind (S.E c vx p.2) λ q hv=> .bind .self λ cu hput σ' hp W₁ o s le R hi=>aC (cS a.handled R hd hi _ hrv) λ y ac q'=>?_
  cases q' with
  | some _ x rx o' hi' R'=>
   exact i1 ht hi' (R'.pv (it,o') (.head _)).1 (aC (ha _ _ _ _ _ (At.of eX ok a le R') rx) λ _ az ⟨ay,aq,aG⟩=>hk.go ((At.of eX ok a le R').to aq aG) λ z a8 aP br qO fP=>hv.go fP λ z' dy bM fV zr ut=>
    aC (zc ut.R (bF (le.rho.trans (aq.rho.trans (br.rho.trans fV.rho))) hD) (qO.le fV) zr _ hput) λ _ iQ ⟨jZ,dC,mI⟩=>
     let l:=((aq.trans br).trans fV).trans dC
     ⟨m,Nat.lt_succ_self _,k+1,_,o',jZ,hp,Wd.le_pv le l,mI.pvTo l,(hi'.pv (pv:=(it,o')::pv)).le l⟩)
theorem tu(S:cO Z)(CO:ClsOk Z.h₀ Z.X){kx vx t iter:Expr}{scope:Scope}{pos:Pos}{src:iK}{acc:Nat}{it D:Addr}{pv:List (Addr×Obj)}{σ':St}(ht:a6 t src=true)(hd:∀ q∈pv,q.1≠it)(a:bD Z.n A)(eX:cx Z.X.K Z.X.O W.F.en)(ok:c.Ok W.ρ.length)(hD:W.ρ[acc]?=some D){m:Nat}(h:SE Z c kx vx t src acc it pv W σ' m s) :
  codeAny (model prog w) A (.compLoop (.DictComp kx vx [⟨t,iter,[],0⟩] scope pos) 0 (.ref it) (.ref D) (c.env W.ρ)) (GA (PU Z.h₀ W σ' ())) s:=
 xK _ (λ m s ⟨k,σ,o,W₁,h,le,R,hi⟩=>by
  cases m with
  | zero=>exact M.Internal.ns h
  | succ m=>exact tm S CO ht hd a eX ok hD m k σ σ' h W₁ o s le R hi) m h
end
noncomputable abbrev rE:Str := "C14NWriterTarget._start.<locals>.<lambda>"
noncomputable abbrev fW:Pos:=⟨229,71,229,96⟩
structure jv(h₀:Heap):Prop where
 mg:∃ mg bm ob,h₀.Ns mainGlobals mg∧mg "__builtins__" = some (.ref bm)∧bm≠builtinsNs∧bm≠mainGlobals∧bm≠171∧bm≠b8∧h₀.get? bm=some ob∧ob.cls= .type "module" ∧ ob.dict=some builtinsNs∧ob.data= .plain
 cd:CodeHd h₀ 173 171
noncomputable def B3(h₀:Heap):Prop:=∃ ps c',h₀.get? 171=some (tabObj ps)∧TriplesOk ps.toList∧codeAmong fW ps.toList=some (.ref c')∧h₀.CodeRec (.ref c') rE∧c'≠b8
noncomputable def B4(h₀:Heap):Prop:=∃ ps,h₀.get? 171=some (tabObj ps)∧TriplesOk ps.toList∧codeAmong fW ps.toList=none
noncomputable def fR(h₀ ab:Heap):Prop:=(∀ b o,b≠171->h₀.get? b=some o->ab.get? b=some o)∧B3 ab
noncomputable def mM(h₀:Heap)(G:Heap->Prop):Prop:=(B4 h₀∧∀ ab,fR h₀ ab->G ab)∨(B3 h₀∧G h₀)
noncomputable def vW:Obj:={ cls:= .none,data:= .freed }
noncomputable def jQ(n:Nat)(f:Addr->Option Obj):Heap:={ objs:=Array.ofFn (n:=n) λ i=>(f i).getD vW }
theorem ma{n:Nat}{f:Addr->Option Obj}(hd:∀ a o,f a=some o->a<n∧o.alive=true)(a:Addr):(jQ n f).get? a=f a:=by
 unfold jQ
 by_cases h:a<n
 ·have e:(Array.ofFn (n:=n) λ i=>(f i).getD vW)[a]?=some ((f a).getD vW):=by
   rw [Array.getElem?_eq_getElem (by simpa using h)];simp
  cases q:f a with
  | none=>
   rw [q] at e
   show (match (Array.ofFn (n:=n) λ i=>(f i).getD vW)[a]? with | some ⟨_,_,.freed,_⟩=>none | o=>o)=none
   rw [e];rfl
  | some o=>
   rw [q] at e
   exact (Heap.get?_eq_some _ _ _).mpr ⟨e,(hd a o q).2⟩
 ·cases q:f a with
  | none=>exact Heap.get?_none_of_le (by show (Array.ofFn _).size<=a;rw [Array.size_ofFn];exact Nat.not_lt.mp h)
  | some o=>exact absurd (hd a o q).1 h
set_option tactic.hygienic true in
theorem qm{i j:Int}{c:Addr}(l:List Value):TriplesOk l->TriplesOk (l++[rawInt i,rawInt j,.ref c]):=by
 fun_induction TriplesOk l<;>intro h
 ·exact trivial
 ·rename_i ih;exact ih h
 ·exact h.elim
noncomputable def jW(h₀:Heap)(c':Addr)(oc tab:Obj)(a:Addr):Option Obj:=if a=171 then some tab else if a=c' then some oc else h₀.get? a
section
variable{P:Params}{h₀:Heap}{W:Wd}{σ:St}{s:Shared}{A:Around}{c:aw}
theorem ju{h:Heap}{a:Addr}{o:Obj}(e:h.get? a=some o):o.alive=true:=((Heap.get?_eq_some _ _ _).mp e).2
theorem ae.cross(R:ae P h₀ W σ s){h':Heap}{c':Addr}{oc tab:Obj}{tk:Nat}(kx:Heap.ExtBut 171 s.heap h')(hz:s.heap.objs.size<=h'.objs.size)(hc:s.heap.objs.size<=c')(hoc:h'.get? c'=some oc)(ht:h'.get? 171=some tab)(h171:∃ o,h₀.get? 171=some o) :
  ∃ ab:Heap,(∀ a,ab.get? a=jW h₀ c' oc tab a)∧ae P ab W σ { s with heap:=h',toks:=tk }:=by
 obtain ⟨o171,e171⟩:=h171
 have old_lt:∀ {b o},h₀.get? b=some o->b<s.heap.objs.size:=λ e=>let ⟨o',e'⟩:=R.old' e;Heap.lt_size e'
 have hG:∀ a,(jQ h'.objs.size (jW h₀ c' oc tab)).get? a=jW h₀ c' oc tab a:=ma λ a o e=>by
  unfold jW at e
  split at e
  ·rename_i q;cases e;exact q▸⟨Heap.lt_size ht,ju ht⟩
  ·split at e
   ·rename_i q;cases e;exact q▸⟨Heap.lt_size hoc,ju hoc⟩
   ·exact ⟨Nat.lt_of_lt_of_le (old_lt e) hz,ju e⟩
 have n171:∀ {a},h₀.get? a=none->a≠171:=λ ha e=>M.Internal.ns ((e▸ha).symm.trans e171)
 have gnone:∀ {a},h₀.get? a=none->a<s.heap.objs.size->(jQ h'.objs.size (jW h₀ c' oc tab)).get? a=none:=λ ha hl=>(hG _).trans ((if_neg (n171 ha)).trans ((if_neg (Nat.ne_of_lt (Nat.lt_of_lt_of_le hl hc))).trans ha))
 refine ⟨_,hG,R.len,R.nod,λ a ha=>gnone (R.fr a ha) (R.lt a ha),λ a ha=>Nat.lt_of_lt_of_le (R.lt a ha) hz,λ p hp=>⟨kx _ _ (n171 (R.fz p hp).2) (R.fz p hp).1,gnone (R.fz p hp).2 (Heap.lt_size (R.fz p hp).1)⟩,
  λ p hp=>⟨kx _ _ (n171 (R.pv p hp).2.2.1) (R.pv p hp).1,(R.pv p hp).2.1,gnone (R.pv p hp).2.2.1 (Heap.lt_size (R.pv p hp).1),(R.pv p hp).2.2.2⟩,R.gg,λ i ao a hi ha=>(R.slot i ao a hi ha).in λ o h=>kx _ _ (n171 (R.fr a (List.mem_of_getElem? ha))) h,λ b o e hb=>?_,kx _ _ (by decide) R.tab.1,?_,R.tab.2.2⟩
 ·rw [hG] at e
  unfold jW at e
  split at e
  ·rename_i q;cases e;exact q▸ht
  ·split at e
   ·rename_i q;cases e;exact q▸hoc
   ·rename_i q1 q2;exact kx _ _ q1 (R.old b o e hb)
 ·obtain ⟨o',ho'⟩:=R.tab.2.1
  exact ⟨o',(hG _).trans ((if_neg (by decide)).trans ((if_neg (Nat.ne_of_lt (Nat.lt_of_lt_of_le (old_lt ho') hc))).trans ho'))⟩
inductive NL(Gd:Heap->Prop)(W:Wd)(σ:St)(ps:Arguments)(b:Expr)(sc:Scope)(fv:Value)(ac:Shared):Prop
 | mk (ab:Heap) (f c':Addr) (pm ctv:Value) (cr:Gd ab) (e:fv= .ref f) (R:ae w.params ab { W with F:=⟨W.F.en,(f,kla_obj "<lambda>" rE ps b sc [] pm c' ctv)::W.F.fs⟩ } σ ac) (rec:ab.CodeRec (.ref c') rE) (hct:c'≠b8)
theorem HY{glob:Str->Option Value}{fns:Addr->Option FuncData}(G:GC h₀ glob fns)(R:ae w.params h₀ W σ s)(lb:jv h₀){Gd:Heap->Prop}(lo:mM h₀ Gd){ps:Arguments}{b:Expr}{sc:Scope}{env:Env}(hclo:closureFor sc env=pure [])(hg:env.globals=mainGlobals)(hcode:env.code= .ref 173) :
  wpAny (model prog w) A (makeFunction "<lambda>" rE ps (.expr b) sc env [] [] [] fW fW.line) (NL Gd W σ ps b sc) ah s:=by
 obtain ⟨mg,bm,ob,hns,g1,g2,g3,g4,g5,g6,g7,g8,g9⟩:=lb.mg
 have n1:=R.ns G hns
 have n2:s.heap.BuiltinsAt mg 171:=⟨bm,ob,g1,g2,g3,g4,R.old _ _ g6 g5,g7,g8,g9⟩
 have n3:CodeHd s.heap 173 171:=by
  obtain ⟨o,vs,file,tf,flags,tg,inF,text,tt,e,r⟩:=lb.cd
  exact ⟨o,vs,file,tf,flags,tg,inF,text,tt,R.old _ _ e (by decide),r⟩
 rcases lo with ⟨⟨pa,t1,t2,t3⟩,hG⟩ | ⟨⟨pa,c',t1,t2,t3,t4,t5⟩,hG⟩
 ·refine kla_makeFunction (ps:=pa) (mg:=mg) hclo hg n1 hcode n3 (R.old _ _ t1 (by decide)) t2 t3 (by decide) n2 λ c' ctv h' tk hkp hcz hclt hrec htb=>?_
  obtain ⟨c2,oc,vs,tq,hc2,hoc,hrr⟩:=hrec
  cases hc2
  obtain ⟨ab,AQ,R0⟩:=R.cross (tk:=tk) hkp (Ul hcz (Nat.le_of_lt hclt)) hcz hoc htb ⟨_,t1⟩
  have old_ne:∀ {b o},h₀.get? b=some o->b≠c':=λ h e=>let ⟨_,ho⟩:=R.old' h;absurd (Heap.lt_size ho) (Nat.not_lt.mpr (e▸hcz))
  obtain ⟨o8,ho8⟩:=R.tab.2.1
  have rec1:ab.CodeRec (.ref c') rE:=⟨c',oc,vs,tq,rfl,(AQ c').trans ((if_neg (old_ne t1).symm).trans (if_pos rfl)),hrr⟩
  have among:codeAmong fW (pa++#[rawInt fW.line,rawInt fW.col,.ref c']).toList=some (.ref c'):=by
   rw [Array.toList_append]
   exact codeAmong_snoc (pos:=fW) (c:= .ref c') pa.toList t2 t3
  have triples:TriplesOk (pa++#[rawInt fW.line,rawInt fW.col,.ref c']).toList:=by
   rw [Array.toList_append]
   exact qm _ t2
  refine ⟨ab,h'.objs.size,c',_,ctv,hG _ ⟨λ b o hb e=>(AQ b).trans ((if_neg hb).trans ((if_neg (old_ne e)).trans e)),_,c',(AQ 171).trans (if_pos rfl),triples,among,rec1,(old_ne ho8).symm⟩,rfl,R0.frz (by rw [Heap.size_push];exact Nat.le_succ _) (Nat.le_refl _) (λ b o ho=>Heap.get?_push_of_some _ ho) (Heap.get?_push_size _ rfl),rec1,(old_ne ho8).symm⟩
 ·refine kla_makeFunctionHit (ps:=pa) (cv:= .ref c') (mg:=mg) hclo hg n1 hcode n3 (R.old _ _ t1 (by decide)) t2 t3 n2 λ ctv h' tk hkp hz=>?_
  exact ⟨h₀,h'.objs.size,c',_,ctv,hG,rfl,R.frz (Ul hz (by rw [Heap.size_push];exact Nat.le_succ _)) hz (λ b o ho=>Heap.get?_push_of_some _ (hkp b o ho)) (Heap.get?_push_size _ rfl),t4,t5⟩
end
inductive J2(Gd:Heap->Prop)(W:Wd)(v:V)(σ:St)(x:Value)(s:Shared):Prop
 | mk (ab:Heap) (g:Gd ab) (q:PV ab W v σ x s)
inductive OF(Gd:Heap->Prop)(W:Wd)(f:Fl)(σ:St)(x:Flow)(s:Shared):Prop
 | mk (ab:Heap) (g:Gd ab) (q:PF ab W f σ x s)
noncomputable def SG(Z:Zx)(Gd:Heap->Prop)(c:aw)(t:Env->Sem Flow)(σ:St)(p:Fl×St):Prop:=∀ env A W s,At Z c env A W σ s->wpAny (model prog w) A (t env) (OF Gd W p.1 p.2) ah s
noncomputable def FI(z:Str):Bool:=z==("r" : Str)||z==("b" : Str)||z==("k" : Str)
noncomputable def Dv(a b:Str):List Str:=if b.cps.toList<a.cps.toList then [b,a] else [a,b]
noncomputable def CA(a b:Str):Bool:=decide (a.cps.toList<b.cps.toList)==!decide (b.cps.toList<a.cps.toList)
theorem Du{a b x y:Str}(ht:CA a b=true)(h:(x=a∧y=b)∨(x=b∧y=a)):(if y.cps.toList<x.cps.toList then [y,x] else [x,y])=Dv a b:=by
 rcases h with ⟨e,e'⟩ | ⟨e,e'⟩
 ·rw [e,e'];rfl
 ·have q:=of_decide_eq_true ((beq_iff_eq.trans decide_eq_true_iff.symm).mp ht)
  rw [e,e']
  unfold Dv
  by_cases l:b.cps.toList<a.cps.toList
  ·rw [if_pos l,if_neg λ l'=>?_]
   rw [decide_eq_true l,decide_eq_true l'] at q
   exact ft q.symm
  ·rw [if_neg l,if_pos ?_]
   rw [decide_eq_false l] at q
   exact of_decide_eq_true q
theorem C7{P:Params}{a b:Str}{d:Data}(hne:a≠b)(h:cF P [a,b] d):∃ x y tx ty ep t,((x=a∧y=b)∨(x=b∧y=a))∧d= .set #[(cg P x,.str x tx),(cg P y,.str y ty)] ep t∧t.fits 2=true∧t.plain=false:=by
 obtain ⟨es,n,t,lt,e,hf,_,he,hp,hpl⟩:=h
 have hl:lt.length=2:=(List.length_map (·.1)).symm.trans hp.length_eq
 obtain ⟨p,lt,rfl⟩:=List.exists_cons_of_length_eq_add_one hl
 obtain ⟨q,rfl⟩:=List.length_eq_one_iff.mp (Nat.succ.inj hl)
 have hes:es=#[(cg P p.1,.str p.1 p.2),(cg P q.1,.str q.1 q.2)]:=Array.ext' he
 have m1:p.1∈[a,b]:=hp.mem_iff.mp (.head _)
 have m2:q.1∈[a,b]:=hp.mem_iff.mp (.tail _ (.head _))
 have nd:p.1≠q.1:=λ e=>(List.nodup_cons.mp (show [p.1,q.1].Nodup from hp.nodup_iff.mpr (List.nodup_cons.mpr ⟨λ h=>hne (List.mem_singleton.mp h),List.nodup_cons.mpr ⟨List.not_mem_nil,List.nodup_nil⟩⟩))).1 (List.mem_singleton.mpr e)
 refine ⟨p.1,q.1,p.2,q.2,n,t,?_,hes▸e,(congrArg (λ e:Array (Int×Value)=>t.fits e.size) hes).symm.trans hf,hpl (List.cons_ne_nil _ _)⟩
 rcases List.mem_cons.mp m1 with e1 | e1<;>rcases List.mem_cons.mp m2 with e2 | e2
 ·exact absurd (e1.trans e2.symm) nd
 ·exact .inl ⟨e1,List.mem_singleton.mp e2⟩
 ·exact .inr ⟨List.mem_singleton.mp e1,e2⟩
 ·exact absurd ((List.mem_singleton.mp e1).trans (List.mem_singleton.mp e2).symm) nd
theorem EE(o:AO):Ok (ug o) λ _=>o.data.isFro=false:= .ifs λ _=>(dD o).mono λ m e=>e▸rfl
section
variable{h₀:Heap}{X:Cx}{W:Wd}{σ:St}{s:Shared}{A:Around}
theorem wF{n:Nat}(O:j3 h₀ X n)(G:GC h₀ X.glob X.fns){ps:Arguments}{b:Expr}{sc:Scope}{no sep:Str}(li:mL ps b sc no sep)(a:bD 4 A){f c':Addr}{pm ctv:Value}{W₁:Wd}(le:W.le W₁)(R:ae w.params h₀ W₁ σ s)(hf:(f,kla_obj "<lambda>" rE ps b sc [] pm c' ctv)∈W₁.F.fs)(hrec:h₀.CodeRec (.ref c') rE)(hct:c'≠b8)
  {iS iL:Nat} {S:Addr} {x y:Str} {oS oL:AO} (hi:W₁.ρ[iS]?=some S) (hS:σ.at iS=some oS) (hS':tA oS=some [x,y]) (hL:σ.at iL=some oL) (hL':ug oL=some []) (hne:x≠y) (ht:CA x y=true) (hm:∀ z,z=x∨z=y->X.O (.meth 3) [.str z,.str sep,.int 1]=some (.lst [.str z])) :
  wpAny (model prog w) A (call (.builtin "sorted") [.ref S] [(Str.ofString "key",.ref f)]) (PV h₀ W (.ref σ.length) (σ.set iL none++[bS (.lst ((Dv x y).map .str))])) ah s:=by
 obtain ⟨L,_,hiL,_⟩:=R.obj iL _ (St.at_some hL)
 obtain ⟨S',d,eS,_,hgS,hd⟩:=oN (R.at hS hi) _ hS'
 obtain ⟨L',es,epL,eL,_,hgL,hE⟩:=pT (R.at hL hiL) _ hL'
 cases Value.ref.inj eS
 cases Value.ref.inj eL
 have hes:[]=es:=hE.inv
 obtain ⟨jA,jz,tx,ty,ep,t,hxy,ed,ht1,ht2⟩:=C7 hne hd
 rw [ed] at hgS
 have raw:=R.raw
 have hLf:=EE oL _ hL'
 obtain ⟨hfg,hf0⟩:=R.fz _ hf
 have hnL:(L:Addr)≠f:=λ e=>(R.slot iL _ L (St.at_some hL) hiL).ne hLf hf e.symm
 refine aC (yP O G raw a li hfg hnL.symm (raw.no_tab hf0) hrec hct (R.fr L (List.mem_of_getElem? hiL)) ⟨_,es.toArray,epL,hgL,rfl,hes▸λ e he=>nm (List.mem_toArray.mp he),λ k=>hes▸rfl⟩ ⟨hgS,ht1,ht2⟩ (hxy.elim (λ q=>q.1▸q.2▸hne) λ q=>q.1▸q.2▸hne.symm) λ z hz=>hm z (hz.elim (λ e=>e▸hxy.imp And.left And.left) λ e=>e▸(hxy.imp And.right And.right).symm)) λ v s' ⟨x',y',hx',D,c,t1,t2,ev,kp,hz,hg⟩=>?_
 have hx2:(x'=x∧y'=y)∨(x'=y∧y'=x):=hx'.elim (λ q=>q.1▸q.2▸hxy) λ q=>q.1▸q.2▸(hxy.imp And.symm And.symm).symm
 obtain ⟨tb,htb,R'⟩:=R.kept hiL (λ ao e=>Option.some.inj (Option.some.inj (e.symm.trans (St.at_some hL)))▸hLf) (List.getElem?_eq_some_iff.mp (St.at_some hL)).1 ⟨_,St.at_some hL⟩ kp
 have out:∀ {b o},s.heap.get? b=some o->b≠D:=λ h e=>absurd (Heap.lt_size h) (Nat.not_lt.mpr (e▸hz))
 refine ⟨{ W₁ with tb:=tb,ρ:=W₁.ρ++[D] },le.trans ⟨List.prefix_append _ _,.refl _,rfl,rfl,htb⟩,ev▸ .ref _ _ (by rw [R.len];exact List.getElem?_concat_length),R'.own (o:=aF "list" (if y'.cps.toList<x'.cps.toList then [.str y' t2,.str x' t1] else [.str x' t1,.str y' t2]) c) hg (λ h=>absurd (R.lt _ h) (Nat.not_lt.mpr hz)) (fB raw hz) (λ q hq=>out (R.fz q hq).1) (λ q hq=>out (R.pv q hq).1) (.mk _ _ _ _ _ .none (.dseq _ _ _ c rfl ?_))⟩
 rw [← Du ht hx2]
 by_cases l:y'.cps.toList<x'.cps.toList
 ·rw [if_pos l,if_pos l];exact .cons _ _ _ _ (.str _ _) (.cons _ _ _ _ (.str _ _) .nil)
 ·rw [if_neg l,if_neg l];exact .cons _ _ _ _ (.str _ _) (.cons _ _ _ _ (.str _ _) .nil)
end
noncomputable def zH(X:Cx)(c:aw)(q:Str)(σ:St):Option Nat:=(aX X.glob c q σ).bind f9
noncomputable def Kg:List Str->Option (Str×Str)
 | [a,b]=>some (a,b)
 | _=>none
theorem Cv:∀ l,Ok (Kg l) λ p=>l=[p.1,p.2]
 | []=> .none
 | [_]=> .none
 | [_,_]=> .some rfl
 | _::_::_::_=> .none
noncomputable def Sm(X:Cx)(r:b5)(c:aw)(kx vx t:Expr)(scope:Scope)(σ:St):Option (V×St):=(dL scope.names c.cells []).bind λ cl=>(qE σ (.ref (σ.length-1))).bind λ src=>if a6 t src=true then (mz X r (xO c scope cl (my []) σ) kx vx t src σ.length 4096 0 (MU c scope cl (my []) σ)).bind λ bk=>((bk.at (σ.length+1)).bind kl).map λ _=>(.ref σ.length,bk.set (σ.length+1) none) else none
inductive Q1(X:Cx)(r:b5)(c:aw)(kx vx t:Expr)(scope:Scope)(σ:St)(p:V×St):Prop
 | mk (cl:List (Str×Nat)) (src:iK) (bk:St) (o:AO) (m:List (Str×V)) (hcl:dL scope.names c.cells []=some cl) (hs:qE σ (.ref (σ.length-1))=some src) (ht:a6 t src=true) (h:mz X r (xO c scope cl (my []) σ) kx vx t src σ.length 4096 0 (MU c scope cl (my []) σ)=some bk) (ho:bk.at (σ.length+1)=some o) (hm:o.data= .dict m) (e:(V.ref σ.length,bk.set (σ.length+1) none)=p)
theorem I5{X:Cx}{r:b5}{c:aw}{kx vx t:Expr}{scope:Scope}{σ:St}:Ok (Sm X r c kx vx t scope σ) (Q1 X r c kx vx t scope σ):=
 .bind .self λ cl hcl=> .bind .self λ src hs=> .ifs λ ht=> .bind .self λ bk h=> .map .self λ m hm=>by
  obtain ⟨o,ho,hm⟩:=cY hm
  exact ⟨cl,src,bk,o,m,hcl,hs,ht,h,ho,dD o m hm,rfl⟩
inductive BT(X:Cx)(c:aw)(q L:Str)(σ:St)(x y:Str)(iL:Nat):Prop
 | mk (iS:Nat) (oS oL:AO) (h1:zH X c q σ=some iS) (h2:zH X c L σ=some iL) (h3:σ.at iS=some oS) (h4:tA oS=some [x,y]) (h5:σ.at iL=some oL) (h6:ug oL=some []) (h7:x≠y) (h8:CA x y=true) (h9:FI x=true) (h10:FI y=true)
noncomputable def yQ(X:Cx)(c:aw)(q L:Str)(σ:St):Option (Str×Str×Nat):=(zH X c q σ).bind λ iS=>(zH X c L σ).bind λ iL=>(σ.at iS).bind λ oS=>(tA oS).bind λ l=>(Kg l).bind λ p=>(σ.at iL).bind λ oL=>(ug oL).bind λ m=>
 if (p.1≠p.2∧CA p.1 p.2=true)∧(FI p.1=true∧FI p.2=true)∧m.length=0 then some (p.1,p.2,iL) else none
theorem wG{X:Cx}{c:aw}{q L:Str}{σ:St}:Ok (yQ X c q L σ) λ p=>BT X c q L σ p.1 p.2.1 p.2.2:=
 .bind .self λ iS h1=> .bind .self λ iL h2=> .bind .self λ oS h3=> .bind .self λ l h4=> .bind (Cv l) λ p e=> .bind .self λ oL h5=> .bind .self λ m h6=> .ifs λ h=> .some
  ⟨iS,oS,oL,h1,h2,h3,e▸h4,h5,List.eq_nil_of_length_eq_zero h.2.2▸h6,h.1.1,h.1.2,h.2.1.1,h.2.1.2⟩
noncomputable abbrev ox(x y:Str)(iL:Nat)(σ:St):St:=σ.set iL none++[bS (.lst ((Dv x y).map .str))]
noncomputable def Lx(X:Cx)(r:b5)(c:aw)(f q L x:Str)(kx vx t dc:Expr)(tp:Pos)(sc scope:Scope):de:=λ σ=>
 if (c.code= .ref 173∧c.qual = "C14NWriterTarget._start.<locals>.")∧dL sc.names c.cells []=some []∧oq c x tp dc=true then
  (aX X.glob c f σ).bind λ v=>(eO v).bind λ g=>if g= .builtin "sorted" then (yQ X c q L σ).bind λ p=>(Sm X r c kx vx t scope (ox p.1 p.2.1 p.2.2 σ)).bind λ q=>(aS c x q.1 q.2).map λ σ'=>(.next,σ') else none
 else none
section
variable{h₀:Heap}{X:Cx}{W:Wd}{σ:St}{s:Shared}{A:Around}{c:aw}{n:Nat}{r:b5}{Gd:Heap->Prop}{ps:Arguments}{b:Expr}{sc scope:Scope}{no:Str}{f q L:Str}{fp qp kp pos:Pos}
noncomputable abbrev yI(f q:Str)(ps:Arguments)(b:Expr)(sc:Scope)(fp qp kp pos:Pos):Expr:= .Call (.Name f fp) [.Name q qp] [⟨some "key",.Lambda ps b sc fW,kp⟩] pos
theorem Ax(hS:∀ ab,Gd ab->j3 ab X n∧GC ab X.glob X.fns)(G:GC h₀ X.glob X.fns)(lb:jv h₀)(la:mM h₀ Gd)(hn:4<=n)(hm:∀ z,FI z=true->X.O (.meth 3) [.str z,.str "}",.int 1]=some (.lst [.str z]))(li:mL ps b sc no "}")(hdef:∀ env,defaultsOf ps env=([],[]))
  (hc:c.code= .ref 173) (hq:c.qual = "C14NWriterTarget._start.<locals>.") (hcl:dL sc.names c.cells []=some []) (hf:aX X.glob c f σ=some (.glob (.builtin "sorted"))) {x y:Str} {iL:Nat} (h:BT X c q L σ x y iL) (a:At ⟨h₀,X,n,r⟩ c (c.env W.ρ) A W σ s) :
  wpAny (model prog w) A (eval (yI f q ps b sc fp qp kp pos) (c.env W.ρ)) (J2 Gd W (.ref σ.length) (ox x y iL σ)) ah s:=by
 obtain ⟨iS,oS,oL,h1,h2,h3,h4,h5,h6,h7,h8,h9,h10⟩:=h
 obtain ⟨u,hu,eu⟩:=cY h1
 have eu:=bh u iS eu
 obtain ⟨S,_,hi,_⟩:=a.R.obj iS _ (St.at_some h3)
 have hclo:closureFor sc (c.env W.ρ)=pure []:=mB hcl
 show wpAny _ A (eval (.Name f fp) (c.env W.ρ)>>=λ fv=>callWith pos fv [] (backTo pos (starEach [.Name q qp] (c.env W.ρ))) (backToKw pos (keywordEach [⟨some "key",.Lambda ps b sc fW,kp⟩] (c.env W.ρ)))) _ ah s
 refine Uj (wpAny_Name (aT G a.R a.ok hf λ z hz=>?_) (bc hf))
 rw [← (show Value.builtin "sorted" = z from hz.inv)]
 refine aN ?_
 rw [aV rfl]
 refine evalArgs_kw rfl (Calls.spliced_cons (wpAny_Name (aT G a.R a.ok hu λ z hz=>?_) (bc hu)))
 rw [← lR eu hi hz]
 refine Calls.spliced_nil (kws_cons (kla_eval (hdef _) (cP (by rw [show (c.env W.ρ).qual=_ from hq];rfl) (aC (HY (ps:=ps) (b:=b) G a.R lb la hclo rfl hc) λ fv ac ⟨ab,fa,c',pm,ctv,g,e,R,rec,hct⟩=>kws_nil ⟨λ Q hq=>Uk (hq _),?_⟩))))
 rw [e]
 exact aC (wF (hS ab g).1 (hS ab g).2 li (a.a.le hn) (W:=W) (W₁:={ W with F:=⟨W.F.en,(fa,kla_obj "<lambda>" rE ps b sc [] pm c' ctv)::W.F.fs⟩ }) ⟨List.prefix_refl _,⟨rfl,List.subset_cons_self _ _⟩,rfl,rfl,rfl⟩ R (.head _) rec hct hi h3 h4 h5 h6 h7 h8 λ z hz=>hm z (hz.elim (λ e=>e▸h9) λ e=>e▸h10)) λ v az q=>⟨ab,g,q⟩
theorem CT(hS:∀ ab,Gd ab->j3 ab X n∧GC ab X.glob X.fns)(hS':∀ ab,Gd ab->cO ⟨ab,X,n,r⟩∧ClsOk ab X)(G:GC h₀ X.glob X.fns)(lb:jv h₀)(la:mM h₀ Gd)(hn:4<=n)(hm:∀ z,FI z=true->X.O (.meth 3) [.str z,.str "}",.int 1]=some (.lst [.str z]))(li:mL ps b sc no "}")(hdef:∀ env,defaultsOf ps env=([],[]))
  {x:Str} {kx vx t:Expr} {tp dp p:Pos} (hb:n7 (yI f q ps b sc fp qp kp pos) scope=true) :
  Ok (Lx X r c f q L x kx vx t (.DictComp kx vx [⟨t,yI f q ps b sc fp qp kp pos,[],0⟩] scope dp) tp sc scope σ) (SG ⟨h₀,X,n,r⟩ Gd c (exec (.Assign [.Name x tp] (.DictComp kx vx [⟨t,yI f q ps b sc fp qp kp pos,[],0⟩] scope dp) p)) σ):=
 .ifs λ hc=> .bind .self λ v hv=> .bind (P:=λ g=>v= .glob g) (by cases v<;>first | exact .some rfl | exact .none) λ g ev=> .ifs λ eg=> .bind wG λ z hz=> .bind I5 λ q ⟨cl,src,bk,o,m,hcl,hs,ht,hl,ho,hmm,eq⟩=> .map .self λ σ' hst env A W s a=>by
  subst eq ev eg
  obtain ⟨⟨hc1,hc2⟩,hc3,hc4⟩:=hc
  obtain ⟨aH,ok,rfl⟩:=a
  rw [exec_Assign_Name_used _ _ _ _ (by rw [gw ok,hc4])]
  refine Uj (wpAny_standAt (Uj (Uj (jH (W:=W) (ao:=my []) (o:={ cls:= .type "dict",data:= .dict #[] 0 }) (newAcc:=newDict) (use:=some (assign (.Name x tp) (c.env W.ρ))) ok rfl (λ h g=>codeAny_compStart_dict h g) (λ h=>wpAny_newObj_type h) rfl (λ ρ F=> .mk _ _ _ _ _ .none (.dict [] [] 0 .nil)) rfl hb hcl
   (aC (Ax hS G lb la hn hm li hdef hc1 hc2 hc3 hv hz ⟨aH,ok,rfl⟩) λ y ac ⟨ab,gd,W₁,aK,gu,ax⟩=>aC (lK ax gu src ?_) λ y az ⟨it,o',e',hi,aG,hd⟩=>⟨ab,{ W₁ with pv:=(it,o')::W₁.pv },_,it,e',aK.rho,aG,λ bM dy D C b=>?_⟩)))))
  ·rw [← hs];congr 2;simp
  ·have h4:bM.pv=(it,o')::W₁.pv:=b.le.pv
   have hi4:aY bM src 0 o':=aY.le (hi.pv (pv:=(it,o')::W₁.pv)) b.le
   have e4:({ bM with pv:=(it,o')::W₁.pv }:Wd)=bM:=by cases bM;cases h4;rfl
   refine ⟨codeAny_mono (tu (W:={ bM with pv:=W₁.pv }) (Z:=⟨ab,X,n,r⟩) (hS' ab gd).1 (hS' ab gd).2 ht hd aH.a (show cx X.K X.O bM.F.en from b.le.fz.en▸aK.fz.en▸aH.k) b.ok b.acc (m:=4096) ⟨0,_,o',bM,hl,.refl _,e4▸b.R,hi4⟩) λ r s' q=>?_,λ Q hq=>jI hi4 (b.R.pv (it,o') (h4▸ .head _)).1 hq⟩
   cases r with
   | error _=>exact q.elim
   | ok f=>
    obtain ⟨jZ,dC,mI⟩:=q
    have l4:bM.ρ <+: jZ.ρ:=dC.rho
    exact pN (o:=o) (m:=m) ok (Nat.le_succ_of_le (Ul aK.rho.length_le (Up ax.len.symm))) (aK.rho.trans (b.le.rho.trans l4)) mI (bF l4 b.C) (bF l4 b.acc) (hmm▸ho) hst λ s' R'=>Uk (Uk ⟨ab,gd,jZ,⟨aK.rho.trans (b.le.rho.trans l4),aK.fz.trans (b.le.fz.trans dC.fz),dC.pv.trans aK.pv,dC.gg.trans (b.le.gg.trans aK.gg),dC.tb.trans (b.le.tb.trans aK.tb)⟩,trivial,R'⟩)
end
noncomputable def HQ:Fl->Option Unit
 | .next=>some ()
 | _=>none
theorem o7:∀ f,Ok (HQ f) λ _=>f= .next
 | .next=> .some rfl
 | .brk=> .none
 | .cont=> .none
 | .ret _=> .none
noncomputable def oO(f g:de)(σ:St):Option (Fl×St):=(f σ).bind λ p=>(HQ p.1).bind λ _=>g p.2
noncomputable def QQ(Z:Zx)(Gd:Heap->Prop)(c:aw)(t:Env->Sem Value)(σ:St)(p:V×St):Prop:=∀ env A W s,At Z c env A W σ s->wpAny (model prog w) A (t env) (J2 Gd W p.1 p.2) ah s
noncomputable abbrev x7(h₀:Heap)(X:Cx)(Gd:Heap->Prop)(n:Nat)(a:Addr)(as:List V)(σ:St)(p:V×St):Prop:=∀ W A s xs,cx X.K X.O W.F.en->bD n A->ae w.params h₀ W σ s->VRs W.ρ W.F as xs->codeAny (model prog w) A (.call (.ref a) ⟨xs,[]⟩) (ux (J2 Gd W p.1 p.2)) s
noncomputable def PZ(X:Cx)(r:b5)(c:aw)(o:Expr)(name:Str)(args:List Expr)(a:Addr)(cal:List V->St->Option (V×St))(σ:St):Option (V×St):=
 (r.E c o σ).bind λ p=>(rl X p.2 p.1 name).bind λ m=>(eO (bH p.1 m).1).bind λ g=>if g= .ref a∧fc X (.glob g)=true then (c7 r c args p.2).bind λ q=>cal ((bH p.1 m).2++q.1) q.2 else none
theorem OF.le{Gd:Heap->Prop}{W fo:Wd}{f:Fl}{σ:St}{x:Flow}{s:Shared}(h:OF Gd W f σ x s)(le:fo.le W):OF Gd fo f σ x s:=let ⟨ab,g,q⟩:=h;⟨ab,g,q.le le⟩
theorem J2.le{Gd:Heap->Prop}{W fo:Wd}{v:V}{σ:St}{x:Value}{s:Shared}(h:J2 Gd W v σ x s)(le:fo.le W):J2 Gd fo v σ x s:=let ⟨ab,g,q⟩:=h;⟨ab,g,q.le le⟩
section
variable{Z:Zx}{Gd:Heap->Prop}{c:aw}{σ:St}{h₀:Heap}
theorem pJ{ts us:List Stmt}{env:Env}{A:Around}{s:Shared}{Q:Flow->Shared->Prop}(h:wpAny (model prog w) A (execs ts env) (λ y s'=>y= .next∧wpAny (model prog w) A (execs us env) Q ah s') ah s):wpAny (model prog w) A (execs (ts++us) env) Q ah s:=
 cP (jU us _ ts) (Uj (aC h λ y s' q=>by rw [q.1];exact q.2))
theorem gW{ts us:List Stmt}{f g:de}(hf:Ok (f σ) (SF Z c (execs ts) σ))(hg:∀ σ',Ok (g σ') (SG Z Gd c (execs us) σ')):Ok (oO f g σ) (SG Z Gd c (execs (ts++us)) σ):=
 .bind hf λ p h=> .bind (o7 p.1) λ _ e=>(hg p.2).mono λ q k env A W s a=>pJ (h.go a λ y ac W₁ le fr a₁=>⟨FR.next (e▸fr),aC (k _ _ _ _ a₁) λ _ _ z=>z.le le⟩)
theorem zl{ts us:List Stmt}{f g:de}{X:Cx}{n:Nat}{r:b5}(hf:Ok (f σ) (SG ⟨h₀,X,n,r⟩ Gd c (execs ts) σ))(hg:∀ ab,Gd ab->∀ σ',Ok (g σ') (SF ⟨ab,X,n,r⟩ c (execs us) σ')):Ok (oO f g σ) (SG ⟨h₀,X,n,r⟩ Gd c (execs (ts++us)) σ):=
 .bind hf λ p h=> .bind (o7 p.1) λ _ e q hq env A W s a=>pJ (aC (h _ _ _ _ a) λ y ac ⟨ab,gd,W₁,le,fr,ax⟩=>⟨FR.next (e▸fr),aC (hg ab gd p.2 q hq env A W₁ ac ⟨⟨gK a.k le,a.a,ax⟩,a.ok.le le,(aw.env_le a.ok le).trans a.e⟩) λ _ _ z=>⟨ab,gd,z.le le⟩⟩)
theorem zT{t:Stmt}{o:Option (Fl×St)}(h:Ok o (SG Z Gd c (exec t) σ)):Ok o (SG Z Gd c (execs [t]) σ):=h.mono λ p k env A W s a=>wpAny_execs_cons (aC (k env A W s a) λ y ac q=>by
 cases y with
 | next=>exact wpAny_execs_nil q
 | _=>exact q)
theorem qK(G:GC Z.h₀ Z.X.glob Z.X.fns)(D:GD Z.h₀ Z.X){a:Addr}{fd:FuncData}{body:List Stmt}{run:aw->de}(hfd:Z.X.fns a=some fd)(hb:fd.body= .stmts body)(hrun:∀ c σ,Ok (run c σ) (SG Z Gd c (execs body) σ))(as:List V)(σ:St):Ok (gf Z.X a run as σ) (x7 Z.h₀ Z.X Gd (Z.n+1) a as σ):=by
 unfold gf
 rw [hfd]
 exact .ifs λ hc=> .bind .self λ b hbind=> .bind .self λ σ₁ hst=> .bind (hrun _ σ₁) λ p hp=> .some λ W A s xs k ha R hx=>ia G D hfd hc hb hbind hst ha R hx λ A' W' s' ha' le R' ok'=>aC (hp _ _ _ _ ⟨⟨gK k le,ha',R'⟩,ok',rfl⟩) λ x az ⟨ab,gd,ay,aq,qk,aG⟩=>⟨ab,gd,ay,le.trans aq,kY qk,aG⟩
theorem uO(S:cO Z)(G:GC Z.h₀ Z.X.glob Z.X.fns)(CO:cI Z.h₀ Z.X){o:Expr}{name:Str}{args:List Expr}{apos pos:Pos}{a:Addr}{cal:List V->St->Option (V×St)}(hcal:∀ as σ,Ok (cal as σ) (x7 Z.h₀ Z.X Gd Z.n a as σ))(hc:(dm o||apos.endLine != pos.line)=false)(hl:args.length<30) :
  Ok (PZ Z.X Z.r c o name args a cal σ) (QQ Z Gd c (eval (.Call (.Attribute o name apos) args [] pos)) σ):=
 .bind .self λ p hp=> .bind .self λ m hm=> .bind (P:=λ g=>(bH p.1 m).1= .glob g) (by cases (bH p.1 m).1<;>first | exact .some rfl | exact .none) λ g eg=> .ifs λ hg=> .bind .self λ q hq=>(hcal _ q.2).mono λ z hz env A W s aa=>
  nM S G CO hc hl hp hm hq (eg▸hg.2) aa λ fx xs W' s' le a₁ hf hx=>by
   rw [← (show g=fx from (eg▸hf).inv),hg.1]
   exact aC (ca (hz W' A s' xs a₁.k a₁.a a₁.R hx)) λ _ _ u=>u.le le
theorem wR{v:Expr}{p:Pos}{o:Option (V×St)}(hc:fH v=false)(h:Ok o (QQ Z Gd c (eval v) σ)):Ok (o.map λ q=>(Fl.next,q.2)) (SG Z Gd c (exec (.Expr v p)) σ):=
 .map h λ q t env A W s a=>wpAny_Expr_any (aC (t _ _ _ _ a) λ _ _ ⟨ab,gd,W₁,le,_,ax⟩=>⟨ab,gd,W₁,le,trivial,ax⟩) a.notI (bq hc)
end
noncomputable def T0(e:Expr):Keyword:=by
 cases e with
 | Call _ _ k _=>exact k.headD ⟨none,dB,⟨0,0,0,0⟩⟩
 | _=>exact ⟨none,dB,⟨0,0,0,0⟩⟩
noncomputable def P2(e:Expr):Arguments:=by
 cases e with
 | Lambda a _ _ _=>exact a
 | _=>exact ⟨[],[],none,[],[],none,[]⟩
noncomputable def js:List Stmt:=am 174
noncomputable def zK:Stmt:=bt js 1
noncomputable def uK:Expr:=(ak (aJ zK)).l.getD 1 dB
noncomputable def jq:Expr:=aJ (bt js 6)
noncomputable def xx:Comprehension:=(ak jq).g
noncomputable def px:Keyword:=T0 xx.iter
noncomputable def ny:Arguments:=P2 px.value
noncomputable def rB:Expr:=(ak px.value).a
noncomputable def uW:Scope:=(ak px.value).s
noncomputable def s8:Stmt:=bt js 8
noncomputable def f8:Stmt:=bt (gc s8) 0
noncomputable def L1:Expr:=(ak (aJ f8)).l.headD dB
noncomputable def FZ:Expr:=yI "sorted" "qnames" ny rB uW (ak (ak xx.iter).a).p (ak ((ak xx.iter).l.headD dB)).p px.pos (ak xx.iter).p
noncomputable def KZ:Stmt:= .Assign [.Name "qnames" (ak (bA zK)).p] (.Set [.Name "tag" (ak ((ak (aJ zK)).l.headD dB)).p,.Starred (.Name "attrs" (ak (ak uK).a).p) (ak uK).p] 0 (ak (aJ zK)).p) (bE zK)
noncomputable def Gn:Expr:= .DictComp (ak jq).a (ak jq).b [⟨xx.target,FZ,[],0⟩] (ak jq).s (ak jq).p
noncomputable def Ly:Stmt:= .Assign [.Name "parsed_qnames" (ak (bA (bt js 6))).p] Gn (bE (bt js 6))
noncomputable def L3:Stmt:= .If (.Name "attrs" (ak (mn s8)).p) [.For (bA f8) (.Call (.Name "sorted" (ak (ak (aJ f8)).a).p) [.Call (.Attribute (.Name "attrs" (ak (ak (ak L1).a).a).p) "items" (ak (ak L1).a).p) [] [] (ak L1).p] [] (ak (aJ f8)).p) (a9 f8) [] (bE f8)] [] (bE s8)
theorem E0:am 174=js.take 1++([KZ]++((js.drop 2).take 4++([Ly]++((js.drop 7).take 1++([L3]++js.drop 9))))):=by kernel_rfl
theorem Lw:mL ny rB uW "n" "}":=
 ⟨by kernel_rfl,by kernel_rfl,by kernel_rfl,by kernel_rfl,by kernel_rfl,by kernel_rfl,by kernel_rfl,by kernel_rfl,λ x h e=>bne_iff_ne.mp (List.all_eq_true.mp (show uW.names.all (λ x=>x.2 != .cell)=true by kernel_rfl) x h) e,by kernel_rfl,by kernel_rfl,
  (ak (ak (ak rB).a).a).p,(ak (ak rB).a).p,(ak rB).p,0,⟨229,89,229,92⟩,0,⟨229,94,229,95⟩,by kernel_rfl,by kernel_rfl⟩
theorem MF(env:Env):defaultsOf ny env=([],[]):=by rw [show ny=⟨ny.posonlyargs,ny.args,none,[],[],none,[]⟩ by kernel_rfl];rfl
theorem M2:n7 FZ (ak jq).s=true:=by kernel_rfl
theorem L7:((ak (ak L1).a).p.endLine==(ak L1).p.line)=true:=by kernel_rfl
noncomputable def Ga:FuncData:=(fi 174).get (by kernel_rfl)
theorem Ek:Ga.body= .stmts (am 174):=by kernel_rfl
noncomputable def oV(X:Cx)(r:b5)(c:aw):de:=
 oO (af r c (js.take 1)) (oO (Rc X c "qnames" "tag" "attrs") (oO (af r c ((js.drop 2).take 4)) (oO (Lx X r c "sorted" "qnames" "resolved_names" "parsed_qnames" (ak jq).a (ak jq).b xx.target Gn (ak (bA (bt js 6))).p uW (ak jq).s)
  (lL (af r c ((js.drop 7).take 1)) (lL (RT X r c "attrs" "sorted" (bA f8) (a9 f8)) (af r c (js.drop 9)))))))
theorem C1{h₀:Heap}{Gd:Heap->Prop}{X:Cx}{n:Nat}{r:b5}(G:GC h₀ X.glob X.fns)(D:GD h₀ X)(S:cO ⟨h₀,X,n,r⟩)(hs:∃ o,h₀.get? sysModules=some o)(h173:uz h₀)(lb:jv h₀)(la:mM h₀ Gd)(hn:4<=n)(hm:∀ z,FI z=true->X.O (.meth 3) [.str z,.str "}",.int 1]=some (.lst [.str z]))
  (hS:∀ ab,Gd ab->j3 ab X n∧GC ab X.glob X.fns) (hS':∀ ab,Gd ab->cO ⟨ab,X,n,r⟩∧ClsOk ab X) (hs':∀ ab,Gd ab->∃ o,ab.get? sysModules=some o) (hX:X.fns 174=some Ga) (as:List V) (σ:St):Ok (gf X 174 (oV X r) as σ) (x7 h₀ X Gd (n+1) 174 as σ):=
 qK (Z:=⟨h₀,X,n,r⟩) G D hX Ek (λ c σ=>E0▸gW (aE S _ σ) λ σ₁=>gW (di (G9 (Z:=⟨h₀,X,n,r⟩) G hs h173)) λ cu=>gW (aE S _ cu) λ bJ=>zl (zT (CT hS hS' G lb la hn hm Lw MF M2)) λ ab g bk=>
  dh (aE (hS' ab g).1 _ bk) λ yd=>dh (di (Hg (Z:=⟨ab,X,n,r⟩) (hS' ab g).1 (hS ab g).2 (hS' ab g).2 (hs' ab g) L7)) λ J7=>aE (hS' ab g).1 _ J7) as σ
noncomputable def E2:List Stmt:=am 168
noncomputable def xP:Expr:=aJ (bt E2 5)
noncomputable def MV:Stmt:= .Expr (.Call (.Attribute (.Name "self" (ak (ak (ak xP).a).a).p) "_start" (ak (ak xP).a).p) (ak xP).l [] (ak xP).p) (bE (bt E2 5))
theorem E1:am 168=E2.take 5++[MV]:=by kernel_rfl
noncomputable def Gb:FuncData:=(fi 168).get (by kernel_rfl)
theorem El:Gb.body= .stmts (am 168):=by kernel_rfl
noncomputable def zw(X:Cx)(r:b5)(cal:List V->St->Option (V×St))(c:aw):de:=oO (af r c (E2.take 5)) λ σ=>(PZ X r c (.Name "self" (ak (ak (ak xP).a).a).p) "_start" (ak xP).l 174 cal σ).map λ q=>(Fl.next,q.2)
theorem C2{h₀:Heap}{Gd:Heap->Prop}{X:Cx}{n:Nat}{r:b5}{cal:List V->St->Option (V×St)}(G:GC h₀ X.glob X.fns)(D:GD h₀ X)(CO:cI h₀ X)(S:cO ⟨h₀,X,n,r⟩)(hcal:∀ as σ,Ok (cal as σ) (x7 h₀ X Gd n 174 as σ))(hX:X.fns 168=some Gb)(as:List V)(σ:St):Ok (gf X 168 (zw X r cal) as σ) (x7 h₀ X Gd (n+1) 168 as σ):=
 qK (Z:=⟨h₀,X,n,r⟩) G D hX El (λ c σ=>E1▸gW (aE S _ σ) λ σ₁=>zT (wR rfl (uO (Z:=⟨h₀,X,n,r⟩) S G CO hcal (by kernel_rfl) (Un (by kernel_rfl))))) as σ
noncomputable def H9:List D:=Ae.map λ q=> .tup [.str q.1,.str q.2]
noncomputable def qb(h₀:Heap):Prop:=∃ kvs ep,h₀.DictAt (strKind prog w) 92 kvs ep∧J4 [] kvs H9
noncomputable def Ry(X:Cx)(c:aw)(f x:Str)(σ:St):Option (V×St):=(aX X.glob c f σ).bind λ v=>(eO v).bind λ g=>(aX X.glob c x σ).bind λ u=>(eO u).bind λ h=>if g= .type "list" ∧ h= .ref 92 then some (.ref σ.length,σ++[bS (.lst H9)]) else none
noncomputable def Rz(X:Cx)(r:b5)(c:aw)(o:Expr)(name:Str)(ev:St->Option (V×St)):de:=λ σ=>(r.E c o σ).bind λ p=>(rl X p.2 p.1 name).bind λ m=>if fc X (bH p.1 m).1=true then (ev p.2).bind λ q=>(r.C (bH p.1 m).1 ((bH p.1 m).2++[q.1]) [] q.2).map λ z=>(.next,z.2) else none
noncomputable def L0(r:b5)(c:aw)(t:Expr)(f:de):de:=λ σ=>(r.T c t σ).bind λ q=>if q.1=true then f q.2 else none
section
variable{Z:Zx}{c:aw}{σ:St}
theorem AT(v:V):Ok (eO v) λ g=>v= .glob g:=by cases v<;>first | exact .some rfl | exact .none
theorem Hd(G:GC Z.h₀ Z.X.glob Z.X.fns)(hm:qb Z.h₀){f x:Str}{fp xp ap ip pos:Pos}(hl:(ap.endLine==ip.line)=true):Ok (Ry Z.X c f x σ) (SV Z c (eval (.Call (.Name f fp) [.Call (.Attribute (.Name x xp) "items" ap) [] [] ip] [] pos)) σ):=
 .bind .self λ v hv=> .bind (AT v) λ g eg=> .bind .self λ u hu=> .bind (AT u) λ h eh=> .ifs λ hc=> .some λ env A W s a=>by
  subst eg eh
  obtain ⟨kvs,ep,⟨o,es,ho,hr⟩,hkv⟩:=hm
  have R:=a.R
  have hat:s.heap.DictAt (strKind prog w) 92 kvs ep:=⟨o,es,R.old _ _ ho (by decide),hr⟩
  have hlen:kvs.length=7:=hkv.len
  show wpAny _ A (eval (.Name f fp) env>>=λ fv=>callWith pos fv [] (backTo pos (starEach [_] env)) []) _ ah s
  refine a.e▸Uj (wpAny_Name (aT G R a.ok hv λ y hy=>?_) (bc hv))
  rw [← (show g=y from hy.inv),hc.1]
  refine aN (aU (λ e he=>by cases he;rfl) ?_)
  rw [aV rfl]
  refine Calls.spliced_cons (wpAny_Call_items (knd:=strKind prog w) (by decide) (DictAt.dictOf hat) rfl hl (λ Q' hq=>wpAny_Name (aT G R a.ok hu λ y hy=>(show h=y from hy.inv)▸hc.2▸hq) (bc hu)) (Calls.spliced_nil ⟨λ Q hq=>Uk (hq _),kdx_call (knd:=strKind prog w) (kvs:=kvs) (ep:=ep) a.a.handled ⟨_,Heap.get?_push_size _ rfl,rfl,rfl⟩ (hat.push _) (by rw [hlen,sizeLine_eq];decide) λ h' tk acc c' as hk hS hl hG hacc=>?_⟩))
  have hsz:s.heap.objs.size<(s.heap.push { cls:= .type "dict_items",data:= .fields #[.ref 92] }).objs.size:=by rw [Heap.size_push];exact Nat.lt_succ_self _
  exact nK R (Nat.le_of_lt (Nat.lt_trans hsz (Heap.lt_size hS))) (λ b o ho=>hk b o (Heap.get?_push_of_some _ ho)) hS hl hG hacc ⟨hkv.len,λ j k x d h1 h2=>let ⟨d',e,h⟩:=hkv.get j k x d h1 h2;⟨d',e,h.mono λ _ h=>M.Internal.nm h⟩⟩ (Nat.le_of_lt hsz) (Nat.le_of_lt hsz) λ a ha'=>Nat.ne_of_gt (hG.above a ha')
theorem zi{e:Expr}{pos:Pos}{p:V×St}(hs:fF e=false)(h:SV Z c (eval e) σ p):J1 Z c (λ env=>spliced (backTo pos (starEach [e] env))) σ ([p.1],p.2):=λ env A W s a=>by
 show wpAny _ _ (spliced (backTo pos (starEach [e] env))) _ _ _
 rw [aV hs]
 exact Calls.spliced_cons (h.go a λ x ac W₁ le r a₁=>Calls.spliced_nil ⟨W₁,le,.cons _ _ _ _ r .nil,a₁.R⟩)
theorem Hc(S:cO Z)(G:GC Z.h₀ Z.X.glob Z.X.fns)(CO:cI Z.h₀ Z.X){o e:Expr}{name:Str}{ev:St->Option (V×St)}{apos pos p:Pos}(hc:(dm o||apos.endLine != pos.line)=false)(hs:fF e=false)(hev:∀ σ,Ok (ev σ) (SV Z c (eval e) σ)) :
  Ok (Rz Z.X Z.r c o name ev σ) (SF Z c (exec (.Expr (.Call (.Attribute o name apos) [e] [] pos) p)) σ):=
 .bind .self λ p hp=> .bind .self λ m hm=> .ifs λ hk=> .bind (hev p.2) λ q hq=> .map (S.C _ _ _ _) λ z hz env A W s a=>
  wpAny_Expr_any (rm S G CO hc (Un rfl) hp hm (λ e he=>by cases he;exact hs) (by rw [aV hs];rfl) (zi hs hq) hk a λ fx xs W' s' le a₁ hf hx=>aC (hz _ _ _ _ _ _ a₁.toHt hf hx .nil) λ _ _ ⟨ay,aq,_,aG⟩=>⟨ay,le.trans aq,trivial,aG⟩) a.notI (bq rfl)
theorem za(S:cO Z){t:Expr}{b:List Stmt}{p:Pos}{f:de}(h:∀ σ,Ok (f σ) (SF Z c (execs b) σ)):Ok (L0 Z.r c t f σ) (SF Z c (exec (.If t b [] p)) σ):=
 .bind (S.T c t σ) λ q ht=> .ifs λ hq=>(h q.2).mono λ u hx=>uP ht (by rw [if_pos hq];exact hx)
end
noncomputable def BJ:List Stmt:=am 115
noncomputable def Eb:Stmt:=bt BJ 11
noncomputable def wu:Stmt:=bt (gc Eb) 0
noncomputable def Ib:Expr:=(ak (aJ wu)).l.headD dB
noncomputable def HT:Expr:=(ak Ib).l.headD dB
noncomputable def L4:Stmt:= .If (mn Eb) [.Expr (.Call (.Attribute (ak (ak (aJ wu)).a).a "append" (ak (ak (aJ wu)).a).p) [.Call (.Name "list" (ak (ak Ib).a).p) [.Call (.Attribute (.Name "_namespace_map" (ak (ak (ak HT).a).a).p) "items" (ak (ak HT).a).p) [] [] (ak HT).p] [] (ak Ib).p] [] (ak (aJ wu)).p) (bE wu)] [] (bE Eb)
theorem E6:am 115=BJ.take 11++([L4]++BJ.drop 12):=by kernel_rfl
noncomputable def Gg:FuncData:=(fi 115).get (by kernel_rfl)
theorem Er:Gg.body= .stmts (am 115):=by kernel_rfl
noncomputable def zA(X:Cx)(r:b5)(c:aw):de:=lL (af r c (BJ.take 11)) (lL (L0 r c (mn Eb) (Rz X r c (ak (ak (aJ wu)).a).a "append" (Ry X c "list" "_namespace_map"))) (af r c (BJ.drop 12)))
theorem C6{h₀:Heap}{X:Cx}{n:Nat}{r:b5}(G:GC h₀ X.glob X.fns)(D:GD h₀ X)(CO:cI h₀ X)(S:cO ⟨h₀,X,n,r⟩)(hm:qb h₀)(hX:X.fns 115=some Gg)(as:List V)(σ:St):Ok (gf X 115 (zA X r) as σ) (kD ⟨h₀,X,n,r⟩ 115 as σ):=
 iY (Z:=⟨h₀,X,n,r⟩) G D hX Er (λ c σ=>E6▸dh (aE S _ σ) λ σ'=>dh (di (za (Z:=⟨h₀,X,n,r⟩) S λ σ=>di (Hc (Z:=⟨h₀,X,n,r⟩) S G CO (by kernel_rfl) rfl λ σ=>Hd (Z:=⟨h₀,X,n,r⟩) G hm (by kernel_rfl)))) λ σ''=>aE S _ σ'') as σ
theorem kH:typeLookup (.type "list") "append" = pure (some (.builtin "list.append")):=slot_list_append.lookup
theorem Ab:typeLookup (.type "method_descriptor") "__get__" = pure (some (.builtin "method_descriptor.__get__")):=by rw [typeLookup_type,builtinLookup_eq_fast];kernel_rfl
theorem H3:typeLookup (.type "method_descriptor") "__set__" = pure none:=by rw [typeLookup_type,builtinLookup_eq_fast];kernel_rfl
theorem H5:typeLookup (.type "method_descriptor") "__delete__" = pure none:=by rw [typeLookup_type,builtinLookup_eq_fast];kernel_rfl
theorem qM:Slot "method_descriptor" "__get__" "method_descriptor.__get__":=
 .of (owner := "method_descriptor") (n := "__get__") Ab (by decide +kernel) (by decide +kernel) (by decide +kernel)
  (by first | exact .inl (by decide +kernel) | exact .inr (by decide +kernel)) (by rw [isSubtype_type];kernel_rfl)
theorem pK:entryFor table "method_descriptor.__get__" = some Builtin.«method_descriptor.__get__»:=entryFor_of_fast (by kernel_rfl)
theorem sq(a b c:Value):argsOk "method_descriptor.__get__" ⟨[a,b,c],[]⟩:=by unfold argsOk;kernel_rfl
theorem qq:Manifest.toldItsClass.contains "list.append" = false:=by decide +kernel
section
variable{A:Around}{E:Value->Shared->Prop}{s:Shared}
theorem H4{a:Addr}{o:Obj}{Q:PySem.Fin->Shared->Prop}(hx:s.heap.get? a=some o)(hc:o.cls= .type "list")
  (hq:Q (.done (.ret (.ref s.heap.objs.size))) { s with heap:=s.heap.push (cA "builtin_function_or_method" [.builtin "list.append",.ref a]) }) :
  wpAny (model prog w) A (Builtin.«method_descriptor.__get__» ⟨[.builtin "list.append",.ref a,.type "list"],[]⟩) Q E s:=by
 have hT:s.TypeIs (.ref a) "list" := ⟨_,hx,hc⟩
 have f1:=qq
 have f2:=il
 unfold Builtin.«method_descriptor.__get__»
 refine Uj (Uk ?_)
 refine Uj (Uj (Uk ?_))
 dsimp only
 refine Uj (?_:wpAny _ _ (isInstance (.ref a) (.type "list")) _ _ _)
 refine wpAny_isInstance hT f2 ?_
 refine Uk ?_
 exact Uj (wpAny_newObj_type (Uk hq))
theorem EM{a:Addr}{o:Obj}{Q:Value->Shared->Prop}(hx:s.heap.get? a=some o)(hc:o.cls= .type "list")
  (hq:Q (.ref s.heap.objs.size) { s with heap:=s.heap.push (cA "builtin_function_or_method" [.builtin "list.append",.ref a]) }) :
  wpAny (model prog w) A (call (.builtin "method_descriptor.__get__") [.builtin "list.append",.ref a,.type "list"]) Q E s:=by
 exact wpAny_call_entry qM (show Shared.TypeIs s (.builtin "list.append") "method_descriptor" from F.type_list_append) pK (H4 hx hc ⟨_,rfl,hq⟩) (sq _ _ _)
theorem xr{a:Addr}{o:Obj}{u:Tok}{Q:PySem.Fin->Shared->Prop}(hx:s.heap.get? a=some o)(hc:o.cls= .type "list")(hd:o.dict=none){xs:Array Value}{n:Nat}(hdat:o.data= .seq xs n)
  (hq:Q (.done (.ret (.ref s.heap.objs.size))) { s with heap:=s.heap.push (cA "builtin_function_or_method" [.builtin "list.append",.ref a]) }) :
  wpAny (model prog w) A (Builtin.«object.__getattribute__» ⟨[.ref a,.str "append" u],[]⟩) Q E s:=by
 have hT:s.TypeIs (.ref a) "list" := ⟨_,hx,hc⟩
 unfold Builtin.«object.__getattribute__»
 refine Uj (Uk ?_)
 dsimp only
 refine Uj (Uk ?_)
 refine Uj (wpAny_typeOf hT ?_)
 have find:∀ {Q:Builtin.ObjectAttr.Found->Shared->Prop},Q (.bind (.builtin "method_descriptor.__get__") (.builtin "list.append")) s->wpAny (model prog w) A (Builtin.ObjectAttr.find (.ref a) (.type "list") "append") Q E s:=by
  intro Q hq
  unfold Builtin.ObjectAttr.find
  refine Uj (wpAny_of_eq kH ?_)
  have hm:Shared.TypeIs s (.builtin "list.append") "method_descriptor" := F.type_list_append
  refine Uj (wpAny_specialOf hm Ab ?_)
  refine Uj (Uj (Uj (wpAny_specialOf hm H3 ?_)))
  dsimp only [Option.isSome]
  refine Uj (wpAny_specialOf hm H5 ?_)
  refine Uk (Uk ?_)
  refine Uj (Uj (Uj (wpAny_loadPart hx ?_)))
  rw [hdat]
  dsimp only
  refine Uj (wpAny_loadPart hx ?_)
  rw [hc,hd]
  refine Uk (Uk ?_)
  dsimp only
  unfold Builtin.ObjectAttr.copiedAttributeGuard
  dsimp only
  rw [if_neg (by decide +kernel)]
  refine Uj (Uk ?_)
  exact Uj (wpAny_rule (Uk hq))
 refine Uj (find ?_)
 dsimp only
 unfold Builtin.ObjectAttr.bindTo
 dsimp only
 exact Uj (Uo (EM hx hc (Uk hq)))
theorem mq{a:Addr}{o:Obj}{Q:Value->Shared->Prop}(hx:s.heap.get? a=some o)(hc:o.cls= .type "list")(hd:o.dict=none){xs:Array Value}{n:Nat}(hdat:o.data= .seq xs n)
  (hq:Q (.ref s.heap.objs.size) { s with toks:=s.toks+1,heap:=s.heap.push (cA "builtin_function_or_method" [.builtin "list.append",.ref a]) }) :
  wpAny (model prog w) A (getAttr (.ref a) "append" true) Q E s:=by
 have hT:∀ tk,Shared.TypeIs { s with toks:=tk } (.ref a) "list" := λ _=>⟨_,hx,hc⟩
 unfold getAttr getAttrBy
 refine Uj (wpAny_mkText (Uo (Uj (wpAny_typeOf (hT _) (Uj (wpAny_of_eq F.slot_list_getattribute.lookup ?_))))))
 dsimp only
 rw [if_neg (by decide +kernel)]
 unfold getAttrByItsOwn hookBefore callGetattribute boundAndCalled
 refine Uj (wpAny_of_eq (show (if onTheHeap (.type "list") then typeLookup (.type "list") "__getattr__" else pure none)=pure none from rfl) ?_)
 refine Uj (wpAny_attempt (Uo ?_))
 rw [if_neg (by decide +kernel)]
 refine Uj (wpAny_of_eq (F.slot_list_getattribute.bind _) ?_)
 dsimp only
 refine wpAny_mono (Q:=λ v s'=>v= .ref s.heap.objs.size∧s'={ s with toks:=s.toks+1,heap:=s.heap.push (cA "builtin_function_or_method" [.builtin "list.append",.ref a]) }) (E:=λ _ _=>False)
  (wpAny_call_entry F.slot_list_getattribute (hT _) am_entry_list_getattribute (xr hx hc hd hdat ⟨_,rfl,rfl,rfl⟩) (F.args_list_getattribute_2 _ _)) (λ v s' hv=>?_) λ _ _ z=>z.elim
 obtain ⟨rfl,rfl⟩:=hv
 exact Uk hq
end
noncomputable def wq(h₀:Heap):Prop:=∃ K:Frag,K.In h₀∧K.lookup b8=none∧makesIn K 198=true∧findIn K (.ref 198) "__init__" = some (some (.ref 115))∧typeIn K (.ref 115)=some (.type "function")
noncomputable abbrev M0(i:Nat):V:= .rcd ET [.glob (.builtin "list.append"),.ref i]
noncomputable def FK:V->Bool
 | .d .none=>true
 | _=>false
theorem z2{v:V}(h:FK v=true):v= .d .none:=by
 cases v with
 | d d=>cases d<;>first | rfl | exact ft h
 | _=>exact ft h
noncomputable def RA(X:Cx)(c:aw)(f o x:Str)(cal:List V->St->Option (V×St)):de:=λ σ=>(aX X.glob c f σ).bind λ v=>(eO v).bind λ g=>if g= .ref 198 then (zH X c o σ).bind λ i=>(jM σ i).bind λ a=>
 (cal [.ref (σ.length+1),M0 i] (σ++[some (my []),some ⟨.ref 198,some σ.length,.plain⟩])).bind λ q=>if FK q.1=true then (aS c x (.ref (σ.length+1)) q.2).map λ σ'=>(.next,σ') else none else none
section
variable{h₀:Heap}{n:Nat}{X:Cx}{r:b5}{W:Wd}{σ σ':St}{s:Shared}{A:Around}{c:aw}
theorem bD.underType{a:Addr}{xs:List Value}{ks:List (Str×Value)}(h:bD (n+1) A):bD n (A.under (.builtin "type.__call__" ⟨.ref a::xs,ks⟩)):=by
 have w1:(Code.builtin "type.__call__" ⟨.ref a::xs,ks⟩).weight<=2:=Un (by kernel_rfl)
 have w2:(Code.builtin "type.__call__" ⟨.ref a::xs,ks⟩).cUnits<=4:=Un (by kernel_rfl)
 exact h.go h.handled (Nat.add_le_add_left (Ul w1 (by decide)) _) (Nat.add_le_add_left (Ul w2 (by decide)) _)
theorem ae.inst(R:ae w.params h₀ W σ s)(C:Addr)(tk:Nat):∃ W':Wd,W.le W'∧W'.ρ[σ.length+1]?=some (s.heap.objs.size+1)∧ae w.params h₀ W' (σ++[some (my []),some ⟨.ref C,some σ.length,.plain⟩]) { s with heap:=(s.heap.push emptyDict).push (instObj C s.heap.objs.size),toks:=tk }:=by
 have R2:=R.new_size (o:=emptyDict) (ao:=my []) rfl (.mk _ _ _ _ _ .none (.dict [] [] 0 .nil)) tk
 have R3:=R2.new_size (o:=instObj C s.heap.objs.size) (ao:=⟨.ref C,some σ.length,.plain⟩) rfl (.mk _ _ _ _ _ (.some _ _ (by rw [R.len,List.getElem?_append_left (by rw [List.length_append];exact Nat.lt_succ_self _)];exact List.getElem?_concat_length)) .plain) tk
 rw [List.append_assoc σ,Heap.size_push] at R3
 exact ⟨_,(Wd.le_new W _).trans (Wd.le_new _ _),by rw [R.len,show W.ρ.length+1=(W.ρ++[s.heap.objs.size]).length from (List.length_append (as:=W.ρ) (bs:=[s.heap.objs.size])).symm];exact List.getElem?_concat_length,R3⟩
theorem He(mk:wq h₀)(G:GC h₀ X.glob X.fns){cal:List V->St->Option (V×St)}(hcal:∀ as σ,Ok (cal as σ) λ p=>∀ W A s xs,cx X.K X.O W.F.en->bD n A->ae w.params h₀ W σ s->VRs W.ρ W.F as xs->codeAny (model prog w) A (.call (.ref 115) ⟨xs,[]⟩) (CP h₀ W p.1 p.2) s){f o x:Str}{tp fp op ap pos p:Pos} :
  Ok (RA X c f o x cal σ) (SF ⟨h₀,X,n+1,r⟩ c (exec (.Assign [.Name x tp] (.Call (.Name f fp) [.Attribute (.Name o op) "append" ap] [] pos) p)) σ):=
 .bind .self λ v hv=> .bind (AT v) λ g eg=> .ifs λ hg=> .bind .self λ i hi=> .bind .self λ a ha=> .bind (hcal _ _) λ q hq=> .ifs λ hn=> .map .self λ σ' hst env A W s bR=>by
  subst eg
  obtain ⟨u,hu,eu⟩:=cY hi
  have eu:=bh u i eu
  obtain ⟨K,kin,k8,kmk,kin',kty⟩:=mk
  have R:=bR.R
  obtain ⟨S,_,hiS,_⟩:∃ S o,W.ρ[i]?=some S∧σ.at i=some o:=let ⟨o,ho,_⟩:=cY ha;let ⟨S,_,h,_⟩:=R.obj i o (St.at_some ho);⟨S,o,h,ho⟩
  obtain ⟨l,xs,m,el,_,ho,hr,_⟩:=d7 R (.ref i S hiS) a ha
  cases Value.ref.inj el
  have KX:K.In s.heap:=λ a o q=>R.old a o (kin a o q) λ e=>M.Internal.ns (k8.symm.trans (e▸q))
  have grow:∀ (b:Addr) (o':Obj),s.heap.get? b=some o'->(s.heap.push (cA "builtin_function_or_method" [.builtin "list.append",.ref S])).get? b=some o':=λ b o' q=>Heap.get?_push_of_some _ q
  have KX':=KX.keeps grow
  have Y':=makes_of (M:=model prog M.Internal.w) KX' kmk
  have R1:=R.frzs (tk:=s.toks+1) [(s.heap.objs.size,cA "builtin_function_or_method" [.builtin "list.append",.ref S])] (h':=s.heap.push (cA "builtin_function_or_method" [.builtin "list.append",.ref S])) (by rw [Heap.size_push];exact Nat.le_succ _) grow λ p hp=>List.mem_singleton.mp hp▸⟨Nat.le_refl _,Heap.get?_push_size _ rfl⟩
  obtain ⟨W₁,aK,gi,R3⟩:=R1.inst 198 (s.toks+1)
  refine wpAny_Assign_Name ?_ (bq rfl)
  show wpAny _ A (eval (.Name f fp) env>>=λ fv=>callWith pos fv [] (backTo pos (starEach [.Attribute (.Name o op) "append" ap] env)) []) _ ah s
  refine bR.e▸Uj (wpAny_Name (aT G R bR.ok hv λ y hy=>?_) (bc hv))
  rw [← (show g=y from hy.inv),hg]
  refine aN (aU (λ e he=>by cases he;rfl) ?_)
  rw [aV rfl]
  refine Calls.spliced_cons ?_
  rw [arm_eval_Attribute,c9 rfl]
  refine Uj (wpAny_Name (aT G R bR.ok hu λ y hy=>?_) (bc hu))
  rw [← lR eu hiS hy]
  refine Uj (wpAny_standAt (Uj (Uo (mq ho rfl rfl rfl (Uj (wpAny_letTemporaryGo (Uk (Calls.spliced_nil ⟨λ Q hq=>?_,wpAny_call (make_core (h:=s.heap.push (cA "builtin_function_or_method" [.builtin "list.append",.ref S])) Y' (looks_findIn KX' kin') (λ self=>bind_fn KX' self kty) (.inl rfl) ?_)⟩))))))))
  ·obtain ⟨oc,od,cd,sl,hC,_⟩:=Y'.obj
   unfold keeperOf
   refine Uj (wpAny_load hC ?_)
   dsimp only
   exact Uj (Y'.call _ _ _ _ (λ _ _ q=>q) (Uk (hq _)))
  ·have le:W.le W₁:=⟨aK.rho,⟨aK.fz.en,λ _ h=>aK.fz.fs (.tail _ h)⟩,aK.pv,aK.gg,aK.tb⟩
   refine codeAny_mono (hq W₁ _ _ _ (gK bR.k le) bR.a.underType R3 (.cons _ _ _ _ (.ref _ _ gi) (.cons _ _ _ _ (.rcd _ _ [.builtin "list.append",.ref S] _ (aK.fz.fs (.head _)) (.cons _ _ _ _ (.glob _) (.cons _ _ _ _ (.ref _ _ (bF le.rho hiS)) .nil))) .nil))) λ r s' q'=>?_
   cases r with
   | error e=>exact q'.elim
   | ok f=>cases f with
    | ret v=>
     obtain ⟨W',le',rv,R'⟩:=q'
     have a₁:=bR.to (le.trans le') R'
     exact ⟨VR.none (z2 hn▸rv),aw.env_le bR.ok (le.trans le')▸bv R' a₁.ok hst (.ref _ _ (bF le'.rho gi)) λ h' tk bf=>⟨W',le.trans le',trivial,bf⟩⟩
    | _=>exact q'.elim
end
noncomputable def jE(c:Nat)(z:List Nat)(l:List Nat):List Nat:=l.flatMap λ k=>if k=c then z else [k]
theorem jD(c:Nat)(z:List Nat)(l:List Nat)(h:c∉l):jE c z l=l:=by
 induction l with
 | nil=>rfl
 | cons k r ih=>exact (List.flatMap_cons ..).trans (congr (congrArg (λ a b:List Nat=>a++b) (if_neg λ e:k=c=>h (e▸ .head _))) (ih λ m=>h (.tail _ m)))
theorem e7(c:Nat)(z a b:List Nat):jE c z (a++b)=jE c z a++jE c z b:=List.flatMap_append
theorem wA(c:Nat)(z:Str)(parts:List Str)(h:∀ p∈parts,c∉p.cps.toList):jE c z.cps.toList (Str.join ⟨#[c]⟩ parts).cps.toList=(Str.join z parts).cps.toList:=by
 induction parts with
 | nil=>rfl
 | cons p l ih=>cases l with
  | nil=>exact jD c _ _ (h p (.head _))
  | cons q r=>
   have ih:=ih λ a ha=>h a (.tail _ ha)
   show jE c z.cps.toList (p++⟨#[c]⟩++Str.join ⟨#[c]⟩ (q::r)).cps.toList=(p++z++Str.join z (q::r)).cps.toList
   rw [Str.cps_append,Str.cps_append,Array.toList_append,Array.toList_append,Str.cps_append,Str.cps_append,Array.toList_append,Array.toList_append,e7,e7,ih,jD c _ _ (h p (.head _))]
   exact congrArg (_++·++_) ((List.flatMap_cons ..).trans ((congrArg (·++_) (if_pos rfl)).trans (List.append_nil _)))
noncomputable def rep(c:Nat)(z:Str)(x:Str):Str:=Txt.replace x ⟨#[c]⟩ z
theorem gY(x z:Str)(c:Nat):(rep c z x).cps.toList=jE c z.cps.toList x.cps.toList:=by
 unfold rep
 rw [StrLaws.replace_one,← wA c z _ (StrLaws.split_free x c),StrLaws.join_split]
theorem kU{a b:Str}(h:a.cps.toList=b.cps.toList):a=b:=congrArg Str.mk (Array.toList_inj.mp h)
theorem zD{x z:Str}{c:Nat}(h:c∉x.cps.toList):rep c z x=x:=kU ((gY ..).trans (jD _ _ _ h))
noncomputable def kK:List (Nat×Str)->Str->Str
 | [],x=>x
 | p::l,x=>kK l (rep p.1 p.2 x)
noncomputable def eR:List (Nat×Str)->Str->Bool
 | [],_=>true
 | p::l,x=>decide (x.length<=1048576)&&(decide (p.2.length<=14)&&((⟨#[p.1]⟩==p.2)==false))&&eR l (rep p.1 p.2 x)
noncomputable def QC(e:Expr):Pos:=by
 cases e with
 | Constant _ _ p=>exact p
 | _=>exact ⟨0,0,0,0⟩
noncomputable def Hv(s:Stmt):Expr:=(wC (bt (gc s) 0)).e
noncomputable def KS(c:Nat)(z:Str)(s:Stmt):Stmt:= .If (.Compare (.Constant (.str ⟨#[c]⟩) 0 (QC (ak (mn s)).a)) [.In] [.Name "text" (ak ((ak (mn s)).l.headD dB)).p] (ak (mn s)).p)
 [.Assign [.Name "text" (ak (bA (bt (gc s) 0))).p] (.Call (.Attribute (.Name "text" (ak (ak (ak (Hv s)).a).a).p) "replace" (ak (ak (Hv s)).a).p) [.Constant (.str ⟨#[c]⟩) 0 (QC ((ak (Hv s)).l.headD dB)),.Constant (.str z) 0 (QC ((ak (Hv s)).l.getD 1 dB))] [] (ak (Hv s)).p) (bE (bt (gc s) 0))] [] (bE s)
noncomputable def Ls(s:Stmt):Bool:=(ak (ak (Hv s)).a).p.endLine==(ak (Hv s)).p.line
noncomputable def HA:List (Nat×Str)->List Stmt->List Stmt
 | [],_=>[]
 | p::l,ss=>KS p.1 p.2 (bt ss 0)::HA l ss.tail
noncomputable def Aj:List (Nat×Str)->List Stmt->Bool
 | [],_=>true
 | _::l,ss=>Ls (bt ss 0)&&Aj l ss.tail
theorem yf{α:Type}{M:Model}{A:Around}{s:Shared}{t:Sem α}{Q:α->Shared->Prop}{E:Value->Shared->Prop}(h:wpAny M A t (λ a s'=>s.toks<=s'.toks->Q a s') E s):wpAny M A t Q E s:=
 wpAny_mono (Q:=λ a s'=>s.toks<=s'.toks∧(s.toks<=s'.toks->Q a s')) (E:=λ e s'=>s.toks<=s'.toks∧E e s') (λ Γ p hΓ=>Sem.wp_toks M Γ s.toks t _ _ p s (Nat.le_refl _) (h Γ p hΓ)) (λ _ _ x=>x.2 x.1) (λ _ _ x=>x.2)
section
variable{Z:Zx}{c:aw}{f:Str->St}{x z:Str}{ch:Nat}{s:Stmt}
theorem zF{W:Wd}{A:Around}{sh:Shared}{zp ap p1 p2 pos:Pos}{Q:Value->Shared->Prop}(G:GC Z.h₀ Z.X.glob Z.X.fns){σ:St}(a:At Z c (c.env W.ρ) A W σ sh)(hn:aX Z.X.glob c "text" σ=some (.d (.str x)))(hne:(⟨#[ch]⟩==z)=false)(hx:x.length<=1048576)(hz:z.length<=14)(ht:sh.toks≠0)(hl:(ap.endLine==pos.line)=true)
  (h:∀ t k,Q (.str (rep ch z x) t) { sh with toks:=k }):wpAny (model prog w) A (eval (.Call (.Attribute (.Name "text" zp) "replace" ap) [.Constant (.str ⟨#[ch]⟩) 0 p1,.Constant (.str z) 0 p2] [] pos) (c.env W.ρ)) Q ah sh:=by
 rw [arm_eval_Call,c9 rfl]
 refine Uj (wpAny_Name (aT G a.R a.ok hn λ y hy=>?_) (bc hn))
 obtain ⟨t,e⟩:=hy.str
 rw [e]
 refine Uj (wpAny_standAt ?_)
 unfold methodCall
 rw [show methodCallForm _ _ _=true from rfl]
 refine Uj (Uo ?_)
 show wpAny (model prog w) _ (getMethod (.str x t) ("replace" : Str) _) _ ah _
 refine iA (.str x t) "str.replace" rfl _ _ (Uj (wpAny_of_eq (i7 (eq_of_beq hl)) (aN (aU (λ e he=>by cases he;rfl) ?_))))
 rw [aV rfl,aV rfl]
 refine Calls.spliced_cons (wpAny_mkText (Calls.spliced_cons (wpAny_mkText (Calls.spliced_nil ⟨λ Q hq=>Uk (hq _),?_⟩))))
 exact SC.replaceW ht (Nat.succ_ne_zero _) (Nat.ne_of_lt (Nat.lt_succ_self _)) hne hx hz λ t' k=>h t' k
theorem CR(G:GC Z.h₀ Z.X.glob Z.X.fns)(O:j3 Z.h₀ Z.X Z.n)(hl:Ls s=true)(hn:∀ x,aX Z.X.glob c "text" (f x)=some (.d (.str x)))(hst:∀ x y,aS c "text" (.d (.str y)) (f x)=some (f y))(hne:(⟨#[ch]⟩==z)=false)(hx:x.length<=1048576)(hz:z.length<=14) :
  SF Z c (exec (KS ch z s)) (f x) (.next,f (rep ch z x)):=λ env A W sh a=>by
 obtain ⟨aH,ok,rfl⟩:=a
 refine wpAny_If (wpAny_isTrue_Compare1 (wpAny_mkText (wpAny_Name (aT G (aH.tk (sh.toks+1)).R ok (hn x) λ y hy=>yf (aC (iW O .In (aH.tk (sh.toks+1)) (.mkStr ⟨#[ch]⟩ sh.toks) hy _ (show ui Z.X .In (.d (.str ⟨#[ch]⟩)) (.d (.str x)) (f x)=some (.bool (ml ⟨#[ch]⟩ x)) from rfl)) λ b az ⟨ay,aq,rb,aG⟩ htk=>?_)) (bc (hn x)))) rfl)
 rw [rb.bool]
 refine wpAny_truthy_bool ?_
 have bj:At Z c (c.env ay.ρ) A ay (f x) az:=⟨aH.to aq aG,ok.le aq,rfl⟩
 rw [show ml ⟨#[ch]⟩ x=decide (ch∈x.cps.toList) from StrLaws.found_one x ch,← aw.env_le ok aq]
 by_cases h:ch∈x.cps.toList
 ·rw [decide_eq_true h]
  exact wpAny_execs_cons (wpAny_Assign_Name (zF G bj (hn x) hne hx hz (λ e=>absurd htk (by show ¬ (sh.toks+1<=az.toks);rw [e];exact Nat.not_succ_le_zero _)) hl λ t k=>bv (aG.toks k) bj.ok (hst x _) (.d _ _ (.str _ t)) λ h' tk bf=>wpAny_execs_nil ⟨ay,aq,trivial,bf⟩) (bq rfl))
 ·rw [decide_eq_false h,zD h]
  exact wpAny_execs_nil ⟨ay,aq,trivial,aG⟩
theorem SF.cons{t:Stmt}{ts:List Stmt}{σ σ₁:St}{p:Fl×St}(h:SF Z c (exec t) σ (.next,σ₁))(k:SF Z c (execs ts) σ₁ p):SF Z c (execs (t::ts)) σ p:=λ env A W s a=>
 wpAny_execs_cons (h.go a λ y ac W₁ le fr a₁=>(FR.next fr).symm▸aC (k _ _ _ _ a₁) λ _ _ z=>z.le le)
theorem yY(G:GC Z.h₀ Z.X.glob Z.X.fns)(O:j3 Z.h₀ Z.X Z.n)(hn:∀ x,aX Z.X.glob c "text" (f x)=some (.d (.str x)))(hst:∀ x y,aS c "text" (.d (.str y)) (f x)=some (f y)){us:List Stmt}{p:Str->Fl×St}(hu:∀ x,SF Z c (execs us) (f x) (p x))(l:List (Nat×Str)) :
  ∀ ss x,Aj l ss=true->eR l x=true->SF Z c (execs (HA l ss++us)) (f x) (p (kK l x)):=by
 induction l with
 | nil=>exact λ ss x _ _=>hu x
 | cons q l ih=>
  intro ss x hl h
  obtain ⟨hl,hl'⟩:=Um.mp hl
  obtain ⟨h,h3⟩:=Um.mp h
  obtain ⟨h1,h2⟩:=Um.mp h
  obtain ⟨h4,h5⟩:=Um.mp h2
  exact SF.cons (CR G O hl hn hst (eq_of_beq h5) (of_decide_eq_true h1) (of_decide_eq_true h4)) (ih _ _ hl' h3)
end
noncomputable def Ow(s:Stmt):List ExceptHandler:=by
 cases s with
 | Try _ h _ _ _=>exact h
 | _=>exact []
noncomputable def yy:List (Nat×Str):=[(38, "&amp;"),(60, "&lt;"),(62, "&gt;"),(13, "&#xD;")]
noncomputable def O1:List (Nat×Str):=[(38, "&amp;"),(60, "&lt;"),(34, "&quot;"),(9, "&#x9;"),(10, "&#xA;"),(13, "&#xD;")]
noncomputable def s9(x:Str):St:=[fX [("text",.d (.str x))]]
noncomputable def Rh(s:Stmt):Stmt:= .Return (some (.Name "text" (ak (aJ s)).p)) (bE s)
noncomputable def OO(l:List (Nat×Str))(s:Stmt):Stmt:= .Try (HA l (a9 s)++[Rh (bt (a9 s) l.length)]) (Ow s) [] [] (bE s)
section
variable{h₀:Heap}{G:Heap->Prop}{N:Nat}{c:aw}{en:Nat->D}{σ:St}{P:bZ}
theorem TF.ofSF{X:Cx}{M:Nat}{r:b5}(hM:M<=N){t:Env->Sem Flow}{p:Fl×St}(k:cx X.K X.O en)(h:SF ⟨h₀,X,M,r⟩ c t σ p)(hp:P p.1 en p.2):TF h₀ (Eq h₀) N c t en σ P:= .mk λ W A s a=>
 aC (h _ A W s ⟨⟨a.e.symm▸k,a.a.le hM,a.R⟩,a.ok,rfl⟩) λ x ac ⟨W₁,le,fr,ax⟩=>⟨_,p.1,W₁,p.2,rfl,le.lf,fr,ax,(le.fz.en.trans a.e).symm▸hp⟩
theorem RZ(b:aI h₀){a:Addr}{l:List (Nat×Str)}{s:Stmt}(he:∀ x,pM a [.d (.str x)]=some ([OO l s],c,s9 x))(hh:¬ (Ow s).isEmpty=true)(hl:Aj l (a9 s)=true)(hn:∀ x,aX (XE []).glob c "text" (s9 x)=some (.d (.str x)))(hst:∀ x y,aS c "text" (.d (.str y)) (s9 x)=some (s9 y))
  (hu:∀ x,af (cy (XE []) bz 8) c [Rh (bt (a9 s) l.length)] (s9 x)=some (.ret (.d (.str x)),s9 x)) {x:Str} (hx:eR l x=true):TC h₀ (Eq h₀) 11 a [.d (.str x)] (jp []) [] λ v en' _=>∃ u,v= .d u∧den en' u= .str (kK l x):=
 have aok:=b.all iE [] true bi
 TC.fn b (he x) (TF.cons (TF.ofSF (X:=XE []) (M:=8) (r:=cy (XE []) bz 8) (by decide) (aO.ok trivial) (ym hh (yY (Z:=⟨h₀,XE [],8,cy (XE []) bz 8⟩) aok.G (aok.O 8 (Nat.zero_le _)) hn hst (p:=λ x=>(.ret (.d (.str x)),s9 x)) (λ x=>aE (aZ aok 8) _ _ _ (hu x)) l _ x hl hx)) ⟨⟨_,rfl,rfl⟩,λ _ h=>h⟩))
theorem Ms(b:aI h₀){x:Str}:eR yy x=true->TC h₀ (Eq h₀) 11 209 [.d (.str x)] (jp []) [] λ v en' _=>∃ u,v= .d u∧den en' u= .str (kK yy x):=
 RZ b (c:=cf 209) (s:=bt (am 209) 0) (λ x=>by kernel_rfl) (by rw [show (Ow (bt (am 209) 0)).isEmpty=false by kernel_rfl];exact Bool.false_ne_true) (by kernel_rfl) (λ x=>by kernel_rfl) (λ x y=>by kernel_rfl) (λ x=>by kernel_rfl)
theorem Mr(b:aI h₀){x:Str}:eR O1 x=true->TC h₀ (Eq h₀) 11 216 [.d (.str x)] (jp []) [] λ v en' _=>∃ u,v= .d u∧den en' u= .str (kK O1 x):=
 RZ b (c:=cf 216) (s:=bt (am 216) 0) (λ x=>by kernel_rfl) (by rw [show (Ow (bt (am 216) 0)).isEmpty=false by kernel_rfl];exact Bool.false_ne_true) (by kernel_rfl) (λ x=>by kernel_rfl) (λ x y=>by kernel_rfl) (λ x=>by kernel_rfl)
noncomputable def ST(a:Addr):Option (List (Nat×Str)):=if a=209 then some yy else if a=216 then some O1 else none
noncomputable def RV:Ca:=λ a ds=>(ST a).bind λ l=>rh (λ d=>(iy d).bind λ x=>if eR l x=true then some (.str (kK l x)) else none) ds
theorem IH(b:aI h₀):uC h₀ RV 11:=λ a ds=>by
 refine .bind (P:=λ l=>∀ x,eR l x=true->TC h₀ (Eq h₀) 11 a [.d (.str x)] (jp []) [] λ v en' _=>∃ u,v= .d u∧den en' u= .str (kK l x)) (.ite (λ e=> .some λ x h=>e▸Ms b h) λ _=> .ifs λ e=> .some λ x h=>e▸Mr b h) λ l hl=>jN λ d ed=> .bind (cR d) λ x e=> .ifs λ h=> .some λ W σ s A xs hA R hx=>?_
 subst ed e
 exact eC (hl x h) (λ F xs hx=>DVs.toVRs (F:=⟨jp [],F⟩) (vs:=[.str x]) hx) hA R hx
end
noncomputable abbrev oT:eI:=mO RV
noncomputable def TU:J6:=λ _ _ _=>none
noncomputable def X0(K:bK):Cx:=cX K oT 11 TU
noncomputable def r0(K:bK):b5:=cy (X0 K) bz 9
noncomputable def Jg(K:bK):J6:=λ a as σ=>if a=130 then gf (X0 K) 130 (zz (X0 K) (r0 K)) as σ else if a=138 then gf (X0 K) 138 (zy (X0 K) (r0 K)) as σ else if a=154 then gf (X0 K) 154 (zx (X0 K) (r0 K)) as σ else none
noncomputable def X1(K:bK):Cx:=cX K oT 21 (Jg K)
noncomputable def r1(K:bK):b5:=cy (X1 K) bz 12
noncomputable def QF(K:bK):J6:=λ a as σ=>if a=174 then gf (X1 K) 174 (oV (X1 K) (r1 K)) as σ else Jg K a as σ
noncomputable def X2(K:bK):Cx:=cX K oT 34 (QF K)
structure PhB(h₀:Heap):Prop where
 b:aI h₀
 sys:∃ o,h₀.get? sysModules=some o
 c146:qc h₀
 c173:uz h₀
 map:qb h₀
 lb:jv h₀
 mke:wq h₀
structure Cp(h₀:Heap):Prop extends PhB h₀ where
 lo:B3 h₀
theorem G5{z:Str}(h:FI z=true):oT (.meth 3) [.str z,.str "}",.int 1]=some (.lst [.str z]):=
 (Bool.or_eq_true_iff.mp h).elim (λ h=>(Bool.or_eq_true_iff.mp h).elim (λ h=>eq_of_beq h▸by kernel_rfl) λ h=>eq_of_beq h▸by kernel_rfl) λ h=>eq_of_beq h▸by kernel_rfl
section
variable{h₀:Heap}
theorem PhB.all(p:PhB h₀){K:bK}{need:Nat}{cal:J6}(h:11<=need)(hc:∀ n,need<=n->sH h₀ (cX K oT need cal) n):aB h₀ (cX K oT need cal) bz:=
 have O:∀ n,need<=n->j3 h₀ (cX K oT need cal) n:=λ n hn=>tO (IH p.b) rfl (Ul h hn) (hc n hn)
 ⟨p.b.G,⟨p.b.D.df,p.b.D.kd,p.b.D.kv⟩,O,⟨⟨p.b.CO.get,p.b.CO.meth,p.b.CO.bound,p.b.CO.set⟩,p.b.CO.fld⟩,EU (O need (Nat.le_refl _)) p.sys,bi⟩
theorem PhB.a0(p:PhB h₀)(K:bK):aB h₀ (X0 K) bz:=p.all (Nat.le_refl _) λ _ _=>o9 rfl
theorem kD.cal{X:Cx}{n m:Nat}{r:b5}{a:Addr}{as:List V}{σ:St}{p:V×St}(h:kD ⟨h₀,X,n,r⟩ a as σ p)(hn:n+1<=m):∀ W s A xs,cx X.K X.O W.F.en->bD m A->ae w.params h₀ W σ s->VRs W.ρ W.F as xs->codeAny (model prog w) A (.call (.ref a) ⟨xs,[]⟩) (CP h₀ W p.1 p.2) s:=λ W s A xs k a' R hx=>h W A s xs k (a'.le hn) R hx
theorem wa(p:PhB h₀)(K:bK)(a:Addr)(as:List V)(σ:St):Ok (Jg K a as σ) (kD ⟨h₀,X0 K,20,r0 K⟩ a as σ):=
 have A:=p.a0 K
 have S:=aZ A 9
 .ite (λ e=>e▸C5 p.b.gx A.G A.D A.CO (Un rfl) S rfl as σ) λ _=> .ite (λ e=>e▸C4 p.b.gx A.G A.D A.CO (Un rfl) S rfl as σ) λ _=> .ifs λ e=>e▸C3 A.G A.D S p.c146 (λ _=>rfl) rfl as σ
theorem PhB.a1(p:PhB h₀)(K:bK):aB h₀ (X1 K) bz:=p.all (by decide) λ n hn a as σ=>(wa p K a as σ).mono λ q h=>h.cal hn
theorem Bz(p:PhB h₀){Gd:Heap->Prop}(la:mM h₀ Gd)(hG:∀ ab,Gd ab->PhB ab)(K:bK)(as:List V)(σ:St):Ok (gf (X1 K) 174 (oV (X1 K) (r1 K)) as σ) (x7 h₀ (X1 K) Gd 34 174 as σ):=
 have A:=p.a1 K
 C1 A.G A.D (aZ A 12) p.sys p.c173 p.lb la (Un rfl) (λ _=>G5) (λ ab g=>⟨((hG ab g).a1 K).O _ (Nat.le_add_left _ _),((hG ab g).a1 K).G⟩) (λ ab g=>⟨aZ ((hG ab g).a1 K) 12,((hG ab g).a1 K).CO.toClsOk⟩) (λ ab g=>(hG ab g).sys) rfl as σ
theorem ux.mono{Q Q':Value->Shared->Prop}{r:Result}{s:Shared}(h:ux Q r s)(k:∀ x s,Q x s->Q' x s):ux Q' r s:=by
 cases r with
 | ok f=>cases f<;>first | exact k _ _ h | exact h.elim
 | error _=>exact h.elim
theorem EN(p:Cp h₀)(K:bK)(n:Nat)(hn:34<=n):sH h₀ (X2 K) n:=λ a as σ=> .ite (λ e=>(Bz p.toPhB (.inr ⟨p.lo,rfl⟩) (λ _ e=>e▸p.toPhB) K as σ).mono λ q h W s A xs k ha R hx=>e▸codeAny_mono (h W A s xs k (ha.le hn) R hx) λ _ _ z=>z.mono λ _ _ ⟨_,e,q⟩=>e▸q) λ _=>(wa p.toPhB K a as σ).mono λ q h=>h.cal (Ul (by decide) hn)
theorem Cp.a2(p:Cp h₀)(K:bK):aB h₀ (X2 K) bz:=p.toPhB.all (by decide) (EN p K)
end
noncomputable def RU(r:b5)(c:aw)(fst:St->Option (V×St))(rest:List Expr)(x:Str):de:=λ σ=>(fst σ).bind λ p=>(c7 r c rest p.2).bind λ q=>if (p.1::q.1).length<=1048576 then (aS c x (.ref q.2.length) (q.2++[some (iF (p.1::q.1))])).map λ σ'=>(.next,σ') else none
section
variable{h₀:Heap}{Gd G:Heap->Prop}{X:Cx}{n M N:Nat}{r:b5}{c:aw}{σ:St}{en:Nat->D}{P:bZ}
theorem Hh(hS:∀ ab,Gd ab->cO ⟨ab,X,n,r⟩){e:Expr}{rest:List Expr}{x:Str}{tp lp p:Pos}{fst:St->Option (V×St)}(hs:fF e=false)(h:Ok (fst σ) (QQ ⟨h₀,X,n,r⟩ Gd c (eval e) σ)):Ok (RU r c fst rest x σ) (SG ⟨h₀,X,n,r⟩ Gd c (exec (.Assign [.Name x tp] (.List (e::rest) lp) p)) σ):=
 .bind h λ cq dY=> .bind .self λ q hq=> .ifs λ hz=> .map .self λ σ' hst env A W s a=>by
  refine wpAny_Assign_Name (wpAny_List_spliced ?_) (bq rfl)
  show wpAny _ _ (spliced (backTo lp (starEach (e::rest) env))) _ _ _
  rw [aV hs]
  refine Calls.spliced_cons (aC (dY _ _ _ _ a) λ x ac ⟨ab,gd,W₁,aK,dP,ax⟩=>?_)
  have a₁:At ⟨ab,X,n,r⟩ c env A W₁ cq.2 ac:=⟨⟨gK a.k aK,a.a,ax⟩,a.ok.le aK,(aw.env_le a.ok aK).trans a.e⟩
  refine (cU (hS ab gd) lp rest cq.2 q hq).go a₁ λ xs az ay aq dH bj=>?_
  have qO:VRs ay.ρ ay.F (cq.1::q.1) (x::xs):= .cons _ _ _ _ (dP.le aq) dH
  refine ⟨by rw [← qO.length,sizeLine_eq];exact Ul hz (by decide),?_⟩
  obtain ⟨aP,br,rv,bf⟩:=j6 bj.R qO az.toks
  have fP:=bj.to br bf
  exact fP.e▸bv bf fP.ok hst rv λ h' tk Jy=>⟨ab,gd,aP,(aK.trans aq).trans br,trivial,Jy⟩
theorem TF.ofSG(hM:M<=N){t:Env->Sem Flow}{p:Fl×St}(k:cx X.K X.O en)(h:SG ⟨h₀,X,M,r⟩ Gd c t σ p)(hp:P p.1 en p.2):TF h₀ Gd N c t en σ P:= .mk λ W A s a=>
 aC (h _ A W s ⟨⟨a.e.symm▸k,a.a.le hM,a.R⟩,a.ok,rfl⟩) λ x ac ⟨ab,gd,W₁,le,fr,ax⟩=>⟨ab,p.1,W₁,p.2,gd,le.lf,fr,ax,(le.fz.en.trans a.e).symm▸hp⟩
end
noncomputable def wh:List Stmt:=am 237
noncomputable def s5:Stmt:=bt wh 5
noncomputable def s6:Stmt:=bt wh 6
noncomputable def c6:Expr:=(ak (aJ s6)).l.headD dB
noncomputable def o5:Expr:=(ak (aJ s5)).l.headD dB
noncomputable def SW(s:Expr):Expr:= .Call (.Attribute (.Name "writer" (ak (ak (ak s).a).a).p) "start" (ak (ak s).a).p) (ak s).l [] (ak s).p
noncomputable def Lr:Stmt:= .Assign [.Name "writer" (ak (bA s5)).p] (.Call (.Name "C14NWriterTarget" (ak (ak (aJ s5)).a).p) [.Attribute (.Name "out" (ak (ak o5).a).p) "append" (ak o5).p] [] (ak (aJ s5)).p) (bE s5)
noncomputable def Mh:Stmt:= .Assign [.Name "given" (ak (bA s6)).p] (.List (SW c6::(ak (aJ s6)).l.tail) (ak (aJ s6)).p) (bE s6)
theorem Jl:am 237=(wh.take 5++([Lr]++[Mh]))++(.For (bA (bt wh 7)) (aJ (bt wh 7)) (a9 (bt wh 7)) [] (bE (bt wh 7))::wh.drop 8):=by kernel_rfl
noncomputable def Jf(K:bK)(as:List V)(σ:St):Option (V×St):=gf (X1 K) 168 (zw (X1 K) (cy (X1 K) bz 13) (gf (X1 K) 174 (oV (X1 K) (r1 K)))) as σ
noncomputable def zv(c:aw):de:=oO (af (cy (X1 []) bz 24) c (wh.take 5)) (oO (RA (X1 []) c "C14NWriterTarget" "out" "writer" (gf (X1 []) 115 (zA (X1 []) (r1 [])))) (RU (cy (X1 []) bz 24) c (PZ (X1 []) (cy (X1 []) bz 24) c (.Name "writer" (ak (ak (ak c6).a).a).p) "start" (ak c6).l 168 (Jf [])) (ak (aJ s6)).l.tail "given"))
theorem Hl{h₀:Heap}(p:PhB h₀){Gd:Heap->Prop}(la:mM h₀ Gd)(hG:∀ ab,Gd ab->PhB ab)(c:aw)(σ:St):Ok (zv c σ) (SG ⟨h₀,X1 [],45,cy (X1 []) bz 24⟩ Gd c (execs (wh.take 5++([Lr]++[Mh]))) σ):=
 have A:=p.a1 []
 have S:=aZ A 24
 gW (aE S _ σ) λ σ₁=>gW (di (He p.mke A.G λ as σ=>(C6 A.G A.D A.CO (aZ A 12) p.map rfl as σ).mono λ q h W A s xs k a=>h W A s xs k (a.le (Un rfl)))) λ cu=>
  zT (Hh (λ ab g=>aZ ((hG ab g).a1 []) 24) rfl (uO (Z:=⟨h₀,X1 [],45,cy (X1 []) bz 24⟩) S A.G A.CO (λ as σ=>(C2 A.G A.D A.CO (aZ A 13) (Bz p la hG []) rfl as σ).mono λ q h W A s xs k a=>h W A s xs k (a.le (Un rfl))) (by kernel_rfl) (Un (by kernel_rfl))))
noncomputable def uN(n:Nat):D:= .str (Str.ofString (toString n))
noncomputable abbrev Re(l:List Nat):Option AO:=some ⟨.type "list",none,.seq (l.map .ref)⟩
noncomputable abbrev Sl(m:List (Str×V)):Option AO:=some (my m)
noncomputable def PT:D:= .lst [.str "{0}x",.str "{1}x",.str "{2}x",.str "{3}x"]
noncomputable def Qy:Option AO:=Sl [("_write",M0 7),("_data",.ref 14),("_with_comments",.d (.bool false)),("_strip_text",.d (.bool false)),("_exclude_attrs",.d .none),("_exclude_tags",.d .none),("_rewrite_prefixes",.d (.bool false)),("_qname_aware_tags",.d .none),("_find_qname_aware_attrs",.d .none),("_declared_ns_stack",.ref 16),("_ns_stack",.ref 17),("_prefix_map",.ref 20),("_preserve_space",.ref 21),("_pending_start",.d .none),("_root_seen",.d (.bool true)),("_root_done",.d (.bool false)),("_ignored_depth",.d (.int 0))]
noncomputable def Cl:St:=[fX [("script",vv 0),("due",vv 1)],gk (vv 2),gk (vv 3),hU,hU,hU]
noncomputable def T3(us:List Nat):St:=us.flatMap λ u=>[bS (.lst []),bS (.lst [.tup [uN u,.str "p"]])]
noncomputable def R8(l:List Nat)(a k:Nat)(n:Nat):List Nat:=l++(List.range n).map λ i=>a+k * i
noncomputable def sW(has:Bool)(us:List Nat):St:=Cl++([fX (([("steps",vv 2),("out",.ref 7),("around",.ref 8),("far",.ref 9),("names",.ref 10),("begun",vv 8),("writer",.ref 12),("given",.ref 45)]:List (Str×V))++(if has then [(("step" : Str),vv 10)] else [])),bS (.var 4),bS (.var 5),bS (.var 6),bS PT,Qy,some ⟨.ref 198,some 11,.plain⟩,none,bS (.var 7),bS (.lst [.tup [.str "http://www.w3.org/XML/1998/namespace",.str "xml"]]),
 Re (R8 [15,24] 46 2 us.length),Re (R8 [18,19,41] 47 2 us.length),bS (.lst H9),bS (.lst []),Sl [],bS (.lst (List.replicate (2+us.length) (.bool false))),none,none,bS (.lst [])]++(List.replicate 16 none++([bS (.lst [.tup [.str "4",.str "q"],.tup [.str "0",.str "p"]]),none,none,none,bS (.var 9)]++T3 us)))
noncomputable def cT:aw:=(ck (Df 237) [] (o1 237 ++ ".<locals>.") (some 237) (pW 237) none Cl).1
noncomputable def fT:Stmt:=bt wh 7
noncomputable def eW(x0 x1 x2 x3 out ar fa da bg gn sp:D)(y:List D):Nat->D:=jp (x0::x1::x2::x3::out::ar::fa::da::bg::gn::sp::y)
noncomputable def Oq(c t:Nat):bK:=[(.push,[.var 5,.int t],.var 12),(.push,[.var 6,.str "{4}x"],.var 13),(.cmp .Eq,[.var 11,.str "b"],.bool (c==98)),(.cmp .Eq,[.var 11,.str "/"],.bool (c==47)),(.cmp .Eq,[.var 11,.str "("],.bool (c==40)),(.push,[.var 9,.none],.var 20)]
noncomputable def Or(e:Bool):bK:=if e then [(.truth,[.var 7],.bool false)] else [(.truth,[.var 7],.bool true),(.meth 2,[.str "",.var 7],.var 14),(.truth,[.var 14],.bool true),(.fn 209,[.var 14],.var 15),(.push,[.var 4,.var 15],.var 16)]
noncomputable def Of(e:Bool):D:=if e then .var 4 else .var 16
noncomputable def RG(bg:Nat)(e:Bool):bK:=Or e++[(.bin .Add,[.var 8,.int 1],.int (bg+1)),(.push,[Of e,.str "<b"],.var 17),(.push,[.var 17,.str " k=\"(\""],.var 18),(.push,[.var 18,.str ">"],.var 19),(.push,[.var 20,.none],.var 21)]
noncomputable def RF(e:Bool):bK:=Or e++[(.push,[Of e,.str "</b>"],.var 17)]
noncomputable def pS(p:Bool):Str:=if p then "(\\\"\\)" else ")"
noncomputable def tC(K:bK)(has:Bool)(us:List Nat):Option (Fl×St):=(cW (X2 K) (cy (X2 K) bz 12) cT (bA fT) (vv 11) (sW has us)).bind (af (cy (X2 K) bz 12) cT (a9 fT))
noncomputable abbrev Fd(r:Option (Fl×St))(n₀ L:Nat)(ex:List Nat)(en:Nat->D)(σ':St):Option (Bool×St):=r.bind λ p=>(HQ p.1).map λ _=>((Nat.beq p.2.length L&&(DD L (List.range n₀++ex)&&Nat.beq (n₀+ex.length) σ'.length)),u5 en p.2 (List.range n₀++ex) σ')
noncomputable abbrev Fc(n₀ L:Nat)(ex:List Nat)(en':Nat->D)(σ':St):Option (Bool×St):=some (true,σ'.map (FO en' (tM (List.range n₀++ex) L)))
theorem sr{r:Option (Fl×St)}{n₀ L:Nat}{ex:List Nat}{en en':Nat->D}{σ':St}(h:Fd r n₀ L ex en σ'=Fc n₀ L ex en' σ'):∃ σe,r=some (.next,σe)∧bQ n₀ en σe en' σ':=by
 obtain ⟨⟨f,σe⟩,h1,h2⟩:=cY h
 obtain ⟨u,hu,h3⟩:=Option.map_eq_some_iff.mp h2
 obtain ⟨h4,h5⟩:=Prod.mk.inj h3
 obtain ⟨h6,h7⟩:=Um.mp h4
 have hl:σe.length=L:=Nat.eq_of_beq_eq_true h6
 have hf:f= .next:=o7 f u hu
 exact ⟨σe,hf▸h1,ex,hl▸h7,hl▸h5⟩
noncomputable def Oy(d:Nat):List Nat:=(List.range (2 * d)).map (46+·)
noncomputable abbrev QB:Type:=(List Nat×Nat)×Bool×Bool
noncomputable def R7(q:QB):List Nat:=Oy q.1.1.length++if q.2.2 then [46+2 * q.1.1.length+4,46+2 * q.1.1.length+21] else [46+2 * q.1.1.length+5,46+2 * q.1.1.length+22]
noncomputable def RD(q:QB):Nat:=46+2 * q.1.1.length+(if q.2.2 then 23 else 24)
noncomputable def RQ(q:QB):bK:=Oq 98 (q.1.1.getLastD 0)++RG q.1.2 q.2.2
noncomputable def Qv(x:Nat->D)(ys:List D)(q:QB):Nat->D:=eW (x 0) (x 1) (x 2) (x 3) (x 19) (x 12) (x 13) (if q.2.2 then x 7 else .lst []) (.int (q.1.2+1)) (x 21) (x 11) ys
noncomputable def BN:List QB:=[(([],0),false,false)]++([true,false].flatMap λ e=>[(([],0),true,e),(([],1),true,e),(([],2),true,e),(([1],1),true,e),(([1],2),true,e),(([2],2),true,e),(([1,2],2),true,e)])
theorem G0(x:Nat->D)(ys:List D):(BN.map λ q=>Fd (tC (RQ q) q.2.1 q.1.1) 46 (RD q) (R7 q) x (sW true (q.1.1++[q.1.2+1])))=BN.map λ q=>Fc 46 (RD q) (R7 q) (Qv x ys q) (sW true (q.1.1++[q.1.2+1])):=by kernel_rfl
noncomputable def R5(q:List Nat×Bool):List Nat:=Oy (q.1.length-1)
noncomputable def RC(q:List Nat×Bool):Nat:=46+2 * q.1.length+(if q.2 then 5 else 6)
noncomputable def RL(q:List Nat×Bool):bK:=Oq 47 (q.1.getLastD 0)++RF q.2
noncomputable def Qu(x:Nat->D)(ys:List D)(e:Bool):Nat->D:=eW (x 0) (x 1) (x 2) (x 3) (x 17) (x 12) (x 13) (if e then x 7 else .lst []) (x 8) (x 20) (x 11) ys
noncomputable def Kn:List (List Nat):=[[1],[2],[3],[1,2],[1,3],[2,3],[1,2,3]]
noncomputable def BM:List (List Nat×Bool):=[true,false].flatMap λ e=>Kn.map λ l=>(l,e)
theorem GZ(x:Nat->D)(ys:List D):(BM.map λ q=>Fd (tC (RL q) true q.1) 46 (RC q) (R5 q) x (sW true q.1.dropLast))=BM.map λ q=>Fc 46 (RC q) (R5 q) (Qu x ys q.2) (sW true q.1.dropLast):=by kernel_rfl
noncomputable abbrev QP:Type:=List Nat×Bool×Bool
noncomputable def RB(q:QP):Nat:=46+2 * q.1.length+3
noncomputable def RH(q:QP):bK:=Oq (if q.2.1 then 40 else 41) (q.1.getLastD 0)++[(.push,[.var 7,.str (pS q.2.1)],.var 17)]
noncomputable def Sh(x:Nat->D)(ys:List D):Nat->D:=eW (x 0) (x 1) (x 2) (x 3) (x 4) (x 12) (x 13) (x 17) (x 8) (x 20) (x 11) ys
noncomputable def uv:List QP:=[([],true,false)]++([true,false].flatMap λ p=>([]::Kn).map λ l=>(l,p,true))
theorem GY(x:Nat->D)(ys:List D):(uv.map λ q=>Fd (tC (RH q) q.2.2 q.1) 46 (RB q) (Oy q.1.length) x (sW true q.1))=uv.map λ q=>Fc 46 (RB q) (Oy q.1.length) (Sh x ys) (sW true q.1):=by kernel_rfl
theorem tB{q:QB}(h:q∈BN)(x:Nat->D)(ys:List D):∃ σe,tC (RQ q) q.2.1 q.1.1=some (.next,σe)∧bQ 46 x σe (Qv x ys q) (sW true (q.1.1++[q.1.2+1])):=sr (List.map_inj_left.mp (G0 x ys) q h)
theorem tE{q:List Nat×Bool}(h:q∈BM)(x:Nat->D)(ys:List D):∃ σe,tC (RL q) true q.1=some (.next,σe)∧bQ 46 x σe (Qu x ys q.2) (sW true q.1.dropLast):=sr (List.map_inj_left.mp (GZ x ys) q h)
theorem tP{q:QP}(h:q∈uv)(x:Nat->D)(ys:List D):∃ σe,tC (RH q) q.2.2 q.1=some (.next,σe)∧bQ 46 x σe (Sh x ys) (sW true q.1):=sr (List.map_inj_left.mp (GY x ys) q h)
set_option genInjectivity false in
set_option genSizeOf false in
structure TW where
 stk:List Nat
 bg:Nat
 da:List Str
 out:List Str
 ar:List Int
 n:Nat
 gn:Nat
 has:Bool
noncomputable def GW(S:TW):Nat:=S.stk.getLastD 0
noncomputable def jn(S:TW):Str:=Txt.join "" S.da
noncomputable def fl(S:TW):List Str:=if S.da.isEmpty=true then S.out else S.out++[kK yy (jn S)]
noncomputable def ic(S:TW)(c:Nat):TW:=
 if c=98 then ⟨S.stk++[S.bg+1],S.bg+1,[],((fl S++[("<b" : Str)])++[(" k=\"(\"" : Str)])++[(">" : Str)],S.ar++[(GW S:Int)],S.n+1,S.gn+2,true⟩
 else if c=47 then ⟨S.stk.dropLast,S.bg,[],fl S++[("</b>" : Str)],S.ar++[(GW S:Int)],S.n+1,S.gn+1,true⟩
 else ⟨S.stk,S.bg,S.da++[pS (c==40)],S.out,S.ar++[(GW S:Int)],S.n+1,S.gn+1,true⟩
structure NO(S:TW):Prop where
 jo:JoinOk "" S.da=true
 ln:(jn S).length<=1000
 nz:((jn S).length != 0)=true
 re:eR yy (jn S)=true
structure Fk(S:TW):Prop where
 out:S.out.length<=900
 ar:S.ar.length<=900
 da:S.da.length<=900
 n:S.n<=900
 gn:S.gn<=900
 fl:S.da.isEmpty=false->NO S
structure Nv(S:TW)(c:Nat):Prop where
 toB:Fk S
 k:(c=98∧((S.stk,S.bg),S.has,S.da.isEmpty)∈BN)∨(c=47∧S.has=true∧(S.stk,S.da.isEmpty)∈BM)∨∃ p,c=(if p=true then 40 else 41)∧(S.stk,p,S.has)∈uv
noncomputable def BS(Sf:TW):List Nat->TW->Prop
 | [],S=>S=Sf
 | c::r,S=>Nv S c∧BS Sf r (ic S c)
set_option genInjectivity false in
set_option genSizeOf false in
structure Z4 where
 a:D
 b:D
 c:D
 d:D
noncomputable abbrev lS(l:List Str):D:= .lst (l.map .str)
noncomputable def Ba(k:Nat):D:= .lst ((List.replicate k ("{4}x" : Str)).map .str)
noncomputable def kf(k:Nat):D:= .lst ((List.replicate k ()).map λ _=> .none)
noncomputable def yW(S:TW)(c:Nat):List D:=[.str (c1 c),iL (S.ar++[(GW S:Int)]),Ba (S.n+1),.str (jn S),.str (kK yy (jn S)),lS (S.out++[kK yy (jn S)]),
 lS (if c=0 then fl S++[("</r>" : Str)] else if c=98 then fl S++[("<b" : Str)] else if c=47 then fl S++[("</b>" : Str)] else S.da++[pS (c==40)]),(if c=0 then .str (Txt.join "" (fl S++[("</r>" : Str)])) else lS ((fl S++[("<b" : Str)])++[(" k=\"(\"" : Str)])),lS (((fl S++[("<b" : Str)])++[(" k=\"(\"" : Str)])++[(">" : Str)]),kf (S.gn+1),kf (S.gn+2)]
noncomputable def eS(z:Z4)(S:TW)(sp:D)(c:Nat):Nat->D:=eW z.a z.b z.c z.d (lS S.out) (iL S.ar) (Ba S.n) (lS S.da) (.int S.bg) (kf S.gn) sp (yW S c)
section
variable{z:Z4}{S:TW}{sp:D}{c:Nat}
theorem A9{O:eI}(h:S.n<=900):av O .push [Ba S.n,.str "{4}x"]=some (Ba (S.n+1)):=(bw (f:=D.str) (T:=List.replicate S.n "{4}x") (x := "{4}x") (by rw [List.length_replicate];exact Ul h (by decide))).trans (congrArg (λ l=>some (D.lst (l.map .str))) List.replicate_succ'.symm)
theorem jP{O:eI}{k:Nat}(h:k<=1000):av O .push [kf k,.none]=some (kf (k+1)):=(bw (f:=λ _:Unit=>D.none) (T:=List.replicate k ()) (x:=()) (by rw [List.length_replicate];exact h)).trans (congrArg (λ l:List Unit=>some (D.lst (l.map λ _=> .none))) List.replicate_succ'.symm)
theorem py(h:Nv S c)(hc:((c1 c==("b" : Str))=(c==98)∧(c1 c==("/" : Str))=(c==47))∧(c1 c==("(" : Str))=(c==40)):aO oT (eS z S sp c) (Oq c (GW S)):=
 ⟨bw (f:=D.int) (Ul h.toB.ar (by decide)),A9 h.toB.n,congrArg (λ b=>some (D.bool b)) hc.1.1,congrArg (λ b=>some (D.bool b)) hc.1.2,congrArg (λ b=>some (D.bool b)) hc.2,jP (Ul h.toB.gn (by decide)),trivial⟩
theorem mh(h:Fk S):aO oT (eS z S sp c) (Or S.da.isEmpty)∧den (eS z S sp c) (Of S.da.isEmpty)=lS (fl S):=by
 have tr:∀ b,(S.da.length != 0)=b->av oT .truth [lS S.da]=some (.bool b):=λ b e=>by
  show (if (S.da.map D.str).length<=sizeLine then some ((S.da.map D.str).length != 0) else none).map D.bool=_
  rw [List.length_map,if_pos (by rw [sizeLine_eq];exact Ul h.da (by decide)),e];rfl
 unfold fl
 cases he:S.da.isEmpty with
 | true=>exact ⟨⟨tr _ (by rw [List.isEmpty_iff.mp he];rfl),trivial⟩,rfl⟩
 | false=>
  have f:=h.fl he
  refine ⟨⟨tr _ (by cases q:S.da with | nil=>rw [q] at he;exact ft he.symm | cons=>rfl),?_,?_,?_,bw (f:=D.str) (Ul h.out (by decide)),trivial⟩,rfl⟩
  ·show ((ir (S.da.map .str)).bind λ ts=>if JoinOk "" ts=true then some (D.str (Txt.join "" ts)) else none)=_
   rw [jT]
   exact if_pos f.jo
  ·show (if (jn S).length<=sizeLine then some ((jn S).length != 0) else none).map D.bool=_
   rw [if_pos (by rw [sizeLine_eq];exact Ul f.ln (by decide)),f.nz];rfl
  ·exact (if_pos f.re:(if eR yy (jn S)=true then some (D.str (kK yy (jn S))) else none)=_)
end
inductive J5(z:Z4)(Sf:TW)(r:List Nat)(en:Nat->D)(σ:St):Prop
 | mk (S:TW) (sp:D) (h:BS Sf r S) (ee:en=eS z S sp (r.headD 0)) (es:σ=sW S.has S.stk)
theorem pH{S:TW}(h:Fk S):(fl S).length<=901:=by
 unfold fl
 by_cases q:S.da.isEmpty=true
 ·rw [if_pos q];exact Nat.le_succ_of_le h.out
 ·rw [if_neg q,List.length_append];exact Nat.add_le_add_right h.out 1
theorem Bq(S:TW):(if S.da.isEmpty=true then lS S.da else .lst [])=lS []:=by cases S.da<;>rfl
theorem oz{α:Type}{l:List α}{a:α}{n:Nat}(h:l.length<=n):(l++[a]).length<=n+1:=Ul (Up List.length_append) (Nat.add_le_add_right h 1)
section
variable{h₀:Heap}{z:Z4}{Sf S:TW}{sp:D}{a:Nat}{r:List Nat}{P:bZ}
theorem d8{O:eI}{l:List Str}{x:Str}{n:Nat}(h:l.length<=n)(hn:n<=1000){d:D}(e:d=lS l):av O .push [d,.str x]=some (lS (l++[x])):=e▸bw (f:=D.str) (Ul h hn)
theorem Ik(h:Fk S):aO oT (eS z S sp 98) (RG S.bg S.da.isEmpty):=
 have l:=pH h
 (mh h).1.app ⟨rfl,d8 l (by decide) (mh h).2,d8 (oz l) (by decide) rfl,d8 (oz (oz l)) (by decide) rfl,jP (Ul (Nat.succ_le_succ h.gn) (by decide)),trivial⟩
theorem Ij(h:Fk S):aO oT (eS z S sp 47) (RF S.da.isEmpty):=(mh h).1.app ⟨d8 (pH h) (by decide) (mh h).2,trivial⟩
theorem GT(p:Cp h₀){en:Nat->D}{σ:St}(h:J5 z Sf (a::r) en σ):dG h₀ 50 46 cT (bA fT) (a9 fT) (J5 z Sf r) P (.str (c1 a)) en σ:=by
 obtain ⟨S,sp,⟨ok,hr⟩,ee,es⟩:=h
 rw [ee,es]
 have go:∀ K σe,aO oT (eS z S sp a) K->tC K S.has S.stk=some (.next,σe)->(ic S a).has=true->bQ 46 (eS z S sp a) σe (eS z (ic S a) (.str (c1 a)) (r.headD 0)) (sW true (ic S a).stk)->dG h₀ 50 46 cT (bA fT) (a9 fT) (J5 z Sf r) P (.str (c1 a)) (eS z S sp a) (sW S.has S.stk):=
  λ K σe hk hrun hh ag=>dG.run (p.a2 K) 12 (.var 11) (Un rfl) hk.ok rfl hrun ⟨_,_,ag,ic S a,_,hr,rfl,hh.symm▸rfl⟩
 rcases ok.k with ⟨e,hq⟩ | ⟨e,hh,hq⟩ | ⟨p,e,hq⟩
 ·subst e
  obtain ⟨σe,hrun,ag⟩:=tB hq (eS z S sp 98) (yW (ic S 98) (r.headD 0))
  refine go _ σe ((py ok ⟨⟨rfl,rfl⟩,rfl⟩).app (Ik ok.toB)) hrun rfl ?_
  have e:Qv (eS z S sp 98) (yW (ic S 98) (r.headD 0)) ((S.stk,S.bg),S.has,S.da.isEmpty)=eS z (ic S 98) (.str (c1 98)) (r.headD 0):=by
   show eW _ _ _ _ _ _ _ (if S.da.isEmpty=true then lS S.da else .lst []) _ _ _ _=_
   rw [Bq];rfl
  exact e▸ag
 ·subst e
  obtain ⟨σe,hrun,ag⟩:=tE hq (eS z S sp 47) (yW (ic S 47) (r.headD 0))
  refine go _ σe ((py ok ⟨⟨rfl,rfl⟩,rfl⟩).app (Ij ok.toB)) (hh▸hrun) rfl ?_
  have e:Qu (eS z S sp 47) (yW (ic S 47) (r.headD 0)) S.da.isEmpty=eS z (ic S 47) (.str (c1 47)) (r.headD 0):=by
   show eW _ _ _ _ _ _ _ (if S.da.isEmpty=true then lS S.da else .lst []) _ _ _ _=_
   rw [Bq];rfl
  exact e▸ag
 ·cases p with
  | true=>
   obtain rfl:a=40:=e
   obtain ⟨σe,hrun,ag⟩:=tP hq (eS z S sp 40) (yW (ic S 40) (r.headD 0))
   exact go _ σe ((py ok ⟨⟨rfl,rfl⟩,rfl⟩).app (L:=[_]) ⟨d8 ok.toB.da (by decide) rfl,trivial⟩) hrun rfl ag
  | false=>
   obtain rfl:a=41:=e
   obtain ⟨σe,hrun,ag⟩:=tP hq (eS z S sp 41) (yW (ic S 41) (r.headD 0))
   exact go _ σe ((py ok ⟨⟨rfl,rfl⟩,rfl⟩).app (L:=[_]) ⟨d8 ok.toB.da (by decide) rfl,trivial⟩) hrun rfl ag
end
noncomputable def sy:TW:=⟨[],0,["&<>\r"],["<r", " k=\"&amp;&lt;>&quot;&#x9;&#xA;&#xD;\"", ">"],[],0,4,false⟩
noncomputable def LK(e:Bool):bK:=Or e++[(.push,[Of e,.str "</r>"],.var 17),(.meth 2,[.str "",.var 17],.var 18),(.push,[.var 9,.none],.var 20)]
noncomputable def KV(e:Bool):Option (Fl×St):=af (cy (X2 (LK e)) bz 12) cT (wh.drop 8) (sW true [])
noncomputable def IV(e:Bool):St:=((KV e).getD (.next,[])).2
noncomputable abbrev IU:V:= .tup [vv 18,.ref 8,.ref 9,.ref 45]
theorem Do(e:Bool):KV e=some (.ret IU,IV e):=by cases e<;>kernel_rfl
noncomputable def MA(x:Nat->D)(y:List D):Nat->D:=eW (x 0) (x 1) (x 2) (x 3) (lS sy.out) (lS []) (lS []) (lS sy.da) (.int 0) (kf 4) .none y
theorem Dr(x:Nat->D)(y:List D):Fd (zv cT (Cl++[fX [("steps",vv 2)]])) 46 46 [] x (sW false [])=Fc 46 46 [] (MA x y) (sW false []):=by kernel_rfl
theorem Dq:(zv cT (Cl++[fX [("steps",vv 2)]])).map (λ p=>p.2.length)=some 46:=by kernel_rfl
noncomputable def My:FuncData:=(fi 237).get (by kernel_rfl)
section
variable{h₀:Heap}{Gd G:Heap->Prop}{N:Nat}{c:aw}{en:Nat->D}{σ:St}{P:bZ}
theorem TF.appG{ts us:List Stmt}(h:TF h₀ Gd N c (execs ts) en σ λ f en' σ'=>f= .next∧∀ h,Gd h->TF h G N c (execs us) en' σ' P):TF h₀ G N c (execs (ts++us)) en σ P:= .mk λ W A s a=>
 pJ (aC (h.ap W A s a) λ x ac ⟨ab,f,W₁,σ₁,g,l,fr,ax,e,hp⟩=>⟨FR.next (e▸fr),TF.go (hp ab g) a l ax⟩)
theorem TF.to(g:G h₀){t:Env->Sem Flow}(h:TF h₀ (Eq h₀) N c t en σ P):TF h₀ G N c t en σ P:= .mk λ W A s a=>aC (h.ap W A s a) λ x s' ⟨_,f,W',σ',e,l,r,R,p⟩=>⟨h₀,f,W',σ',g,l,r,e▸R,p⟩
inductive Gx(z:Z4)(S:TW)(v:V)(en:Nat->D)(σ:St):Prop
 | mk (sp:D) (ev:v=IU) (ee:en=eS z S sp 0) (es:σ=IV S.da.isEmpty)
theorem yo(p:Cp h₀){z:Z4}{S:TW}(hb:Fk S)(hj:JoinOk "" (fl S++[("</r>" : Str)])=true)(hs:S.stk=[])(hh:S.has=true)(hI:J5 z S [] en σ){Q:fu}(hQ:∀ v en σ,Gx z S v en σ->Q v en σ):TF h₀ (Eq h₀) 50 cT (execs (wh.drop 8)) en σ λ f=>Q (oW f):=by
 obtain ⟨S',sp,e,ee,es⟩:=hI
 cases (show S'=S from e)
 rw [ee,es,hs,hh]
 have k:=mh (z:=z) (sp:=sp) (c:=0) hb
 refine TF.run (p.a2 (LK S.da.isEmpty)) (M:=12) (Un rfl) (aO.ok (k.1.app ⟨d8 (pH hb) (by decide) k.2,?_,jP (Ul hb.gn (by decide)),trivial⟩)) (Do _) (hQ _ _ _ ⟨sp,rfl,rfl,rfl⟩)
 show ((ir ((fl S++[("</r>" : Str)]).map .str)).bind λ ts=>if JoinOk "" ts=true then some (D.str (Txt.join "" ts)) else none)=_
 rw [jT]
 exact if_pos hj
theorem OY(p:PhB h₀)(la:mM h₀ Gd)(hG:∀ ab,Gd ab->Cp ab){z:Z4}{cs:List Nat}(hc:z.c= .str ⟨cs.toArray⟩)(ha:aR ⟨cs.toArray⟩=true){S:TW}(ht:BS S cs sy)(hb:Fk S)(hj:JoinOk "" (fl S++[("</r>" : Str)])=true)(hs:S.stk=[])(hh:S.has=true)(y:List D){Q:fu}(hQ:∀ v en σ,Gx z S v en σ->Q v en σ) :
  TC h₀ Gd 51 237 [vv 2] (jp (z.a::z.b::z.c::z.d::y)) Cl Q:=by
 have A:=p.b.gx
 refine TC.def (X:=gX) A.G A.D (fd:=My) (body:=am 237) (by kernel_rfl) (by kernel_rfl) (by kernel_rfl) (b:=[("steps",vv 2)]) (by kernel_rfl) (σ₁:=Cl++[fX [("steps",vv 2)]]) (by kernel_rfl) ?_
 rw [Jl]
 have hL:∀ y,dR (MA (jp (z.a::z.b::z.c::z.d::y)) (yW sy (cs.headD 0))) (vv 2)=some (cs.map λ c=> .str (c1 c)):=λ y=>by
  show dR (λ _=>z.c) (vv 0)=_
  rw [hc]
  exact congrArg (λ o:Option (List D)=>o.or _) (if_pos ha)
 obtain ⟨σe,hrun,ag⟩:=sr (Dr (jp (z.a::z.b::z.c::z.d::y)) (yW sy (cs.headD 0)))
 refine TF.appG (TF.ofSG (show 45<=50 by decide) aD (Hl p la (λ ab g=>(hG ab g).toPhB) cT _ _ hrun) ⟨rfl,λ ab g=>TF.to g ?_⟩)
 have cq:=hG ab g
 have hlen:σe.length=46:=Option.some.inj ((congrArg (Option.map λ p:Fl×St=>p.2.length) hrun).symm.trans Dq)
 refine TF.re (σ':=sW false []) (hlen.symm▸ag) (TF.then (Q:=λ f en σ=>f= .next∧J5 z S [] en σ) (TF.forL (λ c=> .str (c1 c)) (cq.a2 []) (M:=12) (Un rfl) (by kernel_rfl) aD (show (cy (X2 []) bz 12).E cT (aJ (bt wh 7)) (sW false [])=some (vv 2,sW false []) by kernel_rfl) cs (hL _) (by kernel_rfl) (J5 z S) (λ a r en σ h=>GT cq h) (λ en σ h=>⟨rfl,h⟩) ⟨sy,.none,ht,rfl,rfl⟩) λ f en' σ' h=>?_)
 rw [h.1]
 exact λ ik e=>e▸yo cq hb hj hs hh h.2 hQ
end
noncomputable def pc(k:Nat)(d:D):Option Nat:=(pA d).bind λ i=>if (0<=i∧i.toNat<k) then some i.toNat else none
noncomputable def FG(d:D):Option (Nat×Nat):=(Cz d).bind λ l=>(one (l.drop 1)).bind λ y=>(l.head?).bind λ x=>(pc 4 x).bind λ a=>(pc 4 y).map λ b=>(a,b)
noncomputable def nV:List D->Option (List (Nat×Nat))
 | []=>some []
 | d::r=>(FG d).bind λ p=>(nV r).map (p::·)
noncomputable def Mt(l:D):Option (List Int):=(md l).bind cD
noncomputable def I9(d:D):Option (List Nat):=(iy d).map λ x=>x.cps.toList
noncomputable def Qs(d:D):Option D:=(Mt d).bind λ ns=>if ns.length<=1000 then some (.str (lG ns)) else none
noncomputable def Qr(d:D):Option D:=(I9 d).bind λ cs=>if cs.length<=1000∧aR ⟨cs.toArray⟩=true then some (zP cs) else none
noncomputable def Qp(d:D):Option D:=(md d).bind λ l=>(nV l).bind λ ts=>if ts.length<=6 then some (fk ts) else none
noncomputable def Qq(a b c d:D):Option D:=(I9 a).bind λ cs=>(iy b).bind λ pg=>(Mt c).bind λ pl=>(pc 12 d).bind λ f=>if (cs.length=12∧l3 pg=true)∧pl.length=12 then some (.int (gG cs pg pl f:Nat)) else none
noncomputable def Mq:Ca:=λ a ds=>(if a=223 then rh Qs ds else none).or ((if a=230 then rh Qr ds else none).or ((if a=254 then rh Qp ds else none).or ((if a=244 then Od Qq ds else none).or (Cn a ds))))
theorem pb{k:Nat}(d:D):Ok (pc k d) λ n=>d= .int n∧n<k:= .bind (dS d) λ i e=> .ifs λ h=> .some ⟨e.trans (congrArg D.int (Int.toNat_of_nonneg h.1).symm),h.2⟩
theorem yl(b:D):Ok (Cz b) λ x=>b= .tup x:=by cases b<;>first | exact .none | exact .some rfl
theorem zO(d:D):Ok (FG d) λ p=>d= .tup [.int p.1,.int p.2]∧p.1<4∧p.2<4:= .bind (yl d) λ l e=> .bind (d9 _) λ y hy=> .bind .self λ x hx=> .bind (pb x) λ a ha=> .map (pb y) λ b hb=>by
 cases l with
 | nil=>exact M.Internal.ns hx
 | cons x' l=>exact ⟨e.trans (congrArg D.tup ((congr (congrArg List.cons ((Option.some.inj hx).trans ha.1)) (show l=[y] from hy)).trans (hb.1▸rfl))),ha.2,hb.2⟩
theorem A4{l:List D}:Ok (nV l) λ ts=>D.lst l=nh ts∧∀ t∈ts,t.1<4∧t.2<4:=by
 induction l with
 | nil=>exact .some ⟨rfl,λ t h=>nm h⟩
 | cons d l ih=>exact .bind (zO d) λ p e=> .map ih λ ts k=>⟨by rw [e.1,D.lst.inj k.1];rfl,List.forall_mem_cons.mpr ⟨e.2,k.2⟩⟩
theorem A2(d:D):Ok (Mt d) λ ns=>d= .lst (ns.map .int):= .bind (cV d) λ l e=>nW.mono λ ns k=>e.trans (k▸rfl)
theorem vZ(d:D):Ok (I9 d) λ cs=>d= .str ⟨cs.toArray⟩:= .map (cR d) λ x e=>e.trans (congrArg D.str (kU (by rw [Array.toArray_toList])))
theorem HM{f:D->D->D->D->Option D}{ds:List D}{Q:D->Prop}(k:∀ a b c d,ds=[a,b,c,d]->Ok (f a b c d) Q):Ok (Od f ds) Q:=by
 match ds with
 | [a,b,c,d]=>exact k a b c d rfl
 | []=>exact .none
 | [_]=>exact .none
 | [_,_]=>exact .none
 | [_,_,_]=>exact .none
 | _::_::_::_::_::_=>exact .none
section
variable{h₀:Heap}
theorem jS(b:aI h₀):uC h₀ Mq 31:=λ a ds=>by
 refine .or (.ifs λ e=>jN λ d ed=> .bind (A2 d) λ ns h=> .ifs λ hl=> .some λ W σ s A xs hA R hx=>?_) (.or (.ifs λ e=>jN λ d ed=> .bind (vZ d) λ cs h=> .ifs λ hl=> .some λ W σ s A xs hA R hx=>?_) (.or (.ifs λ e=>jN λ d ed=> .bind (cV d) λ l el=> .bind A4 λ ts h=> .ifs λ hl=> .some λ W σ s A xs hA R hx=>?_)
  (.or (.ifs λ e=>HM λ d1 d2 d3 d4 ed=> .bind (vZ d1) λ cs h1=> .bind (cR d2) λ pg h2=> .bind (A2 d3) λ pl h3=> .bind (pb d4) λ f h4=> .ifs λ hl=> .some λ W σ s A xs hA R hx=>?_) ((fI b a ds).mono λ d h W σ s A xs hA=>h W σ s A xs (hA.le (by decide))))))
 ·subst e ed h
  exact eC (O0 b hl) (λ F xs hx=>DVs.toVRs (F:=⟨_,F⟩) (vs:=[.var 0]) hx) (hA.le (by decide)) R hx
 ·subst e ed h
  exact nS (OZ b hl.1 hl.2) (λ F xs hx=>DVs.toVRs (F:=⟨_,F⟩) (vs:=[.var 0]) hx) (hA.le (by decide)) R hx
 ·subst e ed el
  exact nS (OT b hl h.2) (λ F xs hx=>DVs.toVRs (F:=⟨_,F⟩) (vs:=[.var 0]) hx) (hA.le (by decide)) R (h.1▸hx)
 ·subst e ed h1 h2 h3
  exact eC (OX b hl.1.1 hl.1.2 hl.2 h4.2) (λ F xs hx=>DVs.toVRs (F:=⟨_,F⟩) (vs:=[.var 0,.var 1,.var 2,.var 3]) hx) hA R (h4.1▸hx)
end
noncomputable abbrev XL(K:bK):Cx:=vm K (mO Mq) true 31
noncomputable abbrev rL(K:bK):b5:=cy (XL K) bz 12
noncomputable def gq:List Stmt:=am 259
noncomputable abbrev f6:aw:=cf 259
noncomputable def RK:bK:=[(.fn 223,[.var 0],.var 2),(.fn 230,[.var 2],.tup [.var 1,.var 3])]
noncomputable def Qw:St:=[fX [("script",vv 0)],hU,hU,hU,hU,hU]
theorem Pa:af (rL RK) f6 (gq.take 2) Qw=some (.next,Cl):=by kernel_rfl
noncomputable def Ob:Stmt:=bt gq 2
noncomputable def OQ(s:Stmt):List Expr:=(ak (wC s).t).l
noncomputable def OP(s:Stmt):Pos:=(ak (wC s).t).p
noncomputable def MP(f:Str)(s:Stmt):Stmt:= .Assign [.Tuple (OQ s) 0 (OP s)] (.Call (.Name f (ak (ak (aJ s)).a).p) (ak (aJ s)).l [] (ak (aJ s)).p) (bE s)
theorem Nc:am 259=gq.take 2++(MP "_law_told" Ob::gq.drop 3):=by kernel_rfl
noncomputable def Oa(far giv:D)(t:List (Str×V))(u:St):St:=fX (("script",vv 0)::("due",vv 1)::("around",.ref 6)::("far",.ref 7)::("given",.ref 8)::t)::gk (vv 2)::gk (vv 3)::gk (vv 4)::hU::hU::bS (.var 5)::bS far::bS giv::u
noncomputable abbrev sL:St:=Oa (.var 6) (.var 7) [] []
theorem TL:c7 (rL []) f6 (ak (aJ Ob)).l Cl=some ([vv 2],Cl):=by kernel_rfl
theorem TK:aX (XL []).glob f6 "_law_told" Cl=some (.glob (.ref 237)):=by kernel_rfl
noncomputable def KL(e:Bool):Option St:=cW (XL []) (rL []) f6 (.Tuple (OQ Ob) 0 (OP Ob)) IU (IV e)
noncomputable def Se(x:Nat->D)(y:List D):Nat->D:=jp (x 0::x 1::x 2::x 3::x 18::x 5::x 6::x 20::y)
theorem TJ(x:Nat->D)(y:List D)(e:Bool):Fd ((KL e).map λ σ=>(Fl.next,σ)) 6 (if e=true then 49 else 50) [8,9,45] x sL=Fc 6 (if e=true then 49 else 50) [8,9,45] (Se x y) sL:=by cases e<;>kernel_rfl
noncomputable def vO:D:= .lst (List.replicate 12 (.str "{4}x"))
noncomputable def RJ:bK:=[(.cmp .NotEq,[.var 4,.var 1],.bool false),(.fn 59,[.var 2],.bool true),(.bin .Add,[.var 2,.str "\"\\\\("],.var 9),(.bin .Add,[.var 2,.str ")("],.var 10),(.bin .Add,[.str ")(",.var 2],.var 11),(.fn 59,[.var 9],.bool false),(.fn 59,[.var 10],.bool false),(.fn 59,[.var 11],.bool false)]
noncomputable def O8:Option (Fl×St):=af (cy (XL RJ) bz 12) f6 ((gq.drop 3).take 2) (Oa vO (.var 7) [] [])
noncomputable abbrev bL(l:List Nat):Str:=⟨l.toArray⟩
noncomputable def bG(cs:List Nat):Str:=bL (cw++toks cs++fS)
noncomputable def kc(cs:List Nat):List Int:=eK cs cw.length
structure sC(cs:List Nat)(S:TW):Prop where
 hc:cs.length=12
 as:aR (bL cs)=true
 run:BS S cs sy
 ok:Fk S
 jo:JoinOk "" (fl S++[("</r>" : Str)])=true
 stk:S.stk=[]
 has:S.has=true
 page:Txt.join "" (fl S++[("</r>" : Str)])=bG cs
 n:S.n=12
 gn:S.gn=19
 c0:l3 (bL cs)=true∧aW (bL cs)=true
 c1:l3 (bL cs ++ "\"\\\\(")=true∧aW (bL cs ++ "\"\\\\(")=false
 c2:l3 (bL cs ++ ")(")=true∧aW (bL cs ++ ")(")=false
 c3:l3 (")(" ++ bL cs)=true∧aW (")(" ++ bL cs)=false
section
variable{h₀:Heap}{Gd G G₁:Heap->Prop}{N:Nat}{c:aw}{en:Nat->D}{σ:St}{P:bZ}{V':fu}
theorem TF.consA{t:Stmt}{us:List Stmt}(h:TF h₀ G₁ N c (exec t) en σ λ f en' σ'=>f= .next∧∃ en'' σ'',bQ σ.length en' σ' en'' σ''∧∀ h,G₁ h->TF h G N c (execs us) en'' σ'' P):TF h₀ G N c (execs (t::us)) en σ P:= .mk λ W A s a=>
 wpAny_execs_cons (aC (h.ap W A s a) λ x ac q=>by
  obtain ⟨ab,f,W₁,σ₁,g,l,fr,ax,e,en'',σ'',ag,hp⟩:=q
  obtain ⟨ρ',l',R⟩:=ax.again (n₀:=σ.length) ag
  rw [show x= .next from FR.next (e▸fr)]
  exact TF.go (W':={ W₁ with ρ:=ρ',F:=⟨en'',W₁.F.fs⟩ }) (hp ab g) a ⟨(List.prefix_take_iff.mpr ⟨l.rho,Up a.R.len.symm⟩).trans l',l.fs,l.pv,l.gg,l.tb⟩ R)
theorem lk{x:Str}{r:Bool}(h:l3 x=true∧aW x=r):av (mO Mq) (.fn 59) [.str x]=some (.bool r):=by
 show ((if l3 x=true then some (D.bool (aW x)) else none).or _)=_
 rw [if_pos h.1,h.2];rfl
theorem mH{O:eI}{x y:Str}(h:x.length+y.length<=1000):av O (.bin .Add) [.str x,.str y]=some (.str (x++y)):=eG (if_pos (by rw [sizeLine_eq];exact Ul h (by decide)))
noncomputable def eM(sc:D)(cs:List Nat)(S:TW)(y:List D):Nat->D:=jp (sc:: .str (bG cs):: .str (bL cs):: .lst ((kc cs).map .int):: .str (bG cs)::iL S.ar::vO::kf 20::y)
theorem xf(b:aI h₀){cs:List Nat}{S:TW}(p:sC cs S)(sc:D)(y y':List D)(h:TF h₀ (Eq h₀) 51 f6 (execs (gq.drop 5)) (eM sc cs S y) sL P):TF h₀ (Eq h₀) 51 f6 (execs (gq.drop 3)) (eM sc cs S y') sL P:=by
 have lc:(bL cs).length=12:=p.hc
 refine TF.re (en':=eM sc cs S [.none,.str (bL cs ++ "\"\\\\("),.str (bL cs ++ ")("),.str (")(" ++ bL cs)]) (σ':=Oa vO (.var 7) [] []) ⟨[],by kernel_rfl,by kernel_rfl⟩ ?_
 obtain ⟨σe,hr,ag⟩:=sr (L:=14) (show Fd O8 9 14 [] (eM sc cs S [.none,.str (bL cs ++ "\"\\\\("),.str (bL cs ++ ")("),.str (")(" ++ bL cs)]) sL=Fc 9 14 [] (eM sc cs S y) sL by kernel_rfl)
 exact TF.runsA (b.all (jS b) RJ true bi) (M:=12) (show 12+31<=51 by decide) ((gq.drop 3).take 2) (aO.ok ⟨congrArg (λ b=>some (D.bool b)) (bne_self_eq_false' _),lk p.c0,mH (by rw [lc];decide),mH (by rw [lc];decide),mH (by rw [lc];decide),lk p.c1,lk p.c2,lk p.c3,trivial⟩) hr ag h
theorem TC.le{M N:Nat}(h:M<=N){a:Addr}{as:List V}(t:TC h₀ G M a as en σ V'):TC h₀ G N a as en σ V':= .mk λ W A s xs e ha R hx=>t.ap W A s xs e (ha.le h) R hx
theorem As(p:PhB h₀)(ln:B4 h₀)(hcr:∀ ab,fR h₀ ab->Cp ab){script:List Int}(hl:script.length<=1000){cs:List Nat}(hs:lG script=bL cs){S:TW}(q:sC cs S)(y:List D)(h:∀ ab,Cp ab->TF ab (Eq ab) 51 f6 (execs (gq.drop 5)) (eM (.lst (script.map .int)) cs S y) sL λ f=>V' (oW f)) :
  TC h₀ (fR h₀) 52 259 [vv 0] (jp [.lst (script.map .int)]) [] V':=by
 have ok:∀ {ab},PhB ab->∀ K,aB ab (XL K) bz:=λ p K=>p.b.all (jS p.b) K true bi
 refine TC.fn p.b (c:=f6) (body:=am 259) (σ₁:=Qw) (by kernel_rfl) ?_
 rw [Nc]
 refine TF.re (en':=jp [.lst (script.map .int),.str (bG cs),.str (bL cs),.lst ((kc cs).map .int)]) (σ':=Qw) ⟨[],by kernel_rfl,by kernel_rfl⟩ (TF.runs (ok p RK) (M:=12) (show 12+31<=51 by decide) (gq.take 2) (aO.ok ⟨?_,?_,trivial⟩) Pa (TF.consA (G₁:=fR h₀) (TF.asgT rfl rfl (TV.call (ok p []) (M:=12) (show 12+31<=51 by decide) aD TK (by kernel_rfl) TL (OY p (.inl ⟨ln,λ _ h=>h⟩) hcr (z:=⟨_,_,_,_⟩) rfl q.as q.run q.ok q.jo q.stk q.has [] λ v en σ ⟨sp,ev,ee,es⟩=>?_)))))
 ·show (((cD (script.map .int)).bind λ ns=>if ns.length<=1000 then some (D.str (lG ns)) else none).or _)=_
  rw [dW,Option.bind_some,if_pos hl,hs];rfl
 ·show ((if cs.toArray.toList.length<=1000∧aR ⟨cs.toArray.toList.toArray⟩=true then some (zP cs.toArray.toList) else none).or _)=_
  rw [if_pos ⟨by show cs.length<=1000;rw [q.hc];decide,q.as⟩];rfl
 ·subst ev ee es
  obtain ⟨σe,hr,ag⟩:=sr (TJ (eS ⟨.lst (script.map .int),.str (bG cs),.str (bL cs),.lst ((kc cs).map .int)⟩ S sp 0) y S.da.isEmpty)
  obtain ⟨σ₁,h1,h2⟩:=Option.map_eq_some_iff.mp hr
  obtain rfl:=(Prod.mk.inj h2).2
  refine ⟨XL [],bz,12,σ₁,λ ab g=>ok (hcr ab g).toPhB [],show 12+31<=51 by decide,aD,h1,rfl,_,sL,ag,λ ab g=>TF.to g ?_⟩
  have e:Se (eS ⟨.lst (script.map .int),.str (bG cs),.str (bL cs),.lst ((kc cs).map .int)⟩ S sp 0) y=eM (.lst (script.map .int)) cs S y:=by
   show jp (_::_::_::_:: .str (Txt.join "" (fl S++[("</r>" : Str)]))::iL S.ar::Ba S.n::kf (S.gn+1)::y)=_
   rw [q.page,q.n,q.gn];rfl
  exact e▸xf (hcr ab g).b q _ y y (h ab (hcr ab g))
end
section
variable{α:Type}{h₀:Heap}{N n m:Nat}{c:aw}{elt t iter:Expr}{ifs:List Expr}{scope:Scope}{en:Nat->D}{σ:St}{P:(Nat->D)->St->Prop}
inductive IR(keep:Nat->Option α)(st:Bool->St)(e:List α->D->Nat->Nat->D)(k:Nat)(en:Nat->D)(σ:St):Prop
 | mk (oth:D) (o:Bool) (hh:o=false->k=0) (es:σ=st o) (ee:en=e ((List.range' 0 k).filterMap keep) oth k)
theorem xj(keep:Nat->Option α)(k:Nat):(List.range' 0 (k+1)).filterMap keep=(List.range' 0 k).filterMap keep++(keep k).toList:=by
 rw [List.range'_1_concat,List.filterMap_append,Nat.zero_add]
 exact congrArg (_++·) (by cases h:keep k<;>simp [h])
theorem rF(keep:Nat->Option α)(k:Nat):((List.range' 0 k).filterMap keep).length<=k:=Ul (List.length_filterMap_le _ _) (Up List.length_range')
theorem mA{X:Cx}{H:Hk}{M:Nat}{v:V}{σ₁:St}{cl:List (Str×Nat)}(ok:aB h₀ X H)(hM:M+X.need<=N)(eX:cx X.K X.O en)(hb:n7 iter scope=true)(he:(cy X H M).E c iter σ=some (v,σ₁))(hL:dR en v=some ((List.range' 0 m).map λ k:Nat=> .int k))(ht:Ki en t v=true)(hcl:dL scope.names c.cells []=some cl)(hn:σ₁.length=n)
  (keep:Nat->Option α) (st:Bool->St) (e:List α->D->Nat->Nat->D) (h3:sd c scope cl σ₁=st false)
  (turn:∀ k oth o,k<m->(o=false->k=0)->sI h₀ N (sd c scope cl σ₁).length n (km c scope cl σ₁) elt t ifs (λ en' σ'=>σ'=st true∧en'=e ((List.range' 0 k).filterMap keep++(keep k).toList) (.int k) (k+1)) (.int k) (e ((List.range' 0 k).filterMap keep) oth k) (st o))
  (hm:0<m) (hend:(∃ (o:AO) (m:List (Str×V)),(st true).at (n+1)=some ⟨o.cls,o.dict,.dict m⟩)∧∀ oth,P (e ((List.range' 0 m).filterMap keep) oth m) ((st true).set (n+1) none)) (h0:en=e [] .none 0):sG h₀ N c elt t iter ifs scope en σ n P:=by
 subst hn
 refine ⟨X,H,M,v,σ₁,_,cl,IR keep st e,ok,hM,eX,hb,he,hL,ht,hcl,rfl,λ k d en σ hd ⟨oth,o,hh,es,ee⟩=>?_,λ en σ ⟨oth,o,hh,es,ee⟩=>?_,.none,false,λ _=>rfl,h3,h0⟩
 ·obtain ⟨q,hq,ed⟩:=Option.map_eq_some_iff.mp (List.getElem?_map.symm.trans hd)
  obtain ⟨hlt,e'⟩:=List.getElem?_eq_some_iff.mp hq
  rw [List.length_range'] at hlt
  rw [List.getElem_range',Nat.one_mul,Nat.zero_add] at e'
  subst es ee ed e'
  obtain ⟨X,H,M,u,σ₁,a1,a2,a3,a4,a5,en',σ',ag,e1,e2⟩:=turn k oth o hlt hh
  exact ⟨X,H,M,u,σ₁,a1,a2,a3,a4,a5,en',σ',ag,.int k,true,λ e=>ft e.symm,e1,by rw [xj];exact e2⟩
 ·rw [List.length_map,List.length_range'] at hh ee
  cases o with
  | false=>exact absurd (hh rfl) (Nat.ne_of_gt hm)
  | true=>exact es▸ee▸⟨hend.1,hend.2 oth⟩
end
noncomputable def a5:Stmt:=bt gq 5
noncomputable def m5:Expr:=aJ a5
noncomputable def OD:List (Str×Nat):=[("steps",1),("places",2),("page",3)]
noncomputable def JK(o:Bool):St:=sL++[bS (Ff o 8),Gm (if o then [("turn",vv 9)] else [])]
noncomputable def k5(o p:Bool):bK:=[(.item,[.var 2,.var 10],.var 11),(.cmp .Eq,[.var 11,.str "("],.bool p),(.fn 244,[.var 2,.var 4,.var 3,.var 10],.var 12),(.push,[Ff o 8,.tup [.var 10,.var 12]],.var 13)]
noncomputable def TQ(o p:Bool):St:=sL++[bS (if p then .var 13 else Ff o 8),Gm [("turn",vv 10)]]
noncomputable def P1(a:Stmt)(x:Str):Stmt:= .Assign [.Name x (ak (bA a)).p] (.ListComp (ak (aJ a)).a [⟨(ak (aJ a)).g.target,(ak (aJ a)).g.iter,(ak (aJ a)).g.ifs,0⟩] (ak (aJ a)).s (ak (aJ a)).p) (bE a)
theorem Nb:gq.drop 5=P1 a5 "mates" :: gq.drop 6:=by kernel_rfl
theorem S8:dL (ak m5).s.names f6.cells []=some OD:=by kernel_rfl
theorem S7:(rL []).E f6 (ak m5).g.iter sL=some (.rcd "range" [.d (.int 0),.d (.int 12),.d (.int 1)],sL):=by kernel_rfl
theorem S6(o p:Bool):ng (XL (k5 o p)) (rL (k5 o p)) (km f6 (ak m5).s OD sL) (ak m5).a (ak m5).g.target (ak m5).g.ifs 9 (.var 10) (JK o)=some (TQ o p):=by cases o<;>cases p<;>kernel_rfl
theorem SZ:aS f6 "mates" (.ref 9) ((JK true).set 10 none)=some (Oa (.var 6) (.var 7) [("mates",.ref 9)] [bS (.var 8),none]):=by kernel_rfl
noncomputable def ff(cs:List Nat)(k:Nat):Option (Nat×Nat):=if (c1 (cs.getD k 0)==("(" : Str))=true then some (k,gG cs (bG cs) (kc cs) k) else none
noncomputable def mP(p:Nat×Nat):D:= .tup [.int p.1,.int p.2]
noncomputable def yM(cs:List Nat)(acc:List (Nat×Nat))(oth:D)(k:Nat):List D:=[.lst (acc.map mP),oth,.int k,.str (c1 (cs.getD k 0)),.int (gG cs (bG cs) (kc cs) k:Nat),.lst ((acc++[(k,gG cs (bG cs) (kc cs) k)]).map mP)]
theorem qZ(cs:List Nat):∀ n,(eK cs n).length=cs.length:=by
 induction cs with
 | nil=>exact λ _=>rfl
 | cons c cs ih=>exact λ n=>congrArg (·+1) (ih _)
noncomputable def zM(sc:D)(cs:List Nat)(S:TW)(f0 l0 f1 l1 f2 l2:Nat):BZ:=⟨sc,.str (bG cs),.lst ((kc cs).map .int),.str (bG cs),vO,20,cs,S.ar,f0,l0,f1,l1,f2,l2⟩
section
variable{h₀:Heap}{P:bZ}
theorem xg(b:aI h₀){cs:List Nat}{S:TW}(q:sC cs S)(sc:D)(hp:l3 (bG cs)=true){f0 l0 f1 l1 f2 l2:Nat}(hM:(List.range' 0 12).filterMap (ff cs)=[(f0,l0),(f1,l1),(f2,l2)])(y:List D)
  (h:TF h₀ (Eq h₀) 51 f6 (execs (gq.drop 6)) (vT (zM sc cs S f0 l0 f1 l1 f2 l2) y) (bs 7 []) P):TF h₀ (Eq h₀) 51 f6 (execs (gq.drop 5)) (eM sc cs S (yM cs [] .none 0)) sL P:=by
 have ok:∀ K,aB h₀ (XL K) bz:=λ K=>b.all (jS b) K true bi
 have hA:l3 (bL cs)=true:=q.c0.1
 rw [Nb]
 refine TF.consA (G₁:=Eq h₀) (TF.comp (n:=9) (mA (m:=12) (ok []) (M:=12) (show 12+31<=51 by decide) aD (by kernel_rfl) S7 (by kernel_rfl) (by kernel_rfl) S8 rfl (ff cs) JK (λ acc oth k=>eM sc cs S (yM cs acc oth k)) (by kernel_rfl) (λ k oth o hk ho=>?_) (by decide) ⟨⟨⟨.type "dict",none,.dict []⟩,_,(show (JK true).at 10=some ⟨.type "dict",none,.dict [("turn",vv 9)]⟩ by kernel_rfl)⟩,λ oth=>⟨_,SZ,rfl,vT (zM sc cs S f0 l0 f1 l1 f2 l2) y,bs 7 [],?_,λ ab e=>e▸h⟩⟩ rfl))
 ·have hx:∀ p,(c1 (cs.getD k 0)==("(" : Str))=p->sI h₀ 51 (sd f6 (ak m5).s OD sL).length 9 (km f6 (ak m5).s OD sL) (ak m5).a (ak m5).g.target (ak m5).g.ifs (λ en' σ'=>σ'=JK true∧en'=eM sc cs S (yM cs ((List.range' 0 k).filterMap (ff cs)++(ff cs k).toList) (.int k) (k+1))) (.int k) (eM sc cs S (yM cs ((List.range' 0 k).filterMap (ff cs)) oth k)) (JK o):=λ p ep=>by
   refine ⟨XL (k5 o p),bz,12,.var 10,_,ok _,show 12+31<=51 by decide,aO.ok ⟨ez (q.hc.symm▸hk) (Ul (Nat.le_of_lt hk) (by decide)),congrArg (λ b=>some (D.bool b)) ep,?_,?_,trivial⟩,rfl,S6 o p,_,_,?_,rfl,rfl⟩
   ·show ((Mt (.lst ((kc cs).map .int))).bind λ pl=>(pc 12 (.int k)).bind λ f=>if (cs.length=12∧l3 (bG cs)=true)∧pl.length=12 then some (D.int (gG cs (bG cs) pl f:Nat)) else none).or _=_
    rw [show Mt (.lst ((kc cs).map .int))=some (kc cs) from dW _,show pc 12 (.int (k:Int))=some k from if_pos ⟨Int.natCast_nonneg k,hk⟩,Option.bind_some,Option.bind_some,if_pos ⟨⟨q.hc,hp⟩,(qZ cs _).trans q.hc⟩]
    rfl
   ·cases o with
    | false=>obtain rfl:=ho rfl;exact aQ (Un rfl)
    | true=>exact bw (f:=mP) (x:=(k,_)) (Ul (rF _ k) (Ul (Nat.le_of_lt hk) (by decide)))
   ·have ek:ff cs k=if p=true then some (k,gG cs (bG cs) (kc cs) k) else none:=by unfold ff;rw [ep]
    rw [ek]
    cases o with
    | false=>obtain rfl:=ho rfl;cases p<;>exact ⟨[],by kernel_rfl,by kernel_rfl⟩
    | true=>cases p with
     | true=>exact ⟨[],by kernel_rfl,by kernel_rfl⟩
     | false=>rw [show (if false=true then some (k,gG cs (bG cs) (kc cs) k) else none).toList=[] from rfl,List.append_nil];exact ⟨[],by kernel_rfl,by kernel_rfl⟩
  exact hx _ rfl
 ·rw [hM]
  exact ⟨[9],by kernel_rfl,by kernel_rfl⟩
end
noncomputable def i6:Stmt:=bt gq 6
noncomputable def l6:Expr:=(ak (mn i6)).a
noncomputable def r6:Expr:=(ak (mn i6)).l.headD dB
noncomputable def S9:Expr:= .ListComp (ak r6).a [⟨(ak r6).g.target,(ak r6).g.iter,(ak r6).g.ifs,0⟩] (ak r6).s (ak r6).p
theorem Na:gq.drop 6= .If (.Compare l6 [.NotEq] [S9] (ak (mn i6)).p) (gc i6) [] (bE i6)::gq.drop 7:=by kernel_rfl
noncomputable def K6:bK:=[(.push,[.lst [],.var 9],.lst [.var 9]),(.push,[.lst [.var 9],.var 11],.lst [.var 9,.var 11]),(.push,[.lst [.var 9,.var 11],.var 13],qd),(.meth 4,[qd],.var 14)]
noncomputable def JL:St:=bs 7 [bS qd,none]
theorem TG:(rL K6).E f6 l6 (bs 7 [])=some (vv 14,JL):=by kernel_rfl
theorem TD:(rL []).E f6 (ak r6).g.iter JL=some (.rcd "range" [.d (.int 0),.d (.int 12),.d (.int 1)],JL):=by kernel_rfl
noncomputable def OC:List (Str×Nat):=[("steps",1)]
theorem TA:dL (ak r6).s.names f6.cells []=some OC:=by kernel_rfl
noncomputable def Hp(o:Bool):St:=bs 7 [bS qd,none,bS (Ff o 15),Gm (if o then [("turn",vv 16)] else [])]
noncomputable def TP(o p:Bool):St:=bs 7 [bS qd,none,bS (if p then .var 19 else Ff o 15),Gm [("turn",vv 17)]]
noncomputable def k6(o p:Bool):bK:=[(.item,[.var 2,.var 17],.var 18),(.cmp .Eq,[.var 18,.str ")"],.bool p),(.push,[Ff o 15,.var 17],.var 19)]
theorem Tz(o p:Bool):ng (XL (k6 o p)) (rL (k6 o p)) (km f6 (ak r6).s OC JL) (ak r6).a (ak r6).g.target (ak r6).g.ifs 12 (.var 17) (Hp o)=some (TP o p):=by cases o<;>cases p<;>kernel_rfl
theorem Ty:ui (XL [(.cmp .NotEq,[.var 14,.var 15],.bool false)]) .NotEq (vv 14) (.ref 12) ((Hp true).set 13 none)=some (.bool false):=by kernel_rfl
noncomputable def fe(cs:List Nat)(k:Nat):Option Nat:=if (c1 (cs.getD k 0)==(")" : Str))=true then some k else none
noncomputable def yS(cs:List Nat)(ox:List Nat)(acc:List Nat)(oth:D)(k:Nat):List D:=[nL ox,nL acc,oth,.int k,.str (c1 (cs.getD k 0)),nL (acc++[k])]
theorem DF(l:List Nat):av (mO Mq) (.cmp .NotEq) [nL l,nL l]=some (.bool false):=by
 rw [show nL l= .lst ((l.map λ n:Nat=>(n:Int)).map .int) by rw [List.map_map];rfl]
 show (((cD _).bind λ ns=>(cD _).map λ ms=>D.bool (!decide (ns=ms))).or _)=_
 rw [dW]
 exact congrArg (λ b=>some (D.bool (!b))) (decide_eq_true rfl)
section
variable{h₀:Heap}{P:bZ}
theorem Ar(b:aI h₀){z:BZ}(hc:z.cs.length=12){ox:List Nat}(hs:iV [(z.l0:Int),(z.l1:Int),(z.l2:Int)]=ox.map λ n:Nat=>(n:Int))(hk:(List.range' 0 12).filterMap (fe z.cs)=ox)(y y':List D)
  (h:TF h₀ (Eq h₀) 51 f6 (execs (gq.drop 7)) (vT z y') (bs 7 []) P):TF h₀ (Eq h₀) 51 f6 (execs (gq.drop 6)) (vT z y) (bs 7 []) P:=by
 have ok:∀ K,aB h₀ (XL K) bz:=λ K=>b.all (jS b) K true bi
 rw [Na]
 refine TF.re (en':=vT z (yS z.cs ox [] .none 0)) (σ':=bs 7 []) ⟨[],by kernel_rfl,by kernel_rfl⟩ (TF.consA (G₁:=Eq h₀) (TF.ite (TB.compare (by kernel_rfl) (TV.run (ok K6) (M:=12) (show 12+31<=51 by decide) (aO.ok ⟨aQ (Un rfl),aQ (Un rfl),aQ (Un rfl),?_,trivial⟩) TG
  (TV.mono (TV.comp (n:=12) (Pc:=λ en σ=>en=vT z (yS z.cs ox ox (en 16) 12)∧σ=(Hp true).set 13 none) (mA (m:=12) (ok []) (M:=12) (show 12+31<=51 by decide) aD (by kernel_rfl) TD (by kernel_rfl) (by kernel_rfl) TA rfl (fe z.cs) Hp (λ acc oth k=>vT z (yS z.cs ox acc oth k)) (by kernel_rfl) (λ k oth o hk ho=>?_) (by decide) ⟨⟨⟨.type "dict",none,.dict []⟩,_,(show (Hp true).at 13=some ⟨.type "dict",none,.dict [("turn",vv 16)]⟩ by kernel_rfl)⟩,λ oth=>⟨by rw [hk];rfl,rfl⟩⟩ rfl)) λ v en σ ⟨ev,ee,es⟩=>?_)))))
 ·show some (D.lst ((iV [(z.l0:Int),(z.l1:Int),(z.l2:Int)]).map .int))=some (nL ox)
  rw [hs,List.map_map];rfl
 ·have hx:∀ p,(c1 (z.cs.getD k 0)==(")" : Str))=p->sI h₀ 51 (sd f6 (ak r6).s OC JL).length 12 (km f6 (ak r6).s OC JL) (ak r6).a (ak r6).g.target (ak r6).g.ifs (λ en' σ'=>σ'=Hp true∧en'=vT z (yS z.cs ox ((List.range' 0 k).filterMap (fe z.cs)++(fe z.cs k).toList) (.int k) (k+1))) (.int k) (vT z (yS z.cs ox ((List.range' 0 k).filterMap (fe z.cs)) oth k)) (Hp o):=λ p ep=>by
   refine ⟨XL (k6 o p),bz,12,.var 17,_,ok _,show 12+31<=51 by decide,aO.ok ⟨ez (hc.symm▸hk) (Ul (Nat.le_of_lt hk) (by decide)),congrArg (λ b=>some (D.bool b)) ep,?_,trivial⟩,rfl,Tz o p,_,_,?_,rfl,rfl⟩
   ·cases o with
    | false=>obtain rfl:=ho rfl;exact aQ (Un rfl)
    | true=>exact bw (f:=nD) (Ul (rF _ k) (Ul (Nat.le_of_lt hk) (by decide)))
   ·have ek:fe z.cs k=if p=true then some k else none:=by unfold fe;rw [ep]
    rw [ek]
    cases o with
    | false=>obtain rfl:=ho rfl;cases p<;>exact ⟨[],by kernel_rfl,by kernel_rfl⟩
    | true=>cases p with
     | true=>exact ⟨[],by kernel_rfl,by kernel_rfl⟩
     | false=>rw [show (if false=true then some k else none:Option Nat).toList=[] from rfl,List.append_nil];exact ⟨[],by kernel_rfl,by kernel_rfl⟩
  exact hx _ rfl
 ·subst ev es
  rw [ee]
  refine ⟨XL [(.cmp .NotEq,[.var 14,.var 15],.bool false)],bz,vv 14,false,ok _,show 31<=51 by decide,aO.ok ⟨?_,trivial⟩,rfl,Ty,TF.nil ⟨rfl,vT z y',bs 7 [],⟨[],by kernel_rfl,by kernel_rfl⟩,λ ab e=>e▸h⟩⟩
  exact DF ox
end
noncomputable def s7:Stmt:=bt gq 7
theorem M9:gq.drop 7=MP "_law_ties" s7::gq.drop 8:=by kernel_rfl
noncomputable def Li:D:= .lst (List.replicate 26 .none)
noncomputable def sT(a b c d:Option AO):St:=[fX [("script",vv 0),("due",vv 1),("around",.ref 6),("far",.ref 7),("given",.ref 8),("mates",.ref 9),("elements",.ref 10),("brackets",.ref 11)],gk (vv 2),gk (vv 3),gk (vv 4),c,d,bS (.var 5),bS (.var 6),bS Li,bS MT,a,b]
theorem Tx:c7 (rL []) f6 (ak (aJ s7)).l (bs 7 [])=some ([vv 2,.ref 6,.ref 9,.ref 8],bs 7 []):=by kernel_rfl
theorem Tw:aX (XL []).glob f6 "_law_ties" (bs 7 [])=some (.glob (.ref 249)):=by kernel_rfl
noncomputable def KG(h:Bool):Option St:=cW (XL []) (rL []) f6 (.Tuple (OQ s7) 0 (OP s7)) (.tup [.ref 19,.ref 20]) (N3 h)
noncomputable abbrev Ci:St:=sT (bS (.var 14)) (bS (.var 15)) hU hU
noncomputable def O7:Option (Fl×St):=af (cy (XL []) bz 12) f6 ((gq.drop 8).take 1) Ci
theorem M8:gq.drop 8=(gq.drop 8).take 1++gq.drop 9:=by kernel_rfl
section
variable{h₀:Heap}{G:Heap->Prop}{N:Nat}{c:aw}{en:Nat->D}{σ:St}{t:Env->Sem Flow}{P:bZ}
theorem TF.freeze{i:Nat}{d:D}(hi:σ.at i=some ⟨.type "list",none,.dseq d⟩)(h:TF h₀ G N c t en (σ.set i (some ⟨.type "list",none,.fro d⟩)) P):TF h₀ G N c t en σ P:= .mk λ W A s a=>by
 obtain ⟨ai,ds,o,e1,ed,le,hdv,ax⟩:=a.R.freeze (St.at_some hi)
 exact TF.go (W':={ W with F:=⟨W.F.en,(ai,o)::W.F.fs⟩ }) (show TF h₀ G N c t W.F.en _ P from a.e.symm▸h) a le.lf ax
end
noncomputable abbrev kF(l:List (Nat×Nat)):List Pr:=l.map λ p=>((p.1:Int),(p.2:Int))
noncomputable def eT(z:BZ)(E B:List Pr)(y:List D):Nat->D:=vT z (pL E::pL B::y)
noncomputable def RN:bK:=[(.fn 254,[.var 14],.var 16),(.fn 254,[.var 15],.var 17)]
noncomputable abbrev Ox(d:D):Option AO:=some ⟨.type "list",none,.fro d⟩
noncomputable def JM:St:=sT (Ox (.var 14)) (Ox (.var 15)) (gk (vv 16)) (gk (vv 17))
theorem Tv:af (rL RN) f6 ((gq.drop 9).take 2) (sT (Ox (.var 14)) (Ox (.var 15)) hU hU)=some (.next,JM):=by kernel_rfl
noncomputable def KD:Stmt:=bt gq 11
noncomputable def O2:Expr:=aJ KD
noncomputable def x9:Expr:=(ak O2).a
noncomputable def Rm:Expr:=(ak O2).l.headD dB
theorem M7:gq.drop 9=(gq.drop 9).take 2++[.Return (some (.Compare (.ListComp (ak x9).a [⟨(ak x9).g.target,(ak x9).g.iter,(ak x9).g.ifs,0⟩] (ak x9).s (ak x9).p) [.Eq] [Rm] (ak O2).p)) (bE KD)]:=by kernel_rfl
noncomputable def MQ:List (Str×Nat):=[("others",5),("chosen",4)]
noncomputable def sX(o:Bool):St:=JM++[bS (.lst []),Gm (if o then [("turn",vv 19)] else [])]
noncomputable def TT:St:=JM++[bS (.lst []),Gm [("turn",vv 20)]]
noncomputable def P6:bK:=[(.item,[.var 16,.var 20],.var 21),(.item,[.var 21,.int 0],.var 22),(.bin .Sub,[.int 63,.var 20],.var 23),(.item,[.var 17,.var 23],.var 24),(.item,[.var 24,.int 1],.var 25),(.bin .Sub,[.var 25,.int 1],.var 26),(.cmp .NotEq,[.var 22,.var 26],.bool false)]
theorem PK(o:Bool):ng (XL P6) (rL P6) (km f6 (ak x9).s MQ JM) (ak x9).a (ak x9).g.target (ak x9).g.ifs 12 (.var 20) (sX o)=some TT:=by cases o<;>kernel_rfl
theorem PJ:(rL []).E f6 (ak x9).g.iter JM=some (.rcd "range" [.d (.int 0),.d (.int 64),.d (.int 1)],JM):=by kernel_rfl
theorem PI:dL (ak x9).s.names f6.cells []=some MQ:=by kernel_rfl
theorem PH:(rL []).E f6 Rm ((sX true).set 13 none)=some (.ref 14,(sX true).set 13 none++[some (iF [])]):=by kernel_rfl
theorem PG:ui (XL []) .Eq (.ref 12) (.ref 14) ((sX true).set 13 none++[some (iF [])])=some (.bool true):=by kernel_rfl
noncomputable abbrev ya(t:List (Nat×Nat))(k:Nat):M4:=(fZ t [jx]).getD k jx
noncomputable def OK(te tb:List (Nat×Nat))(oth:D)(k:Nat):List D:=[fk te,fk tb,.lst [],oth,.int k,jC (ya te k),.int (ya te k).r,.int (63-k:Nat),jC (ya tb (63-k)),.int (ya tb (63-k)).g,.int ((ya tb (63-k)).g-1)]
structure wo(te tb:List (Nat×Nat)):Prop where
 e4:∀ t∈te,t.1<4∧t.2<4
 b4:∀ t∈tb,t.1<4∧t.2<4
 e6:te.length<=6
 b6:tb.length<=6
 el:(fZ te [jx]).length=64
 bl:(fZ tb [jx]).length=64
 law:∀ k,k<64->(ya te k).r=(ya tb (63-k)).g-1
section
variable{h₀:Heap}{P:bZ}
theorem xA(l:List (Nat×Nat))(h:∀ t∈l,t.1<4∧t.2<4):nV ((kF l).map pD)=some l:=by
 induction l with
 | nil=>rfl
 | cons t l ih=>
  obtain ⟨h1,h2⟩:=List.forall_mem_cons.mp h
  have n4:∀ {a:Nat},a<4->pc 4 (.int a)=some a:=λ h=>if_pos ⟨Int.natCast_nonneg _,h⟩
  show ((pc 4 (.int t.1)).bind λ a=>(pc 4 (.int t.2)).map λ b=>(a,b)).bind (λ p=>(nV ((kF l).map pD)).map (p::·))=_
  rw [n4 h1.1,n4 h1.2,ih h2];rfl
theorem v8{l:List (Nat×Nat)}(h:∀ t∈l,t.1<4∧t.2<4)(h6:l.length<=6):av (mO Mq) (.fn 254) [pL (kF l)]=some (fk l):=by
 show (((nV ((kF l).map pD)).bind λ ts=>if ts.length<=6 then some (fk ts) else none).or _)=_
 rw [xA l h,Option.bind_some,if_pos h6];rfl
theorem DQ(b:aI h₀){z:BZ}{te tb:List (Nat×Nat)}(q:wo te tb){V':fu}(hV:∀ en σ,V' (.d (.bool true)) en σ):TF h₀ (Eq h₀) 51 f6 (execs (gq.drop 9)) (eT z (kF te) (kF tb) (OK te tb .none 0)) Ci λ f=>V' (oW f):=by
 have ok:∀ K,aB h₀ (XL K) bz:=λ K=>b.all (jS b) K true bi
 refine TF.freeze (i:=10) (d:= .var 14) rfl (TF.freeze (i:=11) (d:= .var 15) rfl ?_)
 rw [M7]
 refine TF.runs (ok RN) (M:=12) (show 12+31<=51 by decide) ((gq.drop 9).take 2) (aO.ok ⟨v8 q.e4 q.e6,v8 q.b4 q.b6,trivial⟩) Tv (TF.cons (G₁:=Eq h₀) (TF.ret (TV.compare (by kernel_rfl) (TV.mono (TV.comp (n:=12) (Pc:=λ en σ=>σ=(sX true).set 13 none)
  (mA (m:=64) (ok []) (M:=12) (show 12+31<=51 by decide) aD (by kernel_rfl) PJ (by kernel_rfl) (by kernel_rfl) PI rfl (λ _=>(none:Option Unit)) sX (λ _ oth k=>eT z (kF te) (kF tb) (OK te tb oth k)) (by kernel_rfl) (λ k oth o hk ho=>?_) (by decide) ⟨⟨⟨.type "dict",none,.dict []⟩,_,(show (sX true).at 13=some ⟨.type "dict",none,.dict [("turn",vv 19)]⟩ by kernel_rfl)⟩,λ oth=>rfl⟩ rfl)) λ v en σ ⟨ev,es⟩=>?_))))
 ·have it:∀ {l:List M4} {j:Nat} {O:eI},l.length=64->j<64->av O .item [.lst (l.map jC),.int j]=some (jC (l.getD j jx)):=λ hl hj=>fg (f:=jC) (by rw [List.getD_eq_getElem?_getD,List.getElem?_eq_getElem (hl.symm▸hj)];rfl) (Ul (Nat.le_of_lt hj) (by decide))
  refine ⟨XL P6,bz,12,.var 20,_,ok _,show 12+31<=51 by decide,aO.ok ⟨it q.el hk,rfl,eG (congrArg (λ i=>some (D.int i)) (Int.ofNat_sub (Nat.le_of_lt_succ hk)).symm),it q.bl (Nat.lt_of_le_of_lt (Nat.sub_le _ _) (by decide)),rfl,eG rfl,?_,trivial⟩,rfl,PK o,_,_,?_,rfl,rfl⟩
  ·show some (D.bool ((ya te k).r != (ya tb (63-k)).g-1))=_
   rw [q.law k hk,bne_self_eq_false];rfl
  ·cases o<;>exact ⟨[],by kernel_rfl,by kernel_rfl⟩
 ·subst ev es
  exact TV.run (ok []) (M:=12) (show 12+31<=51 by decide) aD PH ⟨XL [],bz,.ref 12,true,ok _,show 31<=51 by decide,aD,rfl,PG,⟨hV _ _,λ _ h=>h⟩⟩
theorem TC.mono{G:Heap->Prop}{N:Nat}{a:Addr}{as:List V}{en:Nat->D}{σ:St}{P Q:fu}(h:TC h₀ G N a as en σ P)(k:∀ v en σ,P v en σ->Q v en σ):TC h₀ G N a as en σ Q:= .mk λ W A s xs e ha R hx=>aC (h.ap W A s xs e ha R hx) λ x s' ⟨h,v,W',σ',g,l,r,R,p⟩=>⟨h,v,W',σ',g,l,r,R,k _ _ _ p⟩
theorem Aq(b:aI h₀){sc:D}{cs:List Nat}{S:TW}{f0 l0 f1 l1 f2 l2:Nat}(hz:kT (zM sc cs S f0 l0 f1 l1 f2 l2))(hu:kT (zM sc cs S f0 l0 f1 l1 f2 l2).up){I:List Int×List Int}{T:List Pr×List Pr}(hT:p8 (zM sc cs S f0 l0 f1 l1 f2 l2) I T)(y:List D)
  (h:TF h₀ (Eq h₀) 51 f6 (execs (gq.drop 9)) (eT (zM sc cs S f0 l0 f1 l1 f2 l2) (JE (zM sc cs S f0 l0 f1 l1 f2 l2) T.1) (JJ I.2 T.2) y) Ci P) :
  TF h₀ (Eq h₀) 51 f6 (execs (gq.drop 7)) (rY (zM sc cs S f0 l0 f1 l1 f2 l2) 0 [] .none (cs.headD 0)) (bs 7 []) P:=by
 have ok:∀ K,aB h₀ (XL K) bz:=λ K=>b.all (jS b) K true bi
 rw [M9]
 refine TF.consA (G₁:=Eq h₀) (TF.asgT rfl rfl (TV.call (ok []) (M:=12) (show 12+31<=51 by decide) aD Tw (by kernel_rfl) Tx (TC.mono (TC.le (by decide) (OW b hz hu hT)) λ v en σ ⟨n,sp,tn,late,num,hb,ev,es,ee⟩=>?_)))
 subst ev es ee
 obtain ⟨σe,hr,ag⟩:=sr (L:=21) (n₀:=10) (ex:=[19,20]) (σ':=Ci) (en':=eT (zM sc cs S f0 l0 f1 l1 f2 l2) (JE (zM sc cs S f0 l0 f1 l1 f2 l2) T.1) (JJ I.2 T.2) y) (show Fd ((KG hb).map λ σ=>(Fl.next,σ)) 10 21 [19,20] (eZ (zM sc cs S f0 l0 f1 l1 f2 l2).up (cz cs 0) n sp (Di (zM sc cs S f0 l0 f1 l1 f2 l2)) I.1 I.2 tn T.1 T.2 late num) Ci=Fc 10 21 [19,20] _ Ci by cases hb<;>kernel_rfl)
 obtain ⟨σ₁,h1,h2⟩:=Option.map_eq_some_iff.mp hr
 obtain rfl:=(Prod.mk.inj h2).2
 refine ⟨XL [],bz,12,σ₁,λ ab e=>e▸ok [],show 12+31<=51 by decide,aD,h1,rfl,_,Ci,ag,λ ab e=>e▸?_⟩
 rw [M8]
 obtain ⟨σe,hr,ag⟩:=sr (L:=15) (n₀:=12) (ex:=[]) (σ':=Ci) (en':=eT (zM sc cs S f0 l0 f1 l1 f2 l2) (JE (zM sc cs S f0 l0 f1 l1 f2 l2) T.1) (JJ I.2 T.2) y) (show Fd O7 12 15 [] (eT (zM sc cs S f0 l0 f1 l1 f2 l2) (JE (zM sc cs S f0 l0 f1 l1 f2 l2) T.1) (JJ I.2 T.2) y) Ci=Fc 12 15 [] _ Ci by kernel_rfl)
 exact TF.runsA (ok []) (M:=12) (show 12+31<=51 by decide) ((gq.drop 8).take 1) aD hr ag h
end
inductive Fj(cs:List Nat):Prop
 | mk (S:TW) (f0 l0 f1 l1 f2 l2:Nat) (I:List Int×List Int) (T:List Pr×List Pr) (te tb ox) (t:sC cs S) (pg:l3 (bG cs)=true) (ar:S.ar.length=12) (hM:(List.range' 0 12).filterMap (ff cs)=[(f0,l0),(f1,l1),(f2,l2)])
  (bd:((f0<12∧l0<12)∧f1<12∧l1<12)∧f2<12∧l2<12) (hs:iV [(l0:Int),(l1:Int),(l2:Int)]=ox.map λ n:Nat=>(n:Int)) (hk:(List.range' 0 12).filterMap (fe cs)=ox) (hT:p8 (zM .none cs S f0 l0 f1 l1 f2 l2) I T) (he:JE (zM .none cs S f0 l0 f1 l1 f2 l2) T.1=kF te) (hb:JJ I.2 T.2=kF tb) (q:wo te tb)
theorem Kj{h₀:Heap}(p:PhB h₀)(ln:B4 h₀)(hcr:∀ ab,fR h₀ ab->Cp ab){script:List Int}(hl:script.length<=1000){cs:List Nat}(hs:lG script=bL cs)(q:Fj cs):TC h₀ (fR h₀) 52 259 [vv 0] (jp [.lst (script.map .int)]) [] λ v _ _=>v= .d (.bool true):=by
 obtain ⟨S,f0,l0,f1,l1,f2,l2,I,T,te,tb,ox,t,pg,ar,hM,bd,hs',hk,hT,he,hb,q⟩:=q
 have z:∀ g,g<=900->kT { zM (.lst (script.map .int)) cs S f0 l0 f1 l1 f2 l2 with gv:=g }:=λ g hg=>⟨t.hc,t.as,ar,bd.1.1.1,bd.1.1.2,bd.1.2.1,bd.1.2.2,bd.2.1,bd.2.2,hg⟩
 exact As p ln hcr hl hs t (yM cs [] .none 0) λ ab cq=>xg cq.b t _ pg hM _ (Ar cq.b (z:=zM _ cs S f0 l0 f1 l1 f2 l2) t.hc hs' hk [] _ (Aq cq.b (z 20 (by decide)) (z 26 (by decide)) ⟨hT.i,hT.e,hT.ht,hT.hi,hT.ho,hT.h1,hT.h2⟩ (OK te tb .none 0)
  (show TF ab (Eq ab) 51 f6 _ (eT _ (JE (zM .none cs S f0 l0 f1 l1 f2 l2) T.1) (JJ I.2 T.2) _) _ _ from he▸hb▸DQ (V':=λ v _ _=>v= .d (.bool true)) cq.b q λ _ _=>rfl)))
noncomputable def sB:List Nat->Bool->Bool->List Nat->List Nat
 | [],_,q,b=>if q=true then b else []
 | c::r,e,q,b=>if e=true then (if q=true then sB r false true (b++[c]) else c::sB r false false []) else if c=92 then (if q=true then sB r true true (b++[c]) else c::sB r true false [])
  else if c=34 then (if q=true then sB r false false [] else sB r false true [c]) else (if q=true then sB r false true (b++[c]) else c::sB r false false [])
noncomputable def e9(X:List Nat)(a b:Nat):List Nat:=(X.drop a).take (b-a)
theorem gy{X r:List Nat}{a i c:Nat}(ha:a<=i)(h:X.drop i=c::r):e9 X a (i+1)=e9 X a i++[c]:=by
 have e:X[i]?=some c:=by rw [← Nat.add_zero i,← List.getElem?_drop,h];rfl
 unfold e9
 rw [Nat.succ_sub ha,List.take_add_one,List.getElem?_drop,Nat.add_sub_cancel' ha,e];rfl
theorem gz(X:List Nat)(a:Nat):e9 X a a=[]:=by unfold e9;rw [Nat.sub_self];rfl
theorem uU(X:List Nat){a i:Nat}(h:X.drop i=[]):e9 X a i=X.drop a:=List.take_of_length_le (by rw [List.length_drop];exact Nat.sub_le_sub_right (List.drop_eq_nil_iff.mp h) a)
theorem uT(X:List Nat){a b:Nat}(h:a<=b):e9 X a b++X.drop b=X.drop a:=by
 unfold e9
 rw [show X.drop b=(X.drop a).drop (b-a) by rw [List.drop_drop,Nat.add_sub_cancel' h]]
 exact List.take_append_drop _ _
theorem cK{X r:List Nat}{i c:Nat}(h:X.drop i=c::r):X.drop (i+1)=r:=by rw [← List.drop_drop,h];rfl
noncomputable def ba(l:List Str):List Nat:=(l.map (·.cps.toList)).flatten
theorem c8(c k:Nat):((⟨#[c]⟩:Str)==⟨#[k]⟩)=(c==k):=by
 rw [Bool.eq_iff_iff,beq_iff_eq,beq_iff_eq]
 exact ⟨λ h=>by injection h with h;injection h with h;injection h,λ h=>h▸rfl⟩
theorem uc(c k:Nat):((("\\" : Str)++(⟨#[c]⟩:Str))==(⟨#[k]⟩:Str))=false:=by
 rw [Bool.eq_false_iff,Ne,beq_iff_eq]
 exact λ h=>absurd (congrArg (λ s:Str=>s.cps.size) h) (by show ¬ (#[92]++#[c]).size=1;rw [Array.size_append];show ¬ 2=1;decide)
section
variable{x:Str}
theorem len_list(x:Str):x.length=x.cps.toList.length:=rfl
theorem nv{a b:Nat}(h:a<=b)(hb:b<=x.length):(Txt.slice x (some (a:Int)) (some (b:Int))).cps.toList=e9 x.cps.toList a b:=by
 rw [eq_of_beq (slice_closesL (x:=x) (i:=(a:Int)) (j:=(b:Int)) (Int.natCast_nonneg a) (Int.ofNat_le.mpr h) (Int.ofNat_le.mpr hb))]
 show List.take ((b:Int)-a).toNat (List.drop (a:Int).toNat x.cps.toList)=_
 rw [Int.toNat_sub];rfl
theorem wV{a:Nat}(h:a<=x.length):(Txt.slice x (some (a:Int)) none).cps.toList=x.cps.toList.drop a:=by
 rw [slice_from_eq (x:=x) (i:=(a:Int)) (b:=(x.length:Int)) (Int.natCast_nonneg a) (Int.ofNat_le.mpr h) rfl]
 show List.take ((x.length:Int)-a).toNat (List.drop (a:Int).toNat x.cps.toList)=_
 rw [Int.toNat_sub]
 exact List.take_of_length_le (by rw [List.length_drop];exact Nat.le_refl _)
theorem bY(l:List Str)(y:Str):ba (l++[y])=ba l++y.cps.toList:=by unfold ba;rw [List.map_append,List.flatten_append];exact congrArg (_++·) (List.append_nil _)
theorem IM{st:Nat}{op:Option Int}{res:List Str}(h:st<=x.length):ba (dK x ⟨st,op,res⟩)=ba res++x.cps.toList.drop st:=by
 show ba (if (st:Int)<(x.length:Int) then res++[Txt.slice x (some (st:Int)) none] else res)=_
 by_cases q:(st:Int)<(x.length:Int)
 ·rw [if_pos q,bY,wV h]
 ·rw [if_neg q,List.drop_eq_nil_iff.mpr (Nat.le_of_not_lt λ h=>q (Int.ofNat_lt.mpr h)),List.append_nil]
theorem qF(s:Sp){p:Sg}(h:(p.2==("\"" : Str))=false):ci x s p=s:=by unfold ci;rw [h];rfl
theorem yF(cs:List Nat):∀ (i:Nat) (e:Bool) (l:Int) (st:Nat) (op:Option Nat) (res:List Str),x.cps.toList.drop i=cs->i<=x.length->st<=i->(∀ o,op=some o->st<=o∧o<=i) ->
  ba (dK x ((fJ cs i e l).foldl (ci x) ⟨st,op.map λ n:Nat=>(n:Int),res⟩))=ba res++e9 x.cps.toList st (op.getD i)++sB cs e op.isSome (op.elim [] λ o=>e9 x.cps.toList o i):=by
 induction cs with
 | nil=>
  intro i e l st op res hd hi hs ho
  have e1:(fJ [] i e l).foldl (ci x) ⟨st,op.map λ n:Nat=>(n:Int),res⟩=⟨st,op.map λ n:Nat=>(n:Int),res⟩:=by cases e<;>rfl
  rw [e1,IM (Ul hs hi),List.append_assoc]
  refine congrArg (_++·) ?_
  cases op with
  | none=>exact (uU _ hd).symm.trans (List.append_nil _).symm
  | some o=>
   show _=e9 _ st o++e9 _ o i
   rw [uU _ hd,uT _ (ho o rfl).1]
 | cons c cs ih=>
  intro i e l st op res hd hi hs ho
  have hd':=cK hd
  have hi':i+1<=x.length:=Nat.lt_of_le_of_ne hi λ e=>List.cons_ne_nil _ _ (hd.symm.trans (List.drop_eq_nil_iff.mpr (Up e.symm)))
  have hs':st<=i+1:=Nat.le_succ_of_le hs
  have ho':∀ o,op=some o->st<=o∧o<=i+1:=λ o h=>⟨(ho o h).1,Nat.le_succ_of_le (ho o h).2⟩
  have keep:∀ (e':Bool) (l':Int),(sB (c::cs) e op.isSome (op.elim [] λ o=>e9 x.cps.toList o i)=if op.isSome=true then sB cs e' true ((op.elim [] λ o=>e9 x.cps.toList o i)++[c]) else c::sB cs e' false []) ->
    ba (dK x ((fJ cs (i+1) e' l').foldl (ci x) ⟨st,op.map λ n:Nat=>(n:Int),res⟩))=ba res++e9 x.cps.toList st (op.getD i)++sB (c::cs) e op.isSome (op.elim [] λ o=>e9 x.cps.toList o i):=λ e' l' hb=>by
   rw [ih (i+1) e' l' st op res hd' hi' hs' ho',hb]
   cases op with
   | none=>
    show _++e9 _ st (i+1)++sB cs e' false []=_++e9 _ st i++(c::sB cs e' false [])
    rw [gy hs hd,List.append_assoc,List.append_assoc,List.append_assoc];rfl
   | some o=>exact congrArg (λ b=>_++sB cs e' true b) (gy (ho o rfl).2 hd)
  cases e with
  | true=>exact (congrArg (λ s=>ba (dK x ((fJ cs (i+1) false i).foldl (ci x) s))) (qF _ (uc c 34))).trans (keep false i rfl)
  | false=>
   have hb:sB (c::cs) false op.isSome (op.elim [] λ o=>e9 x.cps.toList o i)=if c=92 then (if op.isSome=true then sB cs true true ((op.elim [] λ o=>e9 x.cps.toList o i)++[c]) else c::sB cs true false []) else if c=34 then (if op.isSome=true then sB cs false false [] else sB cs false true [c]) else (if op.isSome=true then sB cs false true ((op.elim [] λ o=>e9 x.cps.toList o i)++[c]) else c::sB cs false false []):=rfl
   show ba (dK x ((if ((⟨#[c]⟩:Str) == "\\")=true then fJ cs (i+1) true i else ((i:Int),(⟨#[c]⟩:Str))::fJ cs (i+1) false i).foldl (ci x) _))=_
   rw [show ((⟨#[c]⟩:Str) == "\\")=(c==92) from c8 c 92]
   by_cases h1:c=92
   ·rw [if_pos (beq_iff_eq.mpr h1)]
    exact keep true i (hb.trans (if_pos h1))
   ·rw [if_neg λ h=>h1 (beq_iff_eq.mp h)]
    by_cases h2:c=34
    ·rw [hb,if_neg h1,if_pos h2]
     have q:((⟨#[c]⟩:Str)==("\"" : Str))=true:=(c8 c 34).trans (beq_iff_eq.mpr h2)
     cases op with
     | none=>
      refine (congrArg (λ s=>ba (dK x ((fJ cs (i+1) false i).foldl (ci x) s))) (show ci x ⟨st,none,res⟩ ((i:Int),⟨#[c]⟩)=⟨st,some (i:Int),res⟩ by unfold ci;rw [show (((i:Int),(⟨#[c]⟩:Str)).2==("\"" : Str))=true from q];rfl)).trans ?_
      refine (ih (i+1) false i st (some i) res hd' hi' hs' λ o h=>Option.some.inj h▸⟨hs,Nat.le_succ i⟩).trans ?_
      show _++e9 _ st i++sB cs false true (e9 _ i (i+1))=_++e9 _ st i++sB cs false true [c]
      rw [gy (Nat.le_refl i) hd,gz];rfl
     | some o=>
      obtain ⟨k1,k2⟩:=ho o rfl
      refine (congrArg (λ s=>ba (dK x ((fJ cs (i+1) false i).foldl (ci x) s))) (show ci x ⟨st,some (o:Int),res⟩ ((i:Int),⟨#[c]⟩)=⟨((i+1:Nat):Int),none,if ((st:Int) != (o:Int))=true then res++[Txt.slice x (some (st:Int)) (some (o:Int))] else res⟩ by unfold ci;rw [show (((i:Int),(⟨#[c]⟩:Str)).2==("\"" : Str))=true from q];rfl)).trans ?_
      refine (ih (i+1) false i (i+1) none _ hd' hi' (Nat.le_refl _) λ o h=>M.Internal.ns h).trans ?_
      show _++e9 _ (i+1) (i+1)++sB cs false false []=ba res++e9 _ st o++sB cs false false []
      rw [gz,List.append_nil]
      refine congrArg (·++_) ?_
      by_cases h3:st=o
      ·rw [h3,gz,List.append_nil,if_neg (by rw [bne_self_eq_false];exact Bool.false_ne_true)]
      ·rw [if_pos (show ((st:Int) != (o:Int))=true from bne_iff_ne.mpr λ e=>h3 (Int.ofNat.inj e)),bY,nv k1 (Ul k2 hi)]
    ·exact (congrArg (λ s=>ba (dK x ((fJ cs (i+1) false i).foldl (ci x) s))) (qF _ ((c8 c 34).trans (beq_eq_false_iff_ne.mpr h2)))).trans (keep false i (hb.trans ((if_neg h1).trans (if_neg h2))))
theorem yG(x:Str):(bP x).cps.toList=sB x.cps.toList false false []:=by
 have h:ba (dK x (uM x))=sB x.cps.toList false false []:=(yF (x:=x) x.cps.toList 0 false 0 0 none [] rfl (Nat.zero_le _) (Nat.le_refl 0) λ o h=>M.Internal.ns h).trans (by
  show []++e9 x.cps.toList 0 0++_=_
  rw [gz];rfl)
 unfold bP
 by_cases q:ml "\"" x=true
 ·rw [if_pos q,cQ];exact h
 ·rw [if_neg q]
  have hq:34∉x.cps.toList:=λ m=>q ((StrLaws.found_one x 34).trans (decide_eq_true m))
  have no:∀ (l:List Nat) (e:Bool),34∉l->sB l e false []=l:=λ l=>by
   induction l with
   | nil=>exact λ _ _=>rfl
   | cons c l ih=>
    intro e hm
    have ih:=λ e=>ih e λ m=>hm (.tail _ m)
    cases e with
    | true=>exact congrArg (c::·) (ih false)
    | false=>
     show (if c=92 then c::sB l true false [] else if c=34 then _ else c::sB l false false [])=_
     rw [if_neg (show ¬ c=34 from λ e=>hm (e▸ .head _)),ih,ih]
     exact ite_self _
  exact (no _ false hq).symm
noncomputable def wc:List Nat->Bool->Nat->Bool
 | [],_,o=>o==0
 | c::r,e,o=>if e=true then wc r false o else if c=92 then wc r true o else if c=40 then wc r false (o+1) else if c=41 then (if o=0 then false else wc r false (o-1)) else wc r false o
theorem MR(cs:List Nat):∀ (i:Nat) (e:Bool) (l:Int) (o:Nat),xL (fJ cs i e l) o=wc cs e o:=by
 induction cs with
 | nil=>
  intro i e l o
  cases e<;>cases o<;>rfl
 | cons c cs ih=>
  intro i e l o
  cases e with
  | true=>
   show xL (((i:Int),("\\" : Str)++⟨#[c]⟩)::fJ cs (i+1) false i) o=wc cs false o
   exact (mC ..).trans ((if_neg λ h=>ft ((uc c 40).symm.trans h)).trans ((if_neg λ h=>ft ((uc c 41).symm.trans h)).trans (ih ..)))
  | false=>
   show xL (if ((⟨#[c]⟩:Str) == "\\")=true then fJ cs (i+1) true i else ((i:Int),(⟨#[c]⟩:Str))::fJ cs (i+1) false i) o=(if c=92 then wc cs true o else if c=40 then wc cs false (o+1) else if c=41 then (if o=0 then false else wc cs false (o-1)) else wc cs false o)
   rw [show ((⟨#[c]⟩:Str) == "\\")=(c==92) from c8 c 92]
   by_cases h1:c=92
   ·rw [if_pos (beq_iff_eq.mpr h1),if_pos h1];exact ih ..
   ·rw [if_neg λ h=>h1 (beq_iff_eq.mp h),if_neg h1,mC,show (((i:Int),(⟨#[c]⟩:Str)).2==("(" : Str))=(c==40) from c8 c 40,show (((i:Int),(⟨#[c]⟩:Str)).2==(")" : Str))=(c==41) from c8 c 41]
    by_cases h2:c=40
    ·rw [if_pos (beq_iff_eq.mpr h2),if_pos h2];exact ih (i+1) false i (o+1)
    ·rw [if_neg λ h=>h2 (beq_iff_eq.mp h),if_neg h2]
     by_cases h3:c=41
     ·rw [if_pos (beq_iff_eq.mpr h3),if_pos h3]
      cases o with
      | zero=>rfl
      | succ o=>
       rw [show ((o+1:Nat):Int)-1=(o:Int) from Int.add_sub_cancel o 1,if_neg (show ¬ decide ((o:Int)<0)=true from λ h=>absurd (of_decide_eq_true h) (Int.not_lt.mpr (Int.natCast_nonneg o))),if_neg (Nat.succ_ne_zero o)]
       exact ih (i+1) false i o
     ·rw [if_neg λ h=>h3 (beq_iff_eq.mp h),if_neg h3];exact ih ..
theorem mD(x:Str):aW x=wc (sB x.cps.toList false false []) false 0:=(MR _ 0 false 0 0).trans (congrArg (wc · false 0) (yG x))
end
noncomputable def fU(c o:Nat):Option Nat:=if c=40 then some (o+1) else if c=41 then (if o=0 then none else some (o-1)) else some o
noncomputable def dN:List Nat->Nat->Option Nat
 | [],o=>some o
 | c::w,o=>(fU c o).bind (dN w)
noncomputable def tV(c:Nat):Bool:=c==98||c==47||c==40||c==41
noncomputable abbrev Bv(l:List Nat)(o:Nat):Bool:=wc (sB l false false []) false o
theorem cJ{P:Nat->Prop}{c:Nat}(h:tV c=true)(h1:P 98)(h2:P 47)(h3:P 40)(h4:P 41):P c:=
 (Bool.or_eq_true_iff.mp h).elim (λ h=>(Bool.or_eq_true_iff.mp h).elim (λ h=>(Bool.or_eq_true_iff.mp h).elim (λ h=>eq_of_beq h▸h1) λ h=>eq_of_beq h▸h2) λ h=>eq_of_beq h▸h3) λ h=>eq_of_beq h▸h4
noncomputable abbrev su(T:Nat->List Nat)(c:Nat):Prop:=∀ r o,Bv (T c++r) o=(fU c o).elim false (Bv r)
theorem GX{c:Nat}(h:tV c=true):su (λ c=>tok c) c:=cJ (P:=su λ c=>tok c) h (λ r o=>by kernel_rfl) (λ r o=>by kernel_rfl) (λ r o=>by kernel_rfl) λ r o=>by cases o<;>kernel_rfl
theorem HB{c:Nat}(h:tV c=true):su (λ c=>[c]) c:=cJ (P:=su λ c=>[c]) h (λ r o=>by kernel_rfl) (λ r o=>by kernel_rfl) (λ r o=>by kernel_rfl) λ r o=>by cases o<;>kernel_rfl
theorem v7{T:Nat->List Nat}(hT:∀ {c},tV c=true->su T c)(post:List Nat)(w:List Nat)(h:w.all tV=true):∀ o,Bv ((w.map T).flatten++post) o=(dN w o).elim false (Bv post):=by
 induction w with
 | nil=>exact λ o=>rfl
 | cons c w ih=>
  intro o
  obtain ⟨h1,h2⟩:=Um.mp h
  rw [List.map_cons,List.flatten_cons,List.append_assoc,hT h1]
  show _=((fU c o).bind (dN w)).elim false _
  cases fU c o with
  | none=>rfl
  | some o'=>exact ih h2 o'
theorem uj{w:List Nat}(h:w.all tV=true):aW (bL (toks w))=(dN w 0==some 0):=by
 have:=v7 GX [] w h 0
 rw [List.append_nil] at this
 rw [mD]
 refine Eq.trans this ?_
 cases dN w 0 with
 | none=>rfl
 | some o=>cases o<;>rfl
theorem A3(w:List Nat):(w.map λ c=>[c]).flatten=w:=by
 induction w with
 | nil=>rfl
 | cons c w ih=>exact congrArg (c::·) ih
theorem jX{w:List Nat}(h:w.all tV=true)(h0:dN w 0=some 0)(post:List Nat):aW (bL (w++post))=Bv post 0:=by
 have:=v7 HB post w h 0
 rw [A3,h0] at this
 rw [mD]
 exact this
theorem iR(a b:List Nat):bL a++bL b=bL (a++b):=congrArg Str.mk (List.append_toArray a b)
theorem tZ{cs:List Nat}(hc:cs.length=12)(h:cs.all tV=true)(h0:dN cs 0=some 0):(l3 (bL cs)=true∧aW (bL cs)=true)∧(l3 (bL cs ++ "\"\\\\(")=true∧aW (bL cs ++ "\"\\\\(")=false)∧(l3 (bL cs ++ ")(")=true∧aW (bL cs ++ ")(")=false)∧l3 (")(" ++ bL cs)=true∧aW (")(" ++ bL cs)=false:=by
 have lt:∀ c∈cs,c<128:=λ c hm=>cJ (P:=(·<128)) (List.all_eq_true.mp h c hm) (by decide) (by decide) (by decide) (by decide)
 have ok:∀ l:List Nat,(∀ c∈l,c<128)->l.length<=1000->l3 (bL l)=true:=λ l h1 h2=>Um.mpr ⟨dX.mpr h1,decide_eq_true h2⟩
 have two:∀ a b:List Nat,(∀ c∈a,c<128)->(∀ c∈b,c<128)->a.length+b.length<=1000->l3 (bL a++bL b)=true:=λ a b h1 h2 h3=>iR a b▸ok _ (λ c hm=>(List.mem_append.mp hm).elim (h1 c) (h2 c)) (List.length_append.symm▸h3)
 refine ⟨⟨ok cs lt (hc▸by decide),?_⟩,⟨two cs [34,92,92,40] lt (by decide) (hc▸by decide),?_⟩,⟨two cs [41,40] lt (by decide) (hc▸by decide),?_⟩,two [41,40] cs (by decide) lt (hc▸by decide),?_⟩
 ·exact (congrArg (λ l=>aW (bL l)) (List.append_nil cs).symm).trans ((jX h h0 []).trans rfl)
 ·exact (congrArg aW (iR cs [34,92,92,40])).trans ((jX h h0 _).trans (by kernel_rfl))
 ·exact (congrArg aW (iR cs [41,40])).trans ((jX h h0 _).trans (by kernel_rfl))
 ·exact (congrArg aW (iR [41,40] cs)).trans ((mD _).trans rfl)
noncomputable abbrev QA:Type:=(List Nat×Nat)×Bool×Bool
noncomputable def O3:List (List Nat×Nat):=[([],0),([],1),([],2),([],3),([1],1),([1],2),([1],3),([2],2),([2],3),([3],3),([1,2],2),([1,2],3),([1,3],3),([2,3],3),([1,2,3],3)]
noncomputable def BO:List QA:=(([],0),false,false)::O3.flatMap λ s=>[(s,true,true),(s,true,false)]
noncomputable def TN(a:QA):Bool:=(Nat.ble 3 a.1.2||(BN.contains a&&BO.contains ((a.1.1++[a.1.2+1],a.1.2+1),true,true)))&&(a.1.1.isEmpty||(a.2.1&&(BM.contains (a.1.1,a.2.2)&&BO.contains ((a.1.1.dropLast,a.1.2),true,true))))&&((uv.contains (a.1.1,true,a.2.1)&&BO.contains (a.1,true,false))&&(!a.2.1||uv.contains (a.1.1,false,a.2.1)))
theorem E8:BO.all TN=true:=by kernel_rfl
theorem yE(c:Nat)(z:List Nat)(hz:z.length<=5)(l:List Nat):(jE c z l).length<=5 * l.length:=by
 induction l with
 | nil=>exact Nat.le_refl 0
 | cons k l ih=>
  show ((if k=c then z else [k])++jE c z l).length<=_
  rw [List.length_append,List.length_cons,Nat.mul_succ,Nat.add_comm]
  refine Nat.add_le_add ih ?_
  by_cases h:k=c
  ·rw [if_pos h];exact hz
  ·rw [if_neg h];exact (by decide:1<=5)
theorem Dm{c:Nat}{z x:Str}(hz:z.length<=5):(rep c z x).length<=5 * x.length:=by
 rw [len_list,gY];exact yE c _ hz _
noncomputable def SM(p:Nat×Str):Bool:=Nat.ble p.2.length 5&&((⟨#[p.1]⟩==p.2)==false)
theorem w0(l:List (Nat×Str))(hz:l.all SM=true):∀ (n:Nat) (x:Str),x.length<=n->n * 5 ^ l.length<=1048576->eR l x=true:=by
 induction l with
 | nil=>exact λ _ _ _ _=>rfl
 | cons p l ih=>
  intro n x h hn
  obtain ⟨h1,h2⟩:=Um.mp hz
  obtain ⟨h3,h4⟩:=Um.mp h1
  have h3:=Un h3
  have e:n * 5 ^ (p::l).length=5 * n * 5 ^ l.length:=by rw [List.length_cons,Nat.pow_succ,Nat.mul_comm (5 ^ _) 5,← Nat.mul_assoc,Nat.mul_comm n 5]
  have hle:n<=1048576:=Ul (Nat.le_mul_of_pos_right n (Nat.pow_pos (by decide))) hn
  exact Um.mpr ⟨Um.mpr ⟨decide_eq_true (Ul h hle),Um.mpr ⟨decide_eq_true (Ul h3 (by decide)),h4⟩⟩,ih h2 (5 * n) _ (Ul (Dm h3) (Nat.mul_le_mul_left 5 h)) (e▸hn)⟩
noncomputable def eL(l:List Nat):List Nat:=jE 13 ("&#xD;" : Str).cps.toList (jE 62 ("&gt;" : Str).cps.toList (jE 60 ("&lt;" : Str).cps.toList (jE 38 ("&amp;" : Str).cps.toList l)))
theorem IX(a b:List Nat):eL (a++b)=eL a++eL b:=by unfold eL;rw [e7,e7,e7,e7]
theorem zC(x:Str):(kK yy x).cps.toList=eL x.cps.toList:=by
 show (rep 13 "&#xD;" (rep 62 "&gt;" (rep 60 "&lt;" (rep 38 "&amp;" x)))).cps.toList=_
 rw [gY,gY,gY,gY];rfl
noncomputable def txt(S:TW):List Nat:=ba S.out++eL (ba S.da)
theorem t7(S:TW):ba (fl S)=txt S:=by
 unfold fl txt
 cases h:S.da with
 | nil=>exact (List.append_nil _).symm
 | cons a l=>
  rw [show (a::l).isEmpty=false from rfl,if_neg Bool.false_ne_true,bY,zC,show (jn S).cps.toList=ba S.da from cQ _,h]
theorem CG(S:TW){c:Nat}(h:tV c=true):txt (ic S c)=txt S++tok c:=by
 have h3:∀ x y z:Str,ba (((fl S++[x])++[y])++[z])++eL []=txt S++(x.cps.toList++(y.cps.toList++z.cps.toList)):=λ x y z=>by
  rw [bY,bY,bY,t7,List.append_assoc,List.append_assoc,List.append_assoc]
  exact congrArg (λ l=>txt S++(x.cps.toList++(y.cps.toList++l))) (List.append_nil _)
 have hp:∀ p,ba S.out++eL (ba (S.da++[pS p]))=txt S++eL (pS p).cps.toList:=λ p=>by rw [bY,IX,← List.append_assoc];rfl
 refine cJ (P:=λ c=>txt (ic S c)=txt S++tok c) h ((h3 _ _ _).trans (congrArg (txt S++·) (show _=tok 98 by kernel_rfl))) ?_ ((hp true).trans (congrArg (txt S++·) (show _=tok 40 by kernel_rfl))) ((hp false).trans (congrArg (txt S++·) (show _=tok 41 by kernel_rfl)))
 show ba (fl S++[("</b>" : Str)])++eL []=_
 rw [bY,t7,List.append_assoc]
 exact congrArg (txt S++·) (show _=tok 47 by kernel_rfl)
structure IW(q:Q4)(S:TW):Prop where
 a:((S.stk,S.bg),S.has,S.da.isEmpty)∈BO
 bg:S.bg=q.b
 st:S.stk.length+q.e=q.b
 n:S.n=gj q
 ar:S.ar.length=gj q
 gn:S.gn=4+gj q+q.b
 out:S.out.length<=3+4 * gj q
 da:S.da.length<=1+gj q
 ds:∀ x∈S.da,0<x.length∧x.length<=5
 has:0<q.o->S.has=true
theorem uI(l:List Str):(l.map (·.length)).sum=(ba l).length:=by
 unfold ba
 rw [List.length_flatten,List.map_map];rfl
theorem EH(l:List Str)(h:∀ x∈l,0<x.length∧x.length<=5):l.length<=(ba l).length∧(ba l).length<=5 * l.length:=by
 induction l with
 | nil=>exact ⟨Nat.le_refl 0,Nat.le_refl 0⟩
 | cons x l ih=>
  obtain ⟨h1,h2⟩:=List.forall_mem_cons.mp h
  obtain ⟨h3,h4⟩:=ih h2
  have e:(ba (x::l)).length=x.length+(ba l).length:=List.length_append
  rw [e,List.length_cons]
  exact ⟨Nat.add_comm _ 1▸Nat.add_le_add h1.1 h3,Nat.mul_succ 5 _▸Nat.add_comm _ _▸Nat.add_le_add h4 h1.2⟩
theorem Mv{S:TW}(hd:S.da.length<=100)(ds:∀ x∈S.da,0<x.length∧x.length<=5)(h:S.da.isEmpty=false):NO S:=by
 obtain ⟨h1,h2⟩:=EH S.da ds
 have hl:(jn S).length=(ba S.da).length:=congrArg List.length (cQ S.da)
 have h3:(ba S.da).length<=500:=Ul h2 (Nat.mul_le_mul_left 5 hd)
 refine ⟨joinOk_of_weight (by rw [uI];exact Ul (Nat.add_le_add h3 hd) (by decide)) (by decide),hl▸Ul h3 (by decide),bne_iff_ne.mpr λ e=>?_,w0 yy (by decide) 500 _ (hl▸h3) (by decide)⟩
 rw [hl] at e
 have e':S.da=[]:=List.eq_nil_of_length_eq_zero (Nat.le_zero.mp (e▸h1))
 rw [e'] at h
 exact ft h.symm
theorem IW.okB{q:Q4}{S:TW}(I:IW q S)(h:gj q<=12)(hb:q.b<=3):Fk S:=
 have hd:S.da.length<=100:=Ul I.da (Ul (Nat.add_le_add_left h 1) (by decide))
 ⟨Ul I.out (Ul (Nat.add_le_add_left (Nat.mul_le_mul_left 4 h) 3) (by decide)),I.ar▸Ul h (by decide),Ul hd (by decide),I.n▸Ul h (by decide),I.gn▸Ul (Nat.add_le_add (Nat.add_le_add_left h 4) hb) (by decide),Mv hd I.ds⟩
theorem HJ(p:Bool):0<(pS p).length∧(pS p).length<=5:=by cases p<;>decide
theorem eV{α:Type}[BEq α][LawfulBEq α]{l:List α}{a:α}(h:l.contains a=true):a∈l:=List.contains_iff_mem.mp h
theorem i3{a b:Bool}(h:(a||b)=true)(ha:a=false):b=true:=by rw [ha] at h;exact h
theorem IW.step{q:Q4}{S:TW}(I:IW q S){c:Nat}(hc:tV c=true)(hv:sK (iJ q c)=true)(hs:gj (iJ q c)=gj q+1)(h:gj q<=11)(hb:q.b<=3):Nv S c∧IW (iJ q c) (ic S c):=by
 have ok:=I.okB (Nat.le_succ_of_le h) hb
 obtain ⟨hA,h4⟩:=Um.mp (List.all_eq_true.mp E8 _ I.a)
 obtain ⟨h1,h2⟩:=Um.mp hA
 obtain ⟨h4,h5⟩:=Um.mp h4
 obtain ⟨h6,h7⟩:=Um.mp h4
 have fll:(fl S).length<=4+4 * gj q:=by
  unfold fl
  by_cases e:S.da.isEmpty=true
  ·rw [if_pos e];exact Ul I.out (Nat.add_le_add_right (by decide) _)
  ·rw [if_neg e,List.length_append];exact Ul (Nat.add_le_add_right I.out 1) (Up (by rw [Nat.add_right_comm]))
 have ar:(S.ar++[(GW S:Int)]).length=gj q+1:=List.length_append.trans (congrArg (·+1) I.ar)
 have vl:∀ {q:Q4},sK q=true->q.b<=3∧q.e<=q.b∧q.s<=q.o:=λ h=>by
  obtain ⟨a,b⟩:=Um.mp h
  exact ⟨of_decide_eq_true (Um.mp a).1,of_decide_eq_true (Um.mp a).2,of_decide_eq_true (Um.mp b).2⟩
 have hv:=vl hv
 have pr:∀ p c,(S.stk,p,S.has)∈uv->c=(if p=true then 40 else 41)->gj (iJ q c)=gj q+1->(iJ q c).b=q.b->(iJ q c).e=q.e->Nv S c∧IW (iJ q c) ⟨S.stk,S.bg,S.da++[pS p],S.out,S.ar++[(GW S:Int)],S.n+1,S.gn+1,true⟩:=λ p c hm ec hs eb ee=>
  ⟨⟨ok,.inr (.inr ⟨p,ec,hm⟩)⟩,(show (S.da++[pS p]).isEmpty=false by cases S.da<;>rfl)▸eV h7,I.bg.trans eb.symm,eb▸ee▸I.st,hs▸congrArg (·+1) I.n,hs▸ar,by rw [hs,eb];show S.gn+1=_;rw [I.gn];omega,hs▸Ul I.out (by omega),hs▸(by rw [List.length_append];exact Nat.add_le_add_right I.da 1),λ x hx=>(List.mem_append.mp hx).elim (I.ds x) λ hx=>List.mem_singleton.mp hx▸HJ p,λ _=>rfl⟩
 refine cJ (P:=λ c=>gj (iJ q c)=gj q+1->(iJ q c).b<=3∧(iJ q c).e<=(iJ q c).b∧(iJ q c).s<=(iJ q c).o->Nv S c∧IW (iJ q c) (ic S c)) hc (λ hs hv=>?_) (λ hs hv=>?_) (λ hs hv=>?_) (λ hs hv=>?_) hs hv
 ·obtain ⟨m1,m2⟩:=Um.mp (i3 h1 (Bool.eq_false_iff.mpr λ e=>absurd (Un e) (Nat.not_le.mpr (I.bg▸hv.1))))
  exact ⟨⟨ok,.inl ⟨rfl,eV m1⟩⟩,eV m2,congrArg (·+1) I.bg,by show (S.stk++[S.bg+1]).length+q.e=q.b+1;rw [List.length_append,← I.st,Nat.add_right_comm];rfl,hs▸congrArg (·+1) I.n,hs▸ar,by rw [hs];show S.gn+2=4+(gj q+1)+(q.b+1);rw [I.gn];omega,
   hs▸(by show (((fl S++[_])++[_])++[_]).length<=_;rw [List.length_append,List.length_append,List.length_append];exact Ul (Nat.add_le_add_right fll 3) (by omega)),Nat.zero_le _,λ x hx=>nm hx,λ _=>rfl⟩
 ·have hne:S.stk.isEmpty=false:=by
   cases e:S.stk with
   | nil=>have st:=I.st;rw [e,List.length_nil,Nat.zero_add] at st;exact absurd hv.2.1 (Nat.not_le.mpr (st▸Nat.lt_succ_self q.e))
   | cons=>rfl
  obtain ⟨m0,m1⟩:=Um.mp (i3 h2 hne)
  obtain ⟨m1,m2⟩:=Um.mp m1
  have hl:0<S.stk.length:=List.length_pos_iff.mpr λ e=>by rw [e] at hne;exact ft hne.symm
  exact ⟨⟨ok,.inr (.inl ⟨rfl,m0,eV m1⟩)⟩,eV m2,I.bg,by show S.stk.dropLast.length+(q.e+1)=q.b;rw [List.length_dropLast,← I.st];omega,hs▸congrArg (·+1) I.n,hs▸ar,by rw [hs];show S.gn+1=4+(gj q+1)+q.b;rw [I.gn];omega,
   hs▸(by show (fl S++[_]).length<=_;rw [List.length_append];exact Ul (Nat.add_le_add_right fll 1) (by omega)),Nat.zero_le _,λ x hx=>nm hx,λ _=>rfl⟩
 ·exact pr true 40 (eV h6) rfl hs rfl rfl
 ·exact pr false 41 (eV (i3 h5 (show (!S.has)=false by rw [I.has (Nat.lt_of_lt_of_le (Nat.succ_pos q.s) hv.2.2)];rfl))) rfl hs rfl rfl
inductive sN:Q4->List Nat->Prop
 | nil (q:Q4) (h:sK q=true) (hs:gj q=12):sN q []
 | cons (q:Q4) (c:Nat) (r:List Nat) (h:sK q=true) (hs:gj q<=11) (hm:c∈fM q) (hf:tV c=true) (hn:gj (iJ q c)=gj q+1) (k:sN (iJ q c) r):sN q (c::r)
theorem sN.vl{q:Q4}{l:List Nat}(k:sN q l):sK q=true:=by cases k<;>assumption
theorem Hw(script:List Int)(n:Nat):∀ (t:Nat) (q:Q4),sK q=true->gj q+n=12->sN q (jF script n t q):=by
 induction n with
 | zero=>exact λ t q h hs=> .nil q h hs
 | succ n ih=>
  intro t q h hs
  have h11:gj q<=11:=Nat.le_of_succ_le_succ (Ul (Nat.add_le_add_left (Nat.le_add_left 1 n) _) (Up hs))
  obtain ⟨hp,_,hq⟩:=v9 h (Nat.lt_succ_of_le h11)
  have hi:=(tX (f5 script t) hp).1
  have hm:b9 script t q∈fM q:=by
   unfold b9
   rw [List.getD_eq_getElem?_getD,List.getElem?_eq_getElem hi]
   exact List.getElem_mem hi
  obtain ⟨hf,hv,hn⟩:=hq _ hm
  exact .cons q _ _ h h11 hm (by rcases hf with e | e | e | e<;>rw [e]<;>rfl) hn (ih (t+1) _ hv (by rw [hn,Nat.add_right_comm];exact hs))
noncomputable def Qt(q:Q4):Bool:=!(sK q&&gj q==12)||((q.b==3&&q.e==3)&&(q.o==3&&q.s==3))
theorem Eu:∀ b<4,∀ e<4,∀ o<4,∀ s<4,Qt ⟨b,e,o,s⟩=true:=by decide +kernel
theorem Gj{q:Q4}(h:sK q=true)(hs:gj q=12):(q.b=3∧q.e=3)∧q.o=3∧q.s=3:=by
 obtain ⟨a,b⟩:=Um.mp h
 have h1:=of_decide_eq_true (Um.mp a).1
 have h3:=of_decide_eq_true (Um.mp b).1
 have k:=Eu q.b (Nat.lt_succ_of_le h1) q.e (Nat.lt_succ_of_le (Ul (of_decide_eq_true (Um.mp a).2) h1)) q.o (Nat.lt_succ_of_le h3) q.s (Nat.lt_succ_of_le (Ul (of_decide_eq_true (Um.mp b).2) h3))
 have k:=i3 k (show (!(sK q&&gj q==12))=false by rw [h,hs];rfl)
 obtain ⟨k1,k2⟩:=Um.mp k
 exact ⟨⟨eq_of_beq (Um.mp k1).1,eq_of_beq (Um.mp k1).2⟩,eq_of_beq (Um.mp k2).1,eq_of_beq (Um.mp k2).2⟩
theorem qr(l:List Nat):(toks l).length<=9 * l.length:=by
 induction l with
 | nil=>exact Nat.le_refl 0
 | cons c l ih=>exact Ul (Up List.length_append) (Ul (Nat.add_le_add (qt ..) ih) (Up ((Nat.add_comm ..).trans (Nat.mul_succ 9 _).symm)))
inductive TR(l:List Nat)(S Sf:TW):Prop
 | mk (q:Q4) (run:BS Sf l S) (I:IW q Sf) (h:sK q=true) (hs:gj q=12) (tx:txt Sf=txt S++toks l) (hl:Sf.n=S.n+l.length)
theorem sN.told{q:Q4}{l:List Nat}(k:sN q l):∀ S,IW q S->TR l S (l.foldl ic S):=by
 induction k with
 | nil q h hs=>exact λ S I=>⟨q,rfl,I,h,hs,(List.append_nil _).symm,rfl⟩
 | cons q c r h hs hm hf hn k ih=>
  intro S I
  obtain ⟨ok,I'⟩:=I.step hf k.vl hn hs (of_decide_eq_true (Um.mp (Um.mp h).1).1)
  obtain ⟨qf,run,If,h',hs',tx,hl⟩:=ih _ I'
  refine ⟨qf,⟨ok,run⟩,If,h',hs',tx.trans ?_,hl.trans ?_⟩
  ·rw [CG S hf,List.append_assoc];rfl
  ·rw [I'.n,I.n,hn,List.length_cons,Nat.add_assoc,Nat.add_comm 1]
theorem sN.four{q:Q4}{l:List Nat}(k:sN q l):l.all tV=true∧l.length+gj q=12:=by
 induction k with
 | nil q h hs=>exact ⟨rfl,(Nat.zero_add _).trans hs⟩
 | cons q c r h hs hm hf hn k ih=>exact ⟨Um.mpr ⟨hf,ih.1⟩,by rw [List.length_cons,Nat.add_right_comm,Nat.add_assoc,← hn];exact ih.2⟩
theorem sN.depth{q:Q4}{l:List Nat}(k:sN q l):dN l (q.o-q.s)=some 0:=by
 induction k with
 | nil q h hs=>obtain ⟨_,e1,e2⟩:=Gj h hs;show some (q.o-q.s)=_;rw [e1,e2]
 | cons q c r h hs hm hf hn k ih=>
  have hv:=of_decide_eq_true (Um.mp (Um.mp k.vl).2).2
  have hv0:=of_decide_eq_true (Um.mp (Um.mp h).2).2
  revert ih hv
  refine cJ (P:=λ c=>(dN r ((iJ q c).o-(iJ q c).s)=some 0)->(iJ q c).s<=(iJ q c).o->dN (c::r) (q.o-q.s)=some 0) hf (λ ih _=>ih) (λ ih _=>ih) (λ ih _=>?_) λ ih hv=>?_
  ·show dN r (q.o-q.s+1)=_
   rw [show q.o-q.s+1=q.o+1-q.s from (Nat.succ_sub hv0).symm];exact ih
  ·have hv:q.s+1<=q.o:=hv
   show ((if q.o-q.s=0 then none else some (q.o-q.s-1)).bind (dN r))=_
   rw [if_neg (Nat.sub_ne_zero_of_lt hv)];exact ih
theorem T1:IW q0 sy:=⟨.head _,rfl,rfl,rfl,rfl,rfl,by decide,by decide,by decide,λ h=>absurd h (Nat.lt_irrefl _)⟩
theorem CC{l:List Nat}(k:sN q0 l):sC l (l.foldl ic sy)∧(l.foldl ic sy).ar.length=12:=by
 obtain ⟨qf,run,I,h,hs,tx,hl⟩:=k.told sy T1
 obtain ⟨⟨e1,e2⟩,e3,e4⟩:=Gj h hs
 obtain ⟨f1,f2⟩:=k.four
 obtain ⟨c0,c1,c2,c3⟩:=tZ (cs:=l) f2 f1 k.depth
 have st:(l.foldl ic sy).stk=[]:=List.eq_nil_of_length_eq_zero (by have:=I.st;rw [e1,e2] at this;exact Nat.add_right_cancel (this.trans (Nat.zero_add 3).symm))
 have pg:ba (fl (l.foldl ic sy)++[("</r>" : Str)])=cw++toks l++fS:=by
  rw [bY,t7,tx,show txt sy=cw by kernel_rfl];rfl
 have lt:∀ c∈l,c<128:=λ c hm=>cJ (P:=(·<128)) (List.all_eq_true.mp f1 c hm) (by decide) (by decide) (by decide) (by decide)
 refine ⟨⟨f2,dX.mpr lt,run,I.okB (Up hs) (Up e1),?_,st,I.has (e3▸by decide),kU ((cQ _).trans pg),I.n.trans hs,I.gn.trans (by rw [hs,e1]),c0,c1,c2,c3⟩,I.ar.trans hs⟩
 refine joinOk_of_weight ?_ (by decide)
 rw [uI,pg,List.length_append,List.length_append,List.length_append]
 exact Ul (Nat.add_le_add (Nat.add_le_add_right (Nat.add_le_add_left (Ul (qr l) (Up (congrArg (9 * ·) f2))) _) _) (Nat.add_le_add_right (pH (I.okB (Up hs) (Up e1))) 1)) (by decide)
theorem OE{a b:Nat}(h:a≠b):Nat.beq a b=false:=Bool.eq_false_iff.mpr λ e=>h (Nat.eq_of_beq_eq_true e)
theorem dO{α:Type}(a b:Nat)(x y:α):@Bool.rec (λ _=>α) y x (Nat.beq a b)=if a=b then x else y:=by
 by_cases h:a=b
 ·rw [if_pos h,h,Nat.beq_refl]
 ·rw [if_neg h,OE h]
noncomputable def mt(l:List Nat):Nat->Nat->Nat:=@List.rec Nat (λ _=>Nat->Nat->Nat) (λ _ _=>12) (λ c _ ih o p=>@Bool.rec (λ _=>Nat) (@Bool.rec (λ _=>Nat) (ih o (Nat.succ p)) (ih (Nat.succ o) (Nat.succ p)) (Nat.beq c 40)) (@Bool.rec (λ _=>Nat) (ih (Nat.pred o) (Nat.succ p)) p (Nat.beq o 1)) (Nat.beq c 41)) l
theorem DG(c o p:Nat)(r:List Nat):mt (c::r) o p=if c=41 then (if o=1 then p else mt r (o-1) (p+1)) else if c=40 then mt r (o+1) (p+1) else mt r o (p+1):=by
 rw [← dO,← dO,← dO];rfl
noncomputable def JP:List Nat->Nat->List (Nat×Nat)
 | [],_=>[]
 | c::r,p=>if c=40 then (p,mt r 1 (p+1))::JP r (p+1) else JP r (p+1)
theorem iP(a b:List Nat):toks (a++b)=toks a++toks b:=by unfold toks;rw [List.map_append,List.flatten_append]
theorem lW(cs:List Nat):∀ (n i:Nat),i<cs.length->(eK cs n).getD i 0=((n+(toks (cs.take i)).length:Nat):Int):=by
 induction cs with
 | nil=>exact λ n i h=>absurd h (Nat.not_lt_zero i)
 | cons c cs ih=>
  intro n i h
  cases i with
  | zero=>rfl
  | succ i=>
   refine (ih (n+(tok c).length) i (Nat.lt_of_succ_lt_succ h)).trans ?_
   rw [List.take_succ_cons,show toks (c::cs.take i)=tok c++toks (cs.take i) from rfl,List.length_append,Nat.add_assoc]
theorem I7(a:List Nat):∀ (b:List Nat) (o:Nat),dN (a++b) o=(dN a o).bind (dN b):=by
 induction a with
 | nil=>exact λ b o=>rfl
 | cons c a ih=>
  intro b o
  show (fU c o).bind (dN (a++b))=((fU c o).bind (dN a)).bind (dN b)
  cases fU c o with
  | none=>rfl
  | some o'=>exact ih b o'
theorem Dc{a b c:List Nat}:e9 (a++b++c) a.length (a.length+b.length)=b:=by
 unfold e9
 rw [List.append_assoc,List.drop_left,Nat.add_sub_cancel_left,List.take_left]
theorem G6(l:List Nat){f p:Nat}(h:f<=p):l=l.take f++e9 l f p++l.drop p:=by
 rw [List.append_assoc,uT l h,List.take_append_drop]
theorem zq(l:List Nat){f p:Nat}(h:f<=p):l.take p=l.take f++e9 l f p:=by
 have:=List.take_add (l:=l) (i:=f) (j:=p-f)
 rw [Nat.add_sub_cancel' h] at this
 exact this
theorem TZ(a b c:List Nat):a.length+b.length<=(a++b++c).length:=by rw [List.length_append (as:=a++b),List.length_append];exact Nat.le_add_right _ _
theorem tH{cs:List Nat}{f p:Nat}(hf:f<=p)(hp:p<cs.length)(hc:cs[p]?=some 41):(eU (bG cs) (kc cs) f p).cps.toList=toks (e9 cs f (p+1)):=by
 have e1:cs.take (p+1)=cs.take p++[41]:=by rw [List.take_add_one,hc];rfl
 have hX:(bG cs).cps.toList=(cw++toks (cs.take f))++toks (e9 cs f (p+1))++(toks (cs.drop (p+1))++fS):=by
  show cw++toks cs++fS=_
  rw [show toks cs=toks (cs.take f)++toks (e9 cs f (p+1))++toks (cs.drop (p+1)) from (congrArg toks (G6 cs (Nat.le_succ_of_le hf))).trans (by rw [iP,iP])]
  simp only [List.append_assoc]
 have hb:(kc cs).getD p 0+1=(((cw++toks (cs.take f)).length+(toks (e9 cs f (p+1))).length:Nat):Int):=by
  rw [show (kc cs).getD p 0=_ from lW cs cw.length p hp]
  refine congrArg (λ n:Nat=>(n:Int)) (a₁:=cw.length+(toks (cs.take p)).length+1) ?_
  have e:(toks (cs.take p)).length+1=(toks (cs.take f)).length+(toks (e9 cs f (p+1))).length:=by
   have:=congrArg (λ l=>(toks l).length) (e1.symm.trans (zq cs (Nat.le_succ_of_le hf)))
   rw [iP,iP,List.length_append,List.length_append] at this
   exact this
  rw [Nat.add_assoc,e,List.length_append,Nat.add_assoc]
 have ha:(kc cs).getD f 0=((cw++toks (cs.take f)).length:Nat):=(lW cs cw.length f (Nat.lt_of_le_of_lt hf hp)).trans (congrArg (λ n:Nat=>(n:Int)) List.length_append.symm)
 unfold eU
 rw [ha,hb,nv (Nat.le_add_right _ _) (by rw [len_list,hX];exact TZ _ _ _),hX,Dc]
theorem rf{cs:List Nat}(h4:cs.all tV=true){f p:Nat}(hf:f<=p)(hp:p<cs.length)(hc:cs[p]?=some 41):aW (eU (bG cs) (kc cs) f p)=(dN (e9 cs f (p+1)) 0==some 0):=by
 rw [show eU (bG cs) (kc cs) f p=bL (toks (e9 cs f (p+1))) from kU (tH hf hp hc)]
 exact uj (List.all_eq_true.mpr λ c hm=>List.all_eq_true.mp h4 c (List.mem_of_mem_drop (List.mem_of_mem_take hm)))
theorem DH{cs:List Nat}(h4:cs.all tV=true){f:Nat}(r:List Nat):∀ (p o:Nat),f<=p->cs.drop p=r->p+r.length=cs.length->cs.length=12->0<o->dN (e9 cs f p) 0=some o->i8 cs (bG cs) (kc cs) f (List.range' p r.length)=mt r o p:=by
 induction r with
 | nil=>exact λ p o _ _ _ _ _ _=>rfl
 | cons c r ih=>
  intro p o hf hd hl h12 ho hn
  have hd':=cK hd
  have hl':p+1+r.length=cs.length:=by rw [← hl,List.length_cons,Nat.add_assoc,Nat.add_comm 1]
  have hp:p<cs.length:=Nat.lt_of_lt_of_le (Nat.lt_add_of_pos_right (Nat.succ_pos r.length)) (Up hl)
  have hc:cs[p]?=some c:=by rw [← Nat.add_zero p,← List.getElem?_drop,hd];rfl
  have hg:cs.getD p 0=c:=by rw [List.getD_eq_getElem?_getD,hc];rfl
  have hs:dN (e9 cs f (p+1)) 0=fU c o:=by
   rw [gy hf hd,I7,hn]
   show (fU c o).bind (dN [])=_
   cases fU c o<;>rfl
  have next:∀ o',0<o'->fU c o=some o'->i8 cs (bG cs) (kc cs) f (List.range' (p+1) r.length)=mt r o' (p+1):=λ o' h e=>ih (p+1) o' (Nat.le_succ_of_le hf) hd' hl' h12 h (hs.trans e)
  show (if ((c1 (cs.getD p 0)==(")" : Str))&&aW (eU (bG cs) (kc cs) f p))=true then p else i8 cs (bG cs) (kc cs) f (List.range' (p+1) r.length))=mt (c::r) o p
  rw [DG,hg,show (c1 c==(")" : Str))=(c==41) from c8 c 41]
  by_cases h:c=41
  ·subst h
   rw [rf h4 hf hp hc,hs,if_pos rfl,show fU 41 o=some (o-1) from (if_neg (Nat.ne_of_gt ho))]
   by_cases h1:o=1
   ·subst h1;rfl
   ·rw [if_neg h1,if_neg (show ¬ ((41==41)&&(some (o-1)==some 0))=true from λ e=>h1 (by
     have e:o-1=0:=Option.some.inj (eq_of_beq e)
     exact Nat.le_antisymm (Nat.sub_eq_zero_iff_le.mp e) ho))]
    exact next (o-1) (Nat.sub_pos_of_lt (Nat.lt_of_le_of_ne ho λ e=>h1 e.symm)) (if_neg (Nat.ne_of_gt ho))
  ·rw [if_neg h,show (c==41)=false from beq_eq_false_iff_ne.mpr h,Bool.false_and,if_neg Bool.false_ne_true]
   by_cases h0:c=40
   ·rw [if_pos h0];exact next (o+1) (Nat.succ_pos o) (by rw [h0];rfl)
   ·rw [if_neg h0];exact next o ho ((if_neg h0).trans (if_neg h))
noncomputable def nA(a:Nat)(l:List Nat):Nat->List Nat:=@List.rec Nat (λ _=>Nat->List Nat) (λ _=>[]) (λ c _ ih p=>@Bool.rec (λ _=>List Nat) (ih (Nat.succ p)) (p::ih (Nat.succ p)) (Nat.beq c a)) l
theorem lV(a c p:Nat)(r:List Nat):nA a (c::r) p=if c=a then p::nA a r (p+1) else nA a r (p+1):=dO c a _ _
section
variable{cs:List Nat}
theorem at_of{p c:Nat}{r:List Nat}(hd:cs.drop p=c::r):cs.getD p 0=c:=by rw [List.getD_eq_getElem?_getD,← Nat.add_zero p,← List.getElem?_drop,hd];rfl
theorem Lo(h4:cs.all tV=true)(h12:cs.length=12)(r:List Nat):∀ p,cs.drop p=r->p+r.length=cs.length->(List.range' p r.length).filterMap (ff cs)=JP r p:=by
 induction r with
 | nil=>exact λ _ _ _=>rfl
 | cons c r ih=>
  intro p hd hl
  have hl':p+1+r.length=cs.length:=by rw [← hl,List.length_cons,Nat.add_assoc,Nat.add_comm 1]
  have ih:=ih (p+1) (cK hd) hl'
  have e:ff cs p=if (c==40)=true then some (p,gG cs (bG cs) (kc cs) p) else none:=by unfold ff;rw [at_of hd,show (c1 c==("(" : Str))=(c==40) from c8 c 40]
  show (p::List.range' (p+1) r.length).filterMap (ff cs)=(if c=40 then (p,mt r 1 (p+1))::JP r (p+1) else JP r (p+1))
  by_cases h:c=40
  ·rw [if_pos (beq_iff_eq.mpr h)] at e
   have hn:11-p=r.length:=by rw [show 11=p+r.length from Nat.succ.inj ((h12.symm.trans hl'.symm).trans (Nat.add_right_comm p 1 r.length)),Nat.add_sub_cancel_left]
   rw [List.filterMap_cons_some e,ih,if_pos h,show gG cs (bG cs) (kc cs) p=mt r 1 (p+1) from (congrArg (λ n=>i8 cs (bG cs) (kc cs) p (List.range' (p+1) n)) hn).trans (DH h4 r (p+1) 1 (Nat.le_succ p) (cK hd) hl' h12 (by decide) (by rw [gy (Nat.le_refl p) hd,gz,h];rfl))]
  ·rw [if_neg λ e=>h (beq_iff_eq.mp e)] at e
   rw [List.filterMap_cons_none e,ih,if_neg h]
theorem KA(r:List Nat):∀ p,cs.drop p=r->(List.range' p r.length).filterMap (fe cs)=nA 41 r p:=by
 induction r with
 | nil=>exact λ _ _=>rfl
 | cons c r ih=>
  intro p hd
  have ih:=ih (p+1) (cK hd)
  have e:fe cs p=if (c==41)=true then some p else none:=by unfold fe;rw [at_of hd,show (c1 c==(")" : Str))=(c==41) from c8 c 41]
  rw [lV]
  show (p::List.range' (p+1) r.length).filterMap (fe cs)=_
  by_cases h:c=41
  ·rw [if_pos (beq_iff_eq.mpr h)] at e
   rw [List.filterMap_cons_some e,ih,if_pos h]
  ·rw [if_neg λ e=>h (beq_iff_eq.mp e)] at e
   rw [List.filterMap_cons_none e,ih,if_neg h]
end
section
variable{α:Type}{a b:Bool}{l:List Nat}
noncomputable def im(g x:Bool):Bool:=@Bool.rec (λ _=>Bool) true x g
theorem aM{P:Prop}(h:an a b=true)(k:a=true->b=true->P):P:=by cases a with
 | false=>exact ft h
 | true=>exact k rfl h
theorem lA{P:Prop}{l:List α}(h:u0 l b=true)(k:l=[]->b=true->P):P:=by cases l with
 | nil=>exact k rfl h
 | cons=>exact ft h
theorem iO{P:Prop}{l:List α}{f:α->List α->Bool}(h:u1 l f=true)(k:∀ a r,l=a::r->f a r=true->P):P:=by cases l with
 | nil=>exact ft h
 | cons a r=>exact k a r rfl h
noncomputable def cn(n:Nat)(k:Nat->Bool):Bool:=@Nat.rec (λ _=>Bool) (k 0) (λ m _=>k (Nat.succ m)) n
theorem MM(n:Nat)(k:Nat->Bool):cn n k=k n:=by cases n<;>rfl
noncomputable def Oj(l:List Nat):Nat->(List (Nat×Nat)->Bool)->Bool:=@List.rec Nat (λ _=>Nat->(List (Nat×Nat)->Bool)->Bool) (λ _ k=>k []) (λ c r ih p k=>@Bool.rec (λ _=>Bool) (ih (Nat.succ p) k) (ih (Nat.succ p) λ m=>cn (mt r 1 (Nat.succ p)) λ q=>k ((p,q)::m)) (Nat.beq c 40)) l
theorem HX(l:List Nat):∀ p k,Oj l p k=k (JP l p):=by
 induction l with
 | nil=>exact λ _ _=>rfl
 | cons c r ih=>
  intro p k
  refine (dO c 40 (Oj r (p+1) λ m=>cn (mt r 1 (p+1)) λ q=>k ((p,q)::m)) (Oj r (p+1) k)).trans ?_
  rw [ih,ih,MM]
  exact (apply_ite k (c=40) _ _).symm
noncomputable def dQ(l:List Nat):Nat->Nat:=@List.rec Nat (λ _=>Nat->Nat) (λ _=>0) (λ a _ ih i=>@Nat.rec (λ _=>Nat) a (λ j _=>ih j) i) l
noncomputable def Sd(l:List Nat):List Nat->Bool:=@List.rec Nat (λ _=>List Nat->Bool) (λ m=>u0 m true) (λ a _ ih m=>u1 m λ b m=>an (Nat.beq a b) (ih m)) l
theorem IT:∀ {m},Sd l m=true->l=m:=by
 induction l with
 | nil=>exact λ h=>lA h λ e _=>e.symm
 | cons a l ih=>exact λ h=>iO h λ b r e h=>aM h λ h1 h2=>(congr (congrArg List.cons (Nat.eq_of_beq_eq_true h1)) (ih h2)).trans e.symm
noncomputable def al(n:Nat)(l:List Nat):Bool:=@List.rec Nat (λ _=>Bool) true (λ a _ ih=>an (Nat.ble (Nat.succ a) n) ih) l
theorem Gv{n:Nat}(h:al n l=true):∀ a∈l,a<n:=by
 induction l with
 | nil=>exact λ a h=>nm h
 | cons a l ih=>exact aM h λ h1 h2=>List.forall_mem_cons.mpr ⟨Un h1,ih h2⟩
end
noncomputable abbrev bO(l:List Nat):List Int:=l.map λ n:Nat=>(n:Int)
theorem bW(l:List Nat):∀ i,(bO l).getD i 0=(dQ l i:Nat):=by
 induction l with
 | nil=>exact λ _=>rfl
 | cons a l ih=>exact λ i=>match i with
  | 0=>rfl
  | i+1=>ih i
theorem vC(a b:Nat):((a:Int)==(b:Int))=Nat.beq a b:=by
 by_cases h:a=b
 ·rw [h,Nat.beq_refl,beq_self_eq_true]
 ·rw [OE h];exact beq_eq_false_iff_ne.mpr λ e=>h (Int.ofNat.inj e)
theorem T7{a b:Nat}(h:¬a<=b):Nat.ble a b=false:=Bool.eq_false_iff.mpr λ e=>h (Un e)
theorem oR{α:Type}(a b:Nat)(x y:α):@Bool.rec (λ _=>α) y x (Nat.ble a b)=if a<=b then x else y:=by
 by_cases h:a<=b
 ·rw [if_pos h,Nat.ble_eq_true_of_le h]
 ·rw [if_neg h,T7 h]
noncomputable def up(r:Bool)(x:Nat):Nat:=if r then x+1 else x
noncomputable def So(l:List Nat)(x f:Nat):Nat->Nat->Nat:=@Nat.rec (λ _=>Nat->Nat->Nat) (λ lo _=>lo) (λ _ ih lo hi=>@Bool.rec (λ _=>Nat) lo (@Bool.rec (λ _=>Nat) (ih (Nat.succ (Nat.div (Nat.add lo hi) 2)) hi) (ih lo (Nat.div (Nat.add lo hi) 2)) (Nat.ble x (dQ l (Nat.div (Nat.add lo hi) 2)))) (Nat.ble (Nat.succ lo) hi)) f
noncomputable def len(l:List Nat):Nat:=@List.rec Nat (λ _=>Nat) 0 (λ _ _ n=>Nat.succ n) l
noncomputable def ES(l:List Nat)(x:Nat):Nat:=So l x (Nat.succ (len l)) 0 (len l)
theorem An(l:List Nat):len l=l.length:=by induction l with
 | nil=>rfl
 | cons a l ih=>exact congrArg Nat.succ ih
theorem Iz(r:Bool)(x v:Nat):(mo r x v=true)=(up r x<=v):=by
 cases r
 ·show ((false==decide ((v:Int)<x))=true)=(x<=v)
  by_cases h:v<x
  ·rw [decide_eq_true (Int.ofNat_lt.mpr h)];exact propext ⟨λ e=>ft e,λ e=>absurd h (Nat.not_lt.mpr e)⟩
  ·rw [decide_eq_false λ e=>h (Int.ofNat_lt.mp e)];exact propext ⟨λ _=>Nat.not_lt.mp h,λ _=>rfl⟩
 ·show ((true==decide ((x:Int)<v))=true)=(x<v)
  rw [Bool.true_beq,decide_eq_true_eq,Int.ofNat_lt]
theorem MZ(r:Bool)(l:List Nat)(x f:Nat):∀ lo hi,dT r (bO l) x f lo hi=So l (up r x) f lo hi:=by
 induction f with
 | zero=>exact λ _ _=>rfl
 | succ f ih=>
  intro lo hi
  rw [fO,bW,ih,ih]
  refine Eq.trans ?_ (oR _ _ _ _).symm
  simp only [Iz]
  exact congrArg (λ t=>if lo<hi then t else lo) (oR _ _ _ _).symm
theorem BA(r:Bool)(l:List Nat)(x:Nat):bI r (bO l) x=ES l (up r x):=by
 unfold bI ES
 rw [MZ,An,List.length_map]
noncomputable def inF(x:Nat)(l:List Nat):Nat->List Nat:=@List.rec Nat (λ _=>Nat->List Nat) (λ _=>[x]) (λ a r ih i=>@Nat.rec (λ _=>List Nat) (x::a::r) (λ j _=>a::ih j) i) l
theorem Iu(x:Nat)(l:List Nat):∀ i,(bO l).take i++(x:Int)::(bO l).drop i=bO (inF x l i):=by
 induction l with
 | nil=>exact λ i=>by cases i<;>rfl
 | cons a l ih=>exact λ i=>match i with
  | 0=>rfl
  | i+1=>congrArg ((a:Int)::·) (ih i)
noncomputable def KM(tg:List Nat)(L:List Nat):List Nat:=@List.rec Nat (λ _=>List Nat) [] (λ f _ ih=>inF (dQ tg f) ih (ES ih (Nat.succ (dQ tg f)))) L
theorem zB(tg L:List Nat):eJ (bO tg) L=bO (KM tg L):=by
 induction L with
 | nil=>rfl
 | cons f L ih=>
  refine Eq.trans ?_ (Iu _ _ _)
  show tW (eJ (bO tg) L) ((bO tg).getD f 0)=_
  rw [ih,bW];unfold tW;rw [BA];rfl
noncomputable def RS(a:Nat)(l:List Nat):List Nat:=@List.rec Nat (λ _=>List Nat) [a] (λ b r ih=>@Bool.rec (λ _=>List Nat) (b::ih) (a::b::r) (Nat.ble a b)) l
noncomputable def Ku(l:List Nat):List Nat:=@List.rec Nat (λ _=>List Nat) [] (λ a _ ih=>RS a ih) l
theorem It(a:Nat)(l:List Nat):pB a (bO l)=bO (RS a l):=by
 induction l with
 | nil=>rfl
 | cons b l ih=>
  refine Eq.trans ?_ (congrArg bO (oR a b _ _)).symm
  show (if (a:Int)<=b then (a:Int)::b::bO l else b::pB a (bO l))=_
  rw [ih]
  by_cases h:a<=b
  ·rw [if_pos h,if_pos (Int.ofNat_le.mpr h)];rfl
  ·rw [if_neg h,if_neg λ e=>h (Int.ofNat_le.mp e)];rfl
theorem CL(l:List Nat):iV (bO l)=bO (Ku l):=by
 induction l with
 | nil=>rfl
 | cons a l ih=>exact (congrArg (pB a) ih).trans (It a _)
noncomputable def K9(p:Nat)(la:List Nat):List Nat->(Nat->Bool)->Bool:=@List.rec Nat (λ _=>List Nat->(Nat->Bool)->Bool) (λ _ _=>false) (λ x _ ih o k=>u1 o λ y o=>@Bool.rec (λ _=>Bool) (ih o k) (k y) (Nat.beq x p)) la
noncomputable def sn(x:Nat)(l:List Nat):List Nat:=@List.rec Nat (λ _=>List Nat) [x] (λ a _ ih=>a::ih) l
noncomputable def JT(la:List Nat)(l:List Nat):Nat->Nat->Nat->List Nat->(List Nat->List Nat->Bool)->Bool:=@List.rec Nat (λ _=>Nat->Nat->Nat->List Nat->(List Nat->List Nat->Bool)->Bool) (λ _ _ _ o k=>k [] o) (λ s _ ih p x n o k=>@Bool.rec (λ _=>Bool) (@Bool.rec (λ _=>Bool) (ih (Nat.succ p) x n o k) (K9 p la o λ y=>ih (Nat.succ p) y n o λ i o=>k (y::i) o) (Nat.beq s 41)) (ih (Nat.succ p) (Nat.succ n) (Nat.succ n) (sn x o) λ i o=>k (Nat.succ n::i) o) (Nat.beq s 40)) l
theorem rc{p x y:Nat}{la o:List Nat}{k:Nat->Bool}:K9 p (x::la) (y::o) k=if x=p then k y else K9 p la o k:=dO x p _ _
theorem Bt(la:List Nat)(c:Nat)(r:List Nat)(p x n:Nat)(o:List Nat)(k:List Nat->List Nat->Bool):JT la (c::r) p x n o k=if c=40 then JT la r (p+1) (n+1) (n+1) (sn x o) (λ i o=>k ((n+1)::i) o) else if c=41 then K9 p la o λ y=>JT la r (p+1) y n o λ i o=>k (y::i) o else JT la r (p+1) x n o k:=by
 rw [← dO,← dO];rfl
theorem Fy(x:Nat)(l:List Nat):sn x l=l++[x]:=by induction l with
 | nil=>rfl
 | cons a l ih=>exact congrArg (a::·) ih
theorem HI{P:Prop}{p:Nat}{f:Nat->Bool}(la:List Nat):∀ o,K9 p la o f=true->((bO la).contains (p:Int)=true->(bO la).idxOf (p:Int)<o.length->f (dQ o ((bO la).idxOf (p:Int)))=true->P)->P:=by
 induction la with
 | nil=>exact λ _ h=>ft h
 | cons x la ih=>
  intro o h k
  refine iO h λ y o' eo h=>?_
  subst eo
  have e2:List.idxOf (p:Int) ((x:Int)::bO la)=_:=List.idxOf_cons.trans (congrArg (λ b=>bif b then 0 else (bO la).idxOf (p:Int)+1) (vC x p))
  by_cases e:x=p
  ·have e0:=e2.trans (congrArg (λ b=>bif b then 0 else (bO la).idxOf (p:Int)+1) ((congrArg (Nat.beq x) e.symm).trans (Nat.beq_refl x)))
   exact k (List.contains_iff_mem.mpr (e▸ .head _)) (Nat.lt_of_le_of_lt (Up e0) (Nat.succ_pos _)) ((congrArg (λ i=>f (dQ (y::o') i)) e0).trans ((rc.trans (if_pos e)).symm.trans h))
  ·have e0:=e2.trans (congrArg (λ b=>bif b then 0 else (bO la).idxOf (p:Int)+1) (OE e))
   exact ih o' ((rc.trans (if_neg e)).symm.trans h) λ h1 h2 h3=>k (List.contains_iff_mem.mpr (.tail _ (List.contains_iff_mem.mp h1))) (Nat.lt_of_le_of_lt (Up e0) (Nat.succ_lt_succ h2)) ((congrArg (λ i=>f (dQ (y::o') i)) e0).trans h3)
section
variable{cs:List Nat}
theorem AM{la I o:List Int}{p c:Nat}{r:List Nat}(hd:cs.drop p=c::r):gL cs la (List.range' p (c::r).length) I o=if c=40 then gL cs la (List.range' (p+1) r.length) (I++[((o.length+1:Nat):Int)]) (o++[I.getLastD 0]) else if c=41 then (if (la.contains (p:Int)&&decide (la.idxOf (p:Int)<o.length))=true then gL cs la (List.range' (p+1) r.length) (I++[o.getD (la.idxOf (p:Int)) 0]) o else none) else gL cs la (List.range' (p+1) r.length) I o:=by
 refine (nO cs la p (List.range' (p+1) r.length) I o).trans ?_
 rw [at_of hd,show (c1 c==("(" : Str))=(c==40) from c8 c 40,show (c1 c==(")" : Str))=(c==41) from c8 c 41]
 simp only [beq_iff_eq]
theorem MK{P:Prop}(la:List Nat)(r:List Nat):∀ (p x n:Nat) (o:List Nat) (I:List Int) f,cs.drop p=r->o.length=n->I.getLastD 0=(x:Int)->JT la r p x n o f=true->(∀ i o',gL cs (bO la) (List.range' p r.length) I (bO o)=some (I++bO i,bO o')->f i o'=true->P)->P:=by
 induction r with
 | nil=>exact λ p x n o I f hd hn hl h k=>k [] o (congrArg (λ I=>some (I,bO o)) (List.append_nil I).symm) h
 | cons c r ih=>
  intro p x n o I f hd hn hl h k
  have st:=AM (la:=bO la) (I:=I) (o:=bO o) hd
  have ih:=λ x n o (I:List Int) f=>ih (p+1) x n o I f (cK hd)
  have h:=(Bt ..).symm.trans h
  by_cases h0:c=40
  ·refine ih (n+1) (n+1) (sn x o) (I++[((n+1:Nat):Int)]) _ (by rw [Fy,List.length_append,hn];rfl) (List.getLastD_concat ..) ((if_pos h0).symm.trans h) λ i o' e h=>k _ o' ((st.trans (if_pos h0)).trans ?_) h
   rw [hl,(List.length_map _).trans hn]
   exact ((congrArg (gL cs (bO la) _ (I++[_])) ((congrArg bO (Fy x o)).trans (List.map_append ..))).symm.trans e).trans (congrArg (λ l=>some (l,bO o')) (List.append_assoc ..))
  ·have st:=st.trans (if_neg h0)
   have h:=(if_neg h0).symm.trans h
   by_cases h1:c=41
   ·refine HI la o ((if_pos h1).symm.trans h) λ hc hi h=>ih _ n o (I++[((dQ o ((bO la).idxOf (p:Int)):Nat):Int)]) _ hn (List.getLastD_concat ..) h λ i o' e h=>k _ o' ((st.trans ((if_pos h1).trans (if_pos (Um.mpr ⟨hc,decide_eq_true ((List.length_map _).symm▸hi)⟩)))).trans ?_) h
    rw [bW]
    exact e.trans (congrArg (λ l=>some (l,bO o')) (List.append_assoc ..))
   ·exact ih _ _ _ _ _ hn hl ((if_neg h1).symm.trans h) λ i o' e h=>k i o' ((st.trans (if_neg h1)).trans e) h
noncomputable def On(ar:List Nat)(n:Nat)(k:Nat->Bool)(E:List Nat):Bool:=@List.rec Nat (λ _=>Bool) false (λ e _ ih=>@Bool.rec (λ _=>Bool) ih (k e) (Nat.beq (dQ ar e) n)) E
theorem Ak{ar:List Nat}{n e:Nat}{k:Nat->Bool}{E:List Nat}:On ar n k (e::E)=if dQ ar e=n then k e else On ar n k E:=dO _ _ _ _
theorem Lu{P:Prop}{ar:List Nat}{n:Nat}{f:Nat->Bool}{E:List Nat}(h:On ar n f E=true):(∀ q t,E.filter (λ o=>Nat.beq (dQ ar o) n)=q::t->f q=true->P)->P:=by
 induction E with
 | nil=>exact ft h
 | cons e E ih=>
  intro k
  have h:=Ak.symm.trans h
  by_cases h0:dQ ar e=n
  ·exact k e _ (List.filter_cons_of_pos (h0▸Nat.beq_refl _)) ((if_pos h0).symm.trans h)
  ·exact ih ((if_neg h0).symm.trans h) λ q t e1=>k q t ((List.filter_cons_of_neg (p:=λ o=>Nat.beq (dQ ar o) n) λ e=>ft ((OE h0).symm.trans e)).trans e1)
theorem Ih(ar:List Nat)(m:Nat)(r:List Nat):∀ p,cs.drop p=r->eN cs (bO ar) m (List.range' p r.length)=(nA 47 r p).filter λ o=>Nat.beq (dQ ar o) m:=by
 induction r with
 | nil=>exact λ _ _=>rfl
 | cons c r ih=>
  intro p hd
  have e1:((c1 (cs.getD p 0)==("/" : Str))&&((bO ar).getD p 0==(m:Int)))=((c==47)&&Nat.beq (dQ ar p) m):=by rw [at_of hd,bW,vC];exact congrArg (·&&_) (c8 c 47)
  refine (congr (congrArg (λ b l=>if b=true then p::l else l) e1) (ih (p+1) (cK hd))).trans (Eq.symm ?_)
  refine (congrArg (List.filter _) (lV 47 c p r)).trans ?_
  by_cases h:c=47
  ·rw [if_pos h,beq_iff_eq.mpr h];exact List.filter_cons
  ·rw [if_neg h,beq_eq_false_iff_ne.mpr h];rfl
noncomputable def MC(ar tg E row ins:List Nat)(B:List Nat):Nat->(List (Nat×Nat)->List (Nat×Nat)->Bool)->Bool:=@List.rec Nat (λ _=>Nat->(List (Nat×Nat)->List (Nat×Nat)->Bool)->Bool) (λ _ k=>k [] []) (λ t _ ih n k=>On ar (Nat.succ n) (λ q=>ih (Nat.succ n) λ E B=>k ((Nat.succ n,dQ ar t)::E) ((dQ ins (ES row (Nat.succ (dQ tg t))),dQ ins (ES row (Nat.succ (dQ tg q))))::B)) E) B
theorem Ey{ar tags row ins:List Int}{E B:List Pr}{p c:Nat}{r:List Nat}(hd:cs.drop p=c::r):vS cs ar tags row ins (List.range' p (c::r).length) E B=if c=98 then (if (!(cZ cs ar E.length).isEmpty&&(decide (bI true row (tags.getD p 0)<ins.length)&&decide (bI false row (tags.getD ((cZ cs ar E.length).headD 0) 0+1)<ins.length)))=true then vS cs ar tags row ins (List.range' (p+1) r.length) (E++[(((E.length+1:Nat):Int),ar.getD p 0)]) (B++[(ins.getD (bI true row (tags.getD p 0)) 0,ins.getD (bI false row (tags.getD ((cZ cs ar E.length).headD 0) 0+1)) 0)]) else none) else vS cs ar tags row ins (List.range' (p+1) r.length) E B:=by
 refine (rX cs ar tags row ins p (List.range' (p+1) r.length) E B).trans ?_
 rw [at_of hd,show (c1 c==("b" : Str))=(c==98) from c8 c 98]
 simp only [beq_iff_eq]
theorem MB{P:Prop}{ar tg row ins:List Nat}(hc:cs.length=12)(hb:∀ r x,bI r (bO row) x<(bO ins).length)(r:List Nat):∀ (p n:Nat) (E B:List Pr) f,cs.drop p=r->E.length=n->MC ar tg (nA 47 cs 0) row ins (nA 98 r p) n f=true->(∀ E' B',vS cs (bO ar) (bO tg) (bO row) (bO ins) (List.range' p r.length) E B=some (E++kF E',B++kF B')->f E' B'=true->P)->P:=by
 induction r with
 | nil=>exact λ p n E B f hd hn h k=>k [] [] (congrArg some (congr (congrArg Prod.mk (List.append_nil E).symm) (List.append_nil B).symm)) h
 | cons c r ih=>
  intro p n E B f hd hn h k
  have st:=Ey (ar:=bO ar) (tags:=bO tg) (row:=bO row) (ins:=bO ins) (E:=E) (B:=B) hd
  have ih:=λ n (E:List Pr) (B:List Pr) f=>ih (p+1) n E B f (cK hd)
  have h:=(congrArg (λ l=>MC ar tg (nA 47 cs 0) row ins l n f) (lV 98 c p r)).symm.trans h
  by_cases h0:c=98
  ·refine Lu ((congrArg (λ l=>MC ar tg (nA 47 cs 0) row ins l n f) (if_pos h0)).symm.trans h) λ q t hq h=>ih (n+1) (E++[(((n+1:Nat):Int),((dQ ar p:Nat):Int))]) (B++[(((dQ ins (ES row (dQ tg p+1)):Nat):Int),((dQ ins (ES row (dQ tg q+1)):Nat):Int))]) _ (by rw [List.length_append,hn];rfl) h λ E' B' e h=>k _ _ (Eq.trans ?_ (e.trans (congrArg some (congr (congrArg Prod.mk (List.append_assoc ..)) (List.append_assoc ..))))) h
   have hl:cZ cs (bO ar) E.length=q::t:=((congrArg (λ m=>eN cs (bO ar) (E.length+1:Nat) (List.range' 0 m)) hc.symm).trans (Ih ar _ cs 0 rfl)).trans (hn▸hq)
   have b1:bI true (bO row) ((bO tg).getD p 0)=ES row (dQ tg p+1):=(congrArg (bI true _) (bW tg p)).trans (BA true row _)
   have b2:bI false (bO row) ((bO tg).getD q 0+1)=ES row (dQ tg q+1):=(congrArg (λ x=>bI false (bO row) (x+1)) (bW tg q)).trans (BA false row (dQ tg q+1))
   have st:=st.trans (if_pos h0)
   rw [hl] at st
   refine (st.trans (if_pos (Um.mpr ⟨rfl,Um.mpr ⟨decide_eq_true (hb _ _),decide_eq_true (hb _ _)⟩⟩))).trans ?_
   rw [show ((q::t).headD 0)=q from rfl,b1,b2,bW,bW,bW,hn]
  ·exact ih _ E B _ hn ((congrArg (λ l=>MC ar tg (nA 47 cs 0) row ins l n f) (if_neg h0)).symm.trans h) λ E' B' e h=>k E' B' ((st.trans (if_neg h0)).trans e) h
end
noncomputable abbrev LB:Type:=List Nat->List Nat->List Nat->List Nat->List Nat->List Nat->Bool
noncomputable def xI(n:Nat):Nat->Nat->Nat->Nat->List Nat->Nat->Nat->LB->Bool:=@Nat.rec (λ _=>Nat->Nat->Nat->Nat->List Nat->Nat->Nat->LB->Bool) (λ _ _ _ _ _ _ _ k=>k [] [] [] [] [] []) (λ _ ih b e o s st t p k=>
 an (im (Nat.ble (Nat.succ b) 3) (ih (Nat.succ b) e o s (Nat.succ b::st) (Nat.succ t) (Nat.succ p) λ c a g B E C=>k (98::c) (st.headD 0::a) (t::g) (p::B) E C))
 (an (im (Nat.ble (Nat.succ e) b) (ih b (Nat.succ e) o s st.tail (Nat.succ t) (Nat.succ p) λ c a g B E C=>k (47::c) (st.headD 0::a) (t::g) B (p::E) C))
 (an (im (Nat.ble (Nat.succ o) 3) (ih b e (Nat.succ o) s st t (Nat.succ p) λ c a g B E C=>k (40::c) (st.headD 0::a) (t::g) B E C))
 (im (Nat.ble (Nat.succ s) o) (ih b e o (Nat.succ s) st t (Nat.succ p) λ c a g B E C=>k (41::c) (st.headD 0::a) (t::g) B E (p::C)))))) n
theorem vD{g x:Bool}(h:im g x=true)(k:g=true):x=true:=(congrArg (λ g=>im g x) k).symm.trans h
theorem r4(n b e o s:Nat)(st:List Nat)(t p:Nat)(k:LB):xI (n+1) b e o s st t p k =
 an (im (Nat.ble (b+1) 3) (xI n (b+1) e o s ((b+1)::st) (t+1) (p+1) λ c a g B E C=>k (98::c) (st.headD 0::a) (t::g) (p::B) E C))
 (an (im (Nat.ble (e+1) b) (xI n b (e+1) o s st.tail (t+1) (p+1) λ c a g B E C=>k (47::c) (st.headD 0::a) (t::g) B (p::E) C))
 (an (im (Nat.ble (o+1) 3) (xI n b e (o+1) s st t (p+1) λ c a g B E C=>k (40::c) (st.headD 0::a) (t::g) B E C))
 (im (Nat.ble (s+1) o) (xI n b e o (s+1) st t (p+1) λ c a g B E C=>k (41::c) (st.headD 0::a) (t::g) B E (p::C))))):=rfl
theorem Av(l:List Nat):l.reverse.getLastD 0=l.headD 0∧l.reverse.dropLast=l.tail.reverse:=by cases l with
 | nil=>exact ⟨rfl,rfl⟩
 | cons a l=>rw [List.reverse_cons,List.getLastD_concat,List.dropLast_concat];exact ⟨rfl,rfl⟩
theorem GQ{q:Q4}(h:sK q=true):(q.b<=3∧q.e<=q.b)∧q.o<=3∧q.s<=q.o:=by
 obtain ⟨h1,h2⟩:=Um.mp h
 obtain ⟨h3,h4⟩:=Um.mp h1
 obtain ⟨h5,h6⟩:=Um.mp h2
 exact ⟨⟨of_decide_eq_true h3,of_decide_eq_true h4⟩,of_decide_eq_true h5,of_decide_eq_true h6⟩
theorem I2{P:Prop}{q:Q4}{l:List Nat}(k:sN q l):∀ (S:TW) (st:List Nat) (t p:Nat) (f:LB),S.stk=st.reverse->S.bg=q.b->xI l.length q.b q.e q.o q.s st t p f=true->(∀ ar tg,(l.foldl ic S).ar=S.ar++bO ar->cz l t=bO tg->f l ar tg (nA 98 l p) (nA 47 l p) (nA 41 l p)=true->P)->P:=by
 induction k with
 | nil q h hs=>exact λ S st t p f _ _ h k=>k [] [] (List.append_nil _).symm rfl h
 | cons q c r h hs hm hf hn k ih=>
  intro S st t p f e1 e2 h k'
  obtain ⟨l1,l2⟩:=Av st
  have tp:S.stk.getLastD 0=st.headD 0:=e1▸l1
  have v:=GQ k.vl
  have fin:∀ (x t':Nat) ar tg,(if AH c=true then t+1 else t)=t'->(r.foldl ic (ic S c)).ar=(ic S c).ar++bO ar->(ic S c).ar=S.ar++[(x:Int)]->cz r t'=bO tg->f (c::r) (x::ar) (t::tg) (nA 98 (c::r) p) (nA 47 (c::r) p) (nA 41 (c::r) p)=true->P:=λ x t' ar tg et ea es eg h=>k' (x::ar) (t::tg) (ea.trans ((congrArg (·++bO ar) es).trans (List.append_assoc ..))) (congrArg ((t:Int)::·) (Eq.trans (by subst et;cases AH c<;>rfl) eg)) h
  have ar:=congrArg (λ x:Nat=>S.ar++[(x:Int)]) tp
  refine aM ((r4 ..).symm.trans h) λ h1 h=>aM h λ h2 h=>aM h λ h3 h4=>cJ (P:=λ x=>c=x->P) hf (λ e=>?_) (λ e=>?_) (λ e=>?_) (λ e=>?_) rfl
  ·subst e
   exact ih (ic S 98) _ _ _ _ ((congr (congrArg (λ a (b:Nat)=>a++[b+1]) e1) e2).trans (List.reverse_cons ..).symm) (congrArg (·+1) e2) (vD h1 (Nat.ble_eq_true_of_le v.1.1)) λ _ _ ea eg h=>fin _ _ _ _ rfl ea ar eg h
  ·subst e
   exact ih (ic S 47) _ _ _ _ ((congrArg List.dropLast e1).trans l2) e2 (vD h2 (Nat.ble_eq_true_of_le v.1.2)) λ _ _ ea eg h=>fin _ _ _ _ rfl ea ar eg h
  ·subst e
   exact ih (ic S 40) _ _ _ _ e1 e2 (vD h3 (Nat.ble_eq_true_of_le v.2.1)) λ _ _ ea eg h=>fin _ _ _ _ rfl ea ar eg h
  ·subst e
   exact ih (ic S 41) _ _ _ _ e1 e2 (vD h4 (Nat.ble_eq_true_of_le v.2.2)) λ _ _ ea eg h=>fin _ _ _ _ rfl ea ar eg h
noncomputable def Fu:List (List Nat):=[[0,1,3,7],[0,1,3,5],[0,1,3,4],[0,1,2,6],[0,1,2,4]]
noncomputable def SR(s v:Nat):Nat:=if v.testBit 0=true then ((s &&& 85) <<< 1) ||| ((s >>> 1) &&& 85) else s
noncomputable def SQ(s v:Nat):Nat:=if v.testBit 1=true then ((s &&& 51) <<< 2) ||| ((s >>> 2) &&& 51) else s
noncomputable def SO(s v:Nat):Nat:=if v.testBit 2=true then ((s &&& 15) <<< 4) ||| ((s >>> 4) &&& 15) else s
noncomputable def yK(s v:Nat):Nat:=s ||| SO (SQ (SR s v) v) v
noncomputable abbrev V3:Type:=Nat×Int×Int
noncomputable def Fe(v:Nat)(S:V3):V3:=if S.1.testBit v=true then (S.1,S.2.1+1,S.2.2) else (yK S.1 v,S.2.1,S.2.2-1)
noncomputable def zt:List Nat->List V3->List V3
 | [],S=>S
 | v::vs,S=>zt vs (S++S.map (Fe v))
noncomputable def ib(wv:List Nat)(x y:Nat):Nat:=Nat.xor (dQ wv x) (dQ wv y)
noncomputable def yL(wv:List Nat)(m:List Int):Nat:=([(0,1),(0,2),(0,3),(1,2),(1,3),(2,3)]:List (Nat×Nat)).foldl (λ s p=>if m.getD p.1 0=m.getD p.2 0 then yK s (ib wv p.1 p.2) else s) 1
noncomputable def FE(wv:List Nat)(m:M4):V3:=(yL wv m.l,m.r,m.g)
noncomputable def JQ:List (List Int):=[[0,1,2,3],[0,0,2,3],[0,1,0,3],[0,1,2,0],[1,1,2,3],[0,1,1,3],[0,1,2,1],[2,1,2,3],[0,2,2,3],[0,1,2,2],[3,1,2,3],[0,3,2,3],[0,1,3,3],[0,0,0,3],[0,0,2,0],[2,2,2,3],[0,0,2,2],[3,3,2,3],[0,0,3,3],[0,1,0,0],[1,1,1,3],[0,1,0,1],[3,1,3,3],[0,3,0,3],[1,1,2,1],[0,1,1,0],[2,1,2,2],[0,2,2,0],[1,1,2,2],[1,1,3,3],[0,1,1,1],[3,1,1,3],[0,3,3,3],[2,1,2,1],[0,2,2,2],[2,3,2,3],[3,2,2,3],[0,0,0,0],[3,3,3,3],[2,2,2,2],[1,1,1,1]]
noncomputable def Rb(m:List Int)(P Q:Int):List Int:=m.map λ a=>if (a==Q)=true then P else a
noncomputable def FJ(wv:List Nat)(m:List Int)(x y:Nat):Bool:=if (m.getD x 0==m.getD y 0)=true then (yL wv m).testBit (ib wv x y) else !(yL wv m).testBit (ib wv x y)&&(JQ.contains (Rb m (m.getD x 0) (m.getD y 0))&&yL wv (Rb m (m.getD x 0) (m.getD y 0))==yK (yL wv m) (ib wv x y))
theorem TM:(Fu.all λ wv=>JQ.all λ m=>(List.range 4).all λ x=>(List.range 4).all λ y=>FJ wv m x y)=true:=by kernel_rfl
theorem u7{wv:List Nat}(hw:wv∈Fu){m:M4}(hm:m.l∈JQ){x y:Nat}(hx:x<4)(hy:y<4):FE wv (dM x y m)=Fe (ib wv x y) (FE wv m)∧(dM x y m).l∈JQ:=by
 have h:=List.all_eq_true.mp (List.all_eq_true.mp (List.all_eq_true.mp (List.all_eq_true.mp TM wv hw) m.l hm) x (List.mem_range.mpr hx)) y (List.mem_range.mpr hy)
 unfold FJ at h
 unfold dM
 by_cases e:(m.l.getD x 0==m.l.getD y 0)=true
 ·rw [if_pos e] at h
  rw [if_pos e]
  exact ⟨(if_pos h:Fe (ib wv x y) (FE wv m)=_).symm,hm⟩
 ·rw [if_neg e] at h
  rw [if_neg e]
  obtain ⟨h1,h2⟩:=Um.mp h
  obtain ⟨h2,h3⟩:=Um.mp h2
  refine ⟨?_,eV h2⟩
  refine Eq.trans ?_ (if_neg (λ e=>ft (((Bool.not_eq_true' _).mp h1).symm.trans e)):Fe (ib wv x y) (FE wv m)=_).symm
  exact congrArg (λ s=>((s,m.r,m.g-1):V3)) (eq_of_beq h3)
theorem u8{wv:List Nat}(hw:wv∈Fu)(te:List (Nat×Nat)):∀ S:List M4,(∀ m∈S,m.l∈JQ)->(∀ t∈te,t.1<4∧t.2<4)->(fZ te S).map (FE wv)=zt (te.map λ t=>ib wv t.1 t.2) (S.map (FE wv)):=by
 induction te with
 | nil=>exact λ _ _ _=>rfl
 | cons t te ih=>
  intro S hS ht
  obtain ⟨h1,h2⟩:=List.forall_mem_cons.mp ht
  refine (ih (S++S.map (dM t.1 t.2)) (λ m hm=>(List.mem_append.mp hm).elim (hS m) λ hm=>?_) h2).trans ?_
  ·obtain ⟨m',hm',e⟩:=List.mem_map.mp hm
   exact e▸(u7 hw (hS m' hm') h1.1 h1.2).2
  ·refine congrArg (zt (te.map λ t=>ib wv t.1 t.2)) ?_
   rw [List.map_append,List.map_map,List.map_map]
   exact congrArg (_++·) (List.map_congr_left λ m hm=>(u7 hw (hS m hm) h1.1 h1.2).1)
noncomputable def Ji(v k:Nat):Nat:=Nat.land (Nat.shiftRight v k) 1
noncomputable def CB(v0 v1 v2 k:Nat):Nat:=Nat.add (Ji v0 k) (Nat.add (Nat.mul 2 (Ji v1 k)) (Nat.mul 4 (Ji v2 k)))
noncomputable def I0(v0 v1 v2:Nat):Bool:=(zt [1,2,4,v0,v1,v2] [(1,0,4)]).map (λ s=>s.2.1)==((zt [CB v0 v1 v2 0,CB v0 v1 v2 1,CB v0 v1 v2 2,1,2,4] [(1,0,4)]).map λ s=>s.2.2-1).reverse
theorem Bl:((List.range 8).all λ v0=>(List.range 8).all λ v1=>(List.range 8).all λ v2=>I0 v0 v1 v2)=true:=by kernel_rfl
theorem Bw(te:List (Nat×Nat)):∀ S:List M4,(fZ te S).length=2 ^ te.length * S.length:=by
 induction te with
 | nil=>exact λ S=>(Nat.one_mul _).symm
 | cons t te ih=>
  intro S
  refine (ih _).trans ?_
  rw [List.length_append,List.length_map,List.length_cons,Nat.pow_succ,Nat.mul_assoc,Nat.two_mul]
theorem yr{te tb:List (Nat×Nat)}{wv wv':List Nat}(hw:wv∈Fu)(hw':wv'∈Fu)(h1:∀ t∈te,t.1<4∧t.2<4)(h2:∀ t∈tb,t.1<4∧t.2<4){v0 v1 v2:Nat}(k0:v0<8)(k1:v1<8)(k2:v2<8)
  (he:te.map (λ t=>ib wv t.1 t.2)=[1,2,4,v0,v1,v2]) (hb:tb.map (λ t=>ib wv' t.1 t.2)=[CB v0 v1 v2 0,CB v0 v1 v2 1,CB v0 v1 v2 2,1,2,4]):wo te tb:=by
 have l1:te.length=6:=(List.length_map _).symm.trans (congrArg List.length he)
 have l2:tb.length=6:=(List.length_map _).symm.trans (congrArg List.length hb)
 have n1:(fZ te [jx]).length=64:=(Bw te _).trans (by rw [l1];rfl)
 have n2:(fZ tb [jx]).length=64:=(Bw tb _).trans (by rw [l2];rfl)
 have start:∀ wv∈Fu,[jx].map (FE wv)=[((1,0,4):V3)]:=by decide
 have m0:∀ m∈[jx],m.l∈JQ:=by decide
 have e1:=u8 hw te [jx] m0 h1
 have e2:=u8 hw' tb [jx] m0 h2
 rw [start wv hw,he] at e1
 rw [start wv' hw',hb] at e2
 have d:=eq_of_beq (List.all_eq_true.mp (List.all_eq_true.mp (List.all_eq_true.mp Bl v0 (List.mem_range.mpr k0)) v1 (List.mem_range.mpr k1)) v2 (List.mem_range.mpr k2))
 rw [← e1,← e2,List.map_map,List.map_map] at d
 refine ⟨h1,h2,Up l1,Up l2,n1,n2,λ k hk=>?_⟩
 have g1:((fZ te [jx]).map ((λ s:V3=>s.2.1)∘FE wv))[k]?=some (ya te k).r:=by rw [List.getElem?_map,List.getElem?_eq_getElem (n1.symm▸hk)];exact congrArg some (congrArg M4.r (by unfold ya;rw [List.getD_eq_getElem?_getD,List.getElem?_eq_getElem (n1.symm▸hk)];rfl))
 have hk':63-k<64:=Nat.lt_of_le_of_lt (Nat.sub_le _ _) (by decide)
 rw [d,List.getElem?_reverse (by rw [List.length_map,n2];exact hk),List.length_map,n2,List.getElem?_map,List.getElem?_eq_getElem (n2.symm▸hk')] at g1
 refine (Option.some.inj g1).symm.trans ?_
 unfold ya
 rw [List.getD_eq_getElem?_getD,List.getElem?_eq_getElem (n2.symm▸hk')];rfl
theorem CE(w1 w2 w3:Bool):∀ c∈CF w1 w2 w3,c<128:=by cases w1<;>cases w2<;>cases w3<;>decide
theorem CD(l:List Nat):∀ c∈toks l,c<128:=by
 induction l with
 | nil=>exact λ c h=>nm h
 | cons a l ih=>exact λ c h=>(List.mem_append.mp (show c∈tok a++toks l from h)).elim (CE _ _ _ c) (ih c)
theorem Ds{l:List Nat}(h:l.length=12):l3 (bG l)=true:=by
 refine Um.mpr ⟨dX.mpr λ c hc=>?_,decide_eq_true ?_⟩
 ·have hc:c∈cw++toks l++fS:=hc
  exact (List.mem_append.mp hc).elim (λ hc=>(List.mem_append.mp hc).elim ((show ∀ c∈cw,c<128 by decide +kernel) c) (CD l c)) ((show ∀ c∈fS,c<128 by decide +kernel) c)
 ·show (cw++toks l++fS).length<=1000
  rw [List.length_append,List.length_append]
  exact Ul (Nat.add_le_add_right (Nat.add_le_add_left (Ul (qr l) (Up (congrArg (9 * ·) h))) _) _) (by decide +kernel)
noncomputable abbrev Np:Type:=Nat×Nat
noncomputable def Bu(w:List Nat)(te:List Np):List Nat->Bool:=@List.rec Np (λ _=>List Nat->Bool) (λ vs=>u0 vs true) (λ t _ ih vs=>u1 vs λ v vs=>an (Nat.ble (Nat.succ t.1) 4) (an (Nat.ble (Nat.succ t.2) 4) (an (Nat.beq (ib w t.1 t.2) v) (ih vs)))) te
structure Vs(w:List Nat)(te:List Np)(vs:List Nat):Prop where
 e:te.map (λ t=>ib w t.1 t.2)=vs
 l:∀ t∈te,t.1<4∧t.2<4
theorem ll{w:List Nat}{te:List Np}:∀ {vs},Bu w te vs=true->Vs w te vs:=by
 induction te with
 | nil=>exact λ h=>lA h λ e _=>⟨e.symm,λ t h=>nm h⟩
 | cons t te ih=>exact λ h=>iO h λ v vs e h=>aM h λ h1 h=>aM h λ h2 h=>aM h λ h3 h=>⟨(congr (congrArg List.cons (Nat.eq_of_beq_eq_true h3)) (ih h).e).trans e.symm,List.forall_mem_cons.mpr ⟨⟨Un h1,Un h2⟩,(ih h).l⟩⟩
theorem Vs.app{w:List Nat}{te te':List Np}{vs vs':List Nat}(a:Vs w te vs)(b:Vs w te' vs'):Vs w (te++te') (vs++vs'):=⟨(List.map_append ..).trans (congr (congrArg List.append a.e) b.e),λ t h=>(List.mem_append.mp h).elim (a.l t) (b.l t)⟩
noncomputable def Q2(p q:Nat):List Nat:=[0,1,dQ [2,3] p,dQ [4,5,Nat.xor 4 (dQ [2,3] p)] q]
noncomputable def Qk(E B Y:List Np)(w w':List Nat)(x0 x1 x2:Np)(v0 v1 v2:Nat):Bool:=an (Bu w E [1,2,4]) (an (Bu w [x0,x1,x2] [v0,v1,v2]) (an (al 8 [v0,v1,v2]) (an (Bu w' Y [1,2,4]) (Bu w' B [CB v0 v1 v2 0,CB v0 v1 v2 1,CB v0 v1 v2 2]))))
noncomputable def Mw(E B Y:List Np)(w w':List Nat)(x0 x1 x2:Np):Bool:=an (Fu.contains w) (an (Fu.contains w') (Qk E B Y w w' x0 x1 x2 (ib w x0.1 x0.2) (ib w x1.1 x1.2) (ib w x2.1 x2.2)))
theorem Eg{E B Y:List Np}{w w':List Nat}{x0 x1 x2:Np}(h:Mw E B Y w w' x0 x1 x2=true):(E.length=3∧B.length=3)∧wo (E++[x0,x1,x2]) (B++Y):=
 aM h λ h1 h=>aM h λ h2 h=>aM h λ h3 h=>aM h λ h4 h=>aM h λ h5 h=>aM h λ h6 h7=>
  have a:=ll h3
  have b:=ll h7
  have c:=a.app (ll h4)
  have d:=b.app (ll h6)
  have l:=Gv h5
  ⟨⟨(List.length_map _).symm.trans (congrArg List.length a.e),(List.length_map _).symm.trans (congrArg List.length b.e)⟩,yr (eV h1) (eV h2) c.l d.l (l _ (.head _)) (l _ (.tail _ (.head _))) (l _ (.tail _ (.tail _ (.head _)))) c.e d.e⟩
noncomputable def u3{α:Type}(l:List α)(f:α->α->α->Bool):Bool:=u1 l λ x l=>u1 l λ y l=>u1 l λ z l=>u0 l (f x y z)
theorem Fw{P:Prop}{α:Type}{l:List α}{f:α->α->α->Bool}(h:u3 l f=true)(k:∀ x y z,l=[x,y,z]->f x y z=true->P):P:=
 iO h λ x _ e h=>iO h λ y _ e1 h=>iO h λ z _ e2 h=>lA h λ e3 h=>k x y z (e.trans (congrArg (x::·) (e1.trans (congrArg (y::·) (e2.trans (congrArg (z::·) e3)))))) h
noncomputable def TY(ar B:List Nat)(a b c:Np)(x y z:Nat)(E B':List Np):Bool:=Mw E B' [(1,x),(2,y),(3,z)] (Q2 (dQ ar (dQ B 1)) (dQ ar (dQ B 2))) (Q2 y z) (dQ ar a.1,dQ ar a.2) (dQ ar b.1,dQ ar b.2) (dQ ar c.1,dQ ar c.2)
noncomputable def Oc(tg:List Nat)(a b c:Np):List Nat:=KM tg [a.2,a.1,b.2,b.1,c.2,c.1]
noncomputable def TX(cs ar tg B E:List Nat)(a b c:Np):Bool:=JT [a.2,b.2,c.2] cs 0 0 0 [] λ i o=>an (Nat.beq (len i) 6) (u3 o λ x y z=>MC ar tg E (Oc tg a b c) (0::i) B 0 (TY ar B a b c x y z))
noncomputable def vu:LB:=λ cs ar tg B E C=>Oj cs 0 λ m=>u3 m λ a b c=>an (al 12 [a.1,a.2,b.1,b.2,c.1,c.2]) (an (Sd (Ku [a.2,b.2,c.2]) C) (TX cs ar tg B E a b c))
theorem wy(l:List Nat):∀ n,(cz l n).length=l.length:=by
 induction l with
 | nil=>exact λ _=>rfl
 | cons c l ih=>exact λ n=>congrArg Nat.succ (ih _)
theorem uF(a b:List Np):kF (a++b)=kF a++kF b:=List.map_append ..
theorem Sq{α:Type}(l:List α)(x y z:α):l++[x]++[y]++[z]=l++[x,y,z]:=by rw [List.append_assoc,List.append_assoc];rfl
theorem e3(E:List Pr){A:List Int}{ar:List Nat}(h:A=bO ar){a b c d e f:Nat}:E++[(A.getD a 0,A.getD b 0)]++[(A.getD c 0,A.getD d 0)]++[(A.getD e 0,A.getD f 0)]=E++kF [(dQ ar a,dQ ar b),(dQ ar c,dQ ar d),(dQ ar e,dQ ar f)]:=by
 subst h
 rw [bW,bW,bW,bW,bW,bW]
 exact Sq ..
section
variable{l ar tg:List Nat}{a b c:Np}{i:List Nat}{x y z:Nat}{E B:List Np}
theorem O9(hg:cz l 0=bO tg):eJ (cz l 0) [a.2,a.1,b.2,b.1,c.2,c.1]=bO (Oc tg a b c):=(congrArg (λ t=>eJ t _) hg).trans (zB tg _)
theorem Hx(r:Bool)(v:Int)(h:i.length=6):bI r (bO (Oc tg a b c)) v<(bO (0::i)).length:=Nat.lt_of_le_of_lt (lq r _ v) (Nat.lt_of_le_of_lt (Up ((congrArg List.length (zB tg _)).symm.trans (lO ..))) (Nat.lt_of_lt_of_le (show 6<7 by decide) (Up ((List.length_map (as:=0::i) _).trans (congrArg Nat.succ h)).symm)))
theorem yt{S:TW}(ha:S.ar=bO ar)(hg:cz l 0=bO tg)(h12:l.length=12)(i6:i.length=6)(ei:gL l (bO [a.2,b.2,c.2]) (List.range' 0 l.length) [0] []=some (bO (0::i),bO [x,y,z]))(ee:vS l (bO ar) (bO tg) (bO (Oc tg a b c)) (bO (0::i)) (List.range' 0 l.length) [] []=some (kF E,kF B))(l1:E.length=3)(l2:B.length=3):p8 (zM .none l S a.1 a.2 b.1 b.2 c.1 c.2) (bO (0::i),bO [x,y,z]) (kF E,kF B):=by
 have le:∀ {m:Nat} (L:List Np) (n:Nat),L.length=m->m<=n->(kF L).length<=n:=λ L n e h=>Ul (Up ((List.length_map _).trans e)) h
 rw [h12] at ei ee
 refine ⟨ei,?_,?_,?_,rfl,le E 900 l1 (by decide),le B 900 l2 (by decide)⟩
 ·show vS l S.ar (cz l 0) (eJ (cz l 0) [a.2,a.1,b.2,b.1,c.2,c.1]) (bO (0::i)) (List.range' 0 12) [] []=_
  rw [O9 hg,ha,hg];exact ee
 ·exact (wy l 0).trans h12
 ·exact Ul (Up ((List.length_map (as:=0::i) _).trans (congrArg Nat.succ i6))) (by decide)
theorem T8{n f0 l0 f1 l1 f2 l2:Nat}(h:al n [f0,l0,f1,l1,f2,l2]=true):((f0<n∧l0<n)∧f1<n∧l1<n)∧f2<n∧l2<n:=by
 obtain ⟨h1,h⟩:=List.forall_mem_cons.mp (Gv h)
 obtain ⟨h2,h⟩:=List.forall_mem_cons.mp h
 obtain ⟨h3,h⟩:=List.forall_mem_cons.mp h
 obtain ⟨h4,h⟩:=List.forall_mem_cons.mp h
 obtain ⟨h5,h⟩:=List.forall_mem_cons.mp h
 exact ⟨⟨⟨h1,h2⟩,h3,h4⟩,h5,h _ (.head _)⟩
theorem Ap(k:sN q0 l)(ha:(l.foldl ic sy).ar=bO ar)(hg:cz l 0=bO tg)(h:vu l ar tg (nA 98 l 0) (nA 47 l 0) (nA 41 l 0)=true):Fj l:=by
 obtain ⟨t,h12⟩:=CC k
 have hc:=t.hc
 exact Fw ((HX l 0 _).symm.trans h) λ a b c em h=>aM h λ bd h=>aM h λ so h=>MK [a.2,b.2,c.2] l 0 0 0 [] [0] _ rfl rfl rfl h λ i o ei h=>aM h λ i6 h=>Fw h λ x y z eo h=>
  have i6:=(An i).symm.trans (Nat.eq_of_beq_eq_true i6)
  MB hc (λ r v=>Hx r v i6) l 0 0 [] [] _ rfl rfl h λ E B ee h=>
  have q:=Eg h
  .mk (l.foldl ic sy) a.1 a.2 b.1 b.2 c.1 c.2 (bO (0::i),bO [x,y,z]) (kF E,kF B) _ _ (nA 41 l 0) t (Ds hc) h12 ((congrArg (λ n=>(List.range' 0 n).filterMap (ff l)) hc.symm).trans ((Lo k.four.1 hc l 0 rfl (Nat.zero_add _)).trans em)) (T8 bd) ((CL [a.2,b.2,c.2]).trans (congrArg bO (IT so))) ((congrArg (λ n=>(List.range' 0 n).filterMap (fe l)) hc.symm).trans (KA l 0 rfl))
   (yt ha hg hc i6 (ei.trans (congrArg (λ o=>some (bO (0::i),bO o)) eo)) ee q.1.1 q.1.2) ((e3 (kF E) ha).trans (uF E _).symm) ((Sq (kF B) ((1:Int),(x:Int)) ((2:Int),(y:Int)) ((3:Int),(z:Int))).trans (uF B [(1,x),(2,y),(3,z)]).symm) q.2
end
theorem Jm{a b:Bool}(h:a=true)(k:b=true):an a b=true:=(congrArg (λ a=>an a b) h).trans k
theorem Ea{g x:Bool}(h:g=true->x=true):im g x=true:=by cases g with
 | false=>rfl
 | true=>exact h rfl
theorem I3{n b e o s:Nat}{st:List Nat}{t p:Nat}{k:LB}(h1:Nat.ble (b+1) 3=true->xI n (b+1) e o s ((b+1)::st) (t+1) (p+1) (λ c a g B E C=>k (98::c) (st.headD 0::a) (t::g) (p::B) E C)=true)
  (h2:Nat.ble (e+1) b=true->xI n b (e+1) o s st.tail (t+1) (p+1) (λ c a g B E C=>k (47::c) (st.headD 0::a) (t::g) B (p::E) C)=true)
  (h3:Nat.ble (o+1) 3=true->xI n b e (o+1) s st t (p+1) (λ c a g B E C=>k (40::c) (st.headD 0::a) (t::g) B E C)=true)
  (h4:Nat.ble (s+1) o=true->xI n b e o (s+1) st t (p+1) (λ c a g B E C=>k (41::c) (st.headD 0::a) (t::g) B E (p::C))=true):xI (n+1) b e o s st t p k=true:=
 (r4 ..).trans (Jm (Ea h1) (Jm (Ea h2) (Jm (Ea h3) (Ea h4))))
set_option maxHeartbeats 0 in
theorem BL:xI 12 0 0 0 0 [] 0 0 vu=true:=(I3 (λ _=>(I3 (λ _=>(by decide +kernel)) (λ _=>(by decide +kernel)) (λ _=>(by decide +kernel)) ft)) ft (λ _=>(I3 (λ _=>(by decide +kernel)) ft (λ _=>(by decide +kernel)) (λ _=>(by decide +kernel)))) ft)
theorem Dh{l:List Nat}(k:sN q0 l):Fj l:=by
 have a:∀ n,n=12->xI n 0 0 0 0 [] 0 0 vu=true:=λ n e=>by subst e;exact BL
 exact I2 k sy [] 0 0 vu rfl rfl (a _ k.four.2) λ _ _ ha hg h=>Ap k ha hg h
theorem qY(script:List Int):Fj (jF script 12 0 q0):=Dh (Hw script 12 0 q0 rfl rfl)
open PySem PySem.Calls PySem.W PyProof.Rows Builtin
theorem qS{α β:Type}[BEq α][LawfulBEq α]{l:List (α×β)}{a:α}{b:β}(h:l.lookup a=some b):(a,b)∈l:=by
 obtain ⟨l1,l2,e,_⟩:=List.lookup_eq_some_iff.mp h
 exact e▸List.mem_append.mpr (.inr (.head _))
structure JD(l:List Addr)(h:Heap)(b:Addr)(o:Obj):Prop where
 m:b∈l
 g:h.get? b=some o
 n:o.cls≠ .type "list"
theorem mr{l:List Addr}{h:Heap}{b:Addr}{o:Obj}(e:(jk l h).lookup b=some o):JD l h b o:=by
 obtain ⟨a,m,e⟩:=List.mem_filterMap.mp (qS e)
 obtain ⟨x,hx,e⟩:=Option.bind_eq_some_iff.mp e
 by_cases hc:(x.cls== .type "list")=true
 ·exact M.Internal.ns ((if_pos hc).symm.trans e)
 ·obtain ⟨rfl,rfl⟩:=Prod.mk.inj (Option.some.inj ((if_neg hc).symm.trans e))
  exact ⟨m,hx,λ q=>hc (beq_iff_eq.mpr q)⟩
theorem l7{K:Frag}{h:Heap}{N:Addr}(X:K.In h)(e:(DC K N).isSome=true):h.Ns N (vd K N):=by
 obtain ⟨es,e⟩:=Option.isSome_iff_exists.mp e
 have hm:∀ x,nsFind es x=vd K N x:=λ x=>(congrArg (Option.bind · λ es=>nsFind es x) e).symm
 obtain ⟨o,ho,e⟩:=Option.bind_eq_some_iff.mp e
 obtain ⟨⟨es',n,hd⟩,_,e⟩:=Option.bind_eq_some_iff.mp e
 by_cases hc:Rn es'=true
 ·obtain rfl:=Option.some.inj ((if_pos hc).symm.trans e)
  refine ⟨o,es',n,X _ _ ho,hd,λ en he=>?_,hm⟩
  obtain ⟨⟨x,t⟩,_⟩:=Option.isSome_iff_exists.mp (List.all_eq_true.mp hc en (Array.mem_toList_iff.mpr he))
  exact ⟨x,t⟩
 ·exact M.Internal.ns ((if_neg hc).symm.trans e)
open PySem PySem.Calls PySem.W PyProof.Rows Builtin
structure JH(K:Frag):Prop where
 n8:K.lookup b8=none
 ga:findIn K cC "__getattribute__" = some (some (.builtin "object.__getattribute__"))
 gt:findIn K cC "__getattr__" = some none
 sa:findIn K cC "__setattr__" = some (some (.builtin "object.__setattr__"))
 po:plainOver K 198=true
 hd:hasDictIn K 198=true
 own:nI.map (findIn K cC)=nI.map λ _=>some none
 mth:tN.map (HU K)=tN.map HW
theorem xb:∀ p∈tN,copiedNames.contains p.1=false:=by decide +kernel
theorem DI(x:Str)(v:V)(m:List (Str×V)):(jJ m x v).length<=m.length+1:=by
 induction m with
 | nil=>exact Nat.le_refl _
 | cons p m ih=>
  show (if (p.1==x)=true then (p.1,v)::m else (p.1,p.2)::jJ m x v).length<=_
  by_cases h:(p.1==x)=true
  ·rw [if_pos h];exact Nat.le_succ _
  ·rw [if_neg h];exact Nat.succ_le_succ ih
theorem ER.size{P:Params}{ρ:List Addr}{F:Fz}{m:List (Str×V)}{es:List DictEntry}(h:ER P ρ F m es):es.length=m.length:=
 ER.rec (motive:=λ m es _=>es.length=m.length) rfl (λ _ _ _ _ _ _ _ _ ih=>congrArg Nat.succ ih) h
theorem xe{o:Obj}{es:Array DictEntry}{ep:Nat}{f:Str->Option Value}{name:Str}(hd:o.data= .dict es ep)(hk:StrKeys es)(hf:∀ x,nsFind es x=f x):lookIn name o=some (f name):=by
 have hno:es.toList.any (·.refKey)=false:=List.any_eq_false.mpr λ e he=>by
  obtain ⟨n,t,h⟩:=hk e (Array.mem_toList_iff.mp he)
  show ¬ DictEntry.refKey e=true
  unfold DictEntry.refKey;rw [h];exact Bool.false_ne_true
 unfold lookIn
 rw [hd,← hf name]
 show (match es.toList.find? (·.key.isStr name) with | some e=>some (some e.val) | none=>if es.toList.any (·.refKey) then none else some none)=some (nsFind es name)
 rw [hno]
 unfold nsFind findBy
 rw [← Array.find?_toList]
 cases es.toList.find? (·.key.isStr name)<;>rfl
section
variable{h₀:Heap}{W:Wd}{σ:St}{s:Shared}{K:Frag}
theorem ae.inK(R:ae w.params h₀ W σ s)(X:K.In h₀)(h8:K.lookup b8=none):K.In s.heap:=λ a o q=>R.old a o (X a o q) λ e=>M.Internal.ns (h8.symm.trans (e▸q))
theorem jg{h:Heap}{x dx:Addr}{f:Str->Option Value}{G:Prop}(hx:h.get? x=some ⟨.ref 198,some dx,.plain,#[]⟩)(hn:h.Ns dx f)(k:∀ od,PySem.W.InstAt h x ⟨.ref 198,some dx,.plain,#[]⟩ 198 (some od)->(∀ name,lookIn name od=some (f name))->G):G:=by
 obtain ⟨o,es,ep,ho,hd,hk,hf⟩:=hn
 exact k o ⟨hx,rfl,rfl,ho⟩ λ name=>xe hd hk hf
theorem Jb(e:JH K)(X:K.In h₀):cI h₀ gX:=by
 have own:∀ name,gX.own name=true->findIn K cC name=some none:=λ name h=>List.map_inj_left.mp e.own name (List.contains_iff_mem.mp (show nI.contains name=true from h))
 have mth:∀ name fa,gX.mth name=some fa->HU K (name,fa)=HW (name,fa)∧copiedNames.contains name=false:=λ name fa h=>have m:=qS (show tN.lookup name=some fa from h);⟨List.map_inj_left.mp e.mth _ m,xb _ m⟩
 refine ⟨⟨λ R hx hn hf hy ho hQ=>?_,λ R hx hn hf hm' hQ=>?_,λ {W σ s A x dx f name fa ex Q} R hx hn hf hm' hQ=>?_,λ {W σ s A i d x name v y k dd m Q} R hi ho hd hm' hv hown' hQ=>?_⟩,λ R hx hn hf hy ho hQ=>?_⟩
 ·exact jg hx hn λ od I L=>get_value (R.inK X e.n8) I e.ga (findObj_own e.hd (own _ ho) rfl ((L _).trans (congrArg some hf))) hy (hQ _)
 ·exact jg hx hn λ od I L=>have q:=(mth _ _ hm').1;method_fn (R.inK X e.n8) I e.ga e.gt (congrArg Prod.fst q) (congrArg (λ q=>q.2.1) q) (congrArg (Option.map Option.isSome) ((L _).trans (congrArg some hf))) hQ
 ·exact jg hx hn λ od I L=>have q:=(mth _ _ hm').1;get_bind (R.inK X e.n8) I e.ga (findObj_fn e.hd (congrArg Prod.fst q) (congrArg (λ q=>q.2.2.1) q) (congrArg (λ q=>q.2.2.2) q) (mth _ _ hm').2 ((L _).trans (congrArg some hf))) e.gt
   (wpAny_call (fn_get (s:={ s with toks:=s.toks+1 }) (K:=K) (R.inK X e.n8) (congrArg (λ q=>q.2.1) q) (handed_on rfl (hQ _))))
 ·obtain ⟨dx,dt,e2,h1,h2⟩:=R.on hi ho
  cases h2
  cases h1 with
  | some _ da hda=>
   obtain ⟨f,hn,hf⟩:=l5 R hda hd rfl
   obtain ⟨cd,hc,hcd⟩:=any_some e.hd
   have KX:=R.inK X e.n8
   refine jg e2 hn λ od I L=>set_plain KX I e.sa (osa_open (s:={ s with toks:=s.toks+1 }) KX I e.po (r:=none) (by unfold takerIn;rw [own _ hown'];rfl) λ b=>?_)
   refine Uj (Uk (Uj (Uj (wpAny_loadPart e2 (Uj (Looks.here (s:={ s with toks:=s.toks+1 }) (looks_clsIn KX hc) ?_))))))
   rw [hcd]
   refine Uk (a:=some da) (Uj (Uk (Uj (jO (R.toks (s.toks+1)) hda hd rfl hv λ h' _ R'=>?_))))
   obtain ⟨Si,Sj,q2,h1',h2'⟩:=R'.on hda (show St.at (σ.set d (some ⟨k,dd,.dict (jJ m name v)⟩)) d=some ⟨k,dd,.dict (jJ m name v)⟩ from congrArg (Option.bind · id) (List.getElem?_set_self (List.getElem?_eq_some_iff.mp (St.at_some hd)).1))
   obtain ⟨es,n,hE,q⟩:=h2'.inv
   subst q
   exact Uj (wpAny_lookBehind q2 (pastItsLine_dict (by rw [List.size_toArray,sizeLine_eq,hE.size];exact Ul (DI name v m) (Ul (Nat.succ_le_succ hm') (by decide)))) (Uk (hQ _ _ R')))
 ·exact jg hx hn λ od I L=>method_usual (R.inK X e.n8) I e.ga e.gt (own _ ho) rfl (get_value (R.inK X e.n8) I e.ga (findObj_own e.hd (own _ ho) rfl ((L _).trans (congrArg some hf))) hy (hQ _))
end
open PySem PySem.Calls PySem.W PyProof.Rows Builtin
theorem iw{α:Type}{o:Option α}{f:α->Bool}{P:Prop}(h:o.elim false f=true)(k:∀ a,o=some a->f a=true->P):P:=by cases o with
 | none=>exact ft h
 | some a=>exact k a rfl h
theorem GR{v:V}{y:Value}(h:Q7 v y=true)(ρ:List Addr)(F:Fz):VR ρ F v y:=by
 cases v with
 | glob x=>exact (show x=y from eq_of_beq h)▸ .glob _
 | d d=>cases d with
  | none=>exact (show y= .none from eq_of_beq h)▸ .d _ _ .none
  | int i=>exact iw (show (K3 y).elim false (λ j=>i==j.1)=true from h) λ ⟨j,t,e⟩ _ h=>(show i=j from eq_of_beq h)▸e▸ .d _ _ (.int _ _)
  | _=>exact ft h
 | _=>exact ft h
theorem Cr{vs:List V}:∀ {ys:List Value},Ka vs ys=true->∀ ρ F,VRs ρ F vs ys:=by
 induction vs with
 | nil=>exact λ h ρ F=>lA h λ e _=>e▸ .nil
 | cons v vs ih=>exact λ h ρ F=>iO h λ y ys e h=>aM h λ h1 h2=>e▸ .cons _ _ _ _ (GR h1 ρ F) (ih h2 ρ F)
theorem rp{β γ:Type}(f:β->γ)(l:List (Str×β))(a:Str):(l.map λ p=>(p.1,f p.2)).lookup a=(l.lookup a).map f:=by
 induction l with
 | nil=>rfl
 | cons p l ih=>
  show (match a==p.1 with | true=>some (f p.2) | false=>(l.map λ p=>(p.1,f p.2)).lookup a)=Option.map f (match a==p.1 with | true=>some p.2 | false=>l.lookup a)
  cases a==p.1 with
  | true=>rfl
  | false=>exact ih
theorem vy{α β:Type}(g:α->β)(x y:α)(a:Addr):JR (g x) (g y) a=(JR x y a).map λ p=>(p.1,g p.2):=by
 unfold JR
 by_cases h:a=115
 ·rw [if_pos h,if_pos h];rfl
 ·rw [if_neg h,if_neg h]
  by_cases h:a=68∨a=77∨a=86
  ·rw [if_pos h,if_pos h];rfl
  ·rw [if_neg h,if_neg h];rfl
noncomputable def bV(b:Bool):V:=if b=true then .d .none else .d (.bool false)
noncomputable def bX(b:Bool):Value:=if b=true then .none else .bool false
noncomputable def Et(g:FuncData):Value×Value×Option Addr×Value:=(g.doc,g.pyModule,g.annotations,g.closureTuple)
theorem IS{g fd:FuncData}(h:xD g=xD fd):g=F9 fd (Et g):=(show g=F9 (xD g) (Et g) from rfl).trans ((congrArg (λ f=>F9 f (Et g)) h).trans rfl)
structure Cg(K:Frag):Prop where
 st:(DC K cStatics).isSome=true
 li:vd K cStatics "sys.recursionlimit" = none
 mg:(DC K mainGlobals).isSome=true
 mb:(DC K builtinsNs).isSome=true
 gl:nR.map (λ p=>FT K p.1)=nR.map λ p=>some p.2
 fs:Ju.all (RY K)=true
 fn:Ju.map (Mm K)=Ju.map λ a=>(fi a).map xD
section
variable{h:Heap}{K:Frag}
structure Ug(h:Heap)(K:Frag)(a:Addr)(fd:FuncData):Prop where
 o:∃ o x,h.get? a=some o∧o.cls= .type "function" ∧ o.data= .func (F9 fd x)
 n:a≠b8
 c:codeIn K fd.code fd.qualname=true
 d:EA K a fd.defaults=true
 k:DU K a fd.kwdefaults=true
theorem Mp(X:K.In h)(n8:K.lookup b8=none)(e:Cg K){a:Addr}{fd:FuncData}(hf:fi a=some fd):Ug h K a fd:=by
 obtain ⟨q,hq,_⟩:=Option.bind_eq_some_iff.mp hf
 have m:a∈Ju:=List.mem_map.mpr ⟨_,qS hq,rfl⟩
 have h1:=List.map_inj_left.mp e.fn a m
 rw [hf] at h1
 obtain ⟨o,ho,h1⟩:=Option.bind_eq_some_iff.mp h1
 have h2:an (codeIn K fd.code fd.qualname) (an (EA K a fd.defaults) (DU K a fd.kwdefaults))=true:=(congrArg (λ o:Option FuncData=>o.elim false λ fd=>an (codeIn K fd.code fd.qualname) (an (EA K a fd.defaults) (DU K a fd.kwdefaults))) hf).symm.trans (List.all_eq_true.mp e.fs a m)
 by_cases hc:(o.cls== .type "function")=true
 ·obtain ⟨g,hg,h1⟩:=Option.map_eq_some_iff.mp ((if_pos hc).symm.trans h1)
  exact aM h2 λ c h2=>aM h2 λ d k=>⟨⟨o,Et g.1,X _ _ ho,eq_of_beq hc,g.2.trans (congrArg Data.func (IS h1))⟩,λ q=>M.Internal.ns (n8.symm.trans (q▸ho)),c,d,k⟩
 ·exact M.Internal.ns ((if_neg hc).symm.trans h1)
theorem ML(n8:K.lookup b8=none){q:Str}:codeIn K (.ref b8) q=false:=by unfold codeIn;dsimp only;rw [n8]
theorem EZ(X:K.In h)(c:JH K)(e:Cg K)(t8:∃ o vs,h.get? b8=some o∧o.data= .fields vs):aI h:=by
 have F:=λ {a fd} hf=>Mp (a:=a) (fd:=fd) X c.n8 e hf
 refine ⟨⟨⟨_,l7 X e.st,e.li⟩,λ x v hx=>⟨_,_,l7 X e.mg,l7 X e.mb,?_⟩,λ a fd hf=>?_,by decide,t8⟩,⟨λ a fd hf=>?_,λ a fd hf n x hx=>?_,λ a n v hv=>?_⟩,Jb c X⟩
 ·have q:=List.map_inj_left.mp e.gl (x,v) (qS (show nR.lookup x=some v from hx))
  show vd K mainGlobals x=some v∨vd K mainGlobals x=none∧vd K builtinsNs x=some v
  have q:(vd K mainGlobals x).or (vd K builtinsNs x)=some v:=q
  cases hm:vd K mainGlobals x with
  | none=>rw [hm] at q;exact .inr ⟨rfl,q⟩
  | some u=>rw [hm] at q;exact .inl q
 ·obtain ⟨o,n,k,_,_⟩:=F hf
  exact ⟨n,o,codeRec_of X k,λ q=>ft ((ML c.n8).symm.trans (q▸k))⟩
 ·refine (Bool.or_eq_true_iff.mp (F hf).d).elim (λ q=>aM q λ q1 q2=> .inl ⟨eq_of_beq q1,List.isEmpty_iff.mp q2⟩) λ q=>iw q λ ⟨T,eT⟩ _ q=>iw q λ o ho q=>iw q λ ⟨dv,n,ed⟩ _ q=> .inr ⟨T,o,n,dv.toList,eT,λ q=>M.Internal.ns (c.n8.symm.trans ((congrArg (λ x=>K.lookup x) q).symm.trans ho)),X _ _ ho,ed,Cr q⟩
 ·refine (Bool.or_eq_true_iff.mp (F hf).k).elim (λ q=>M.Internal.ns ((congrArg (List.lookup n) (List.isEmpty_iff.mp q)).symm.trans hx)) λ q=>iw q λ ⟨d,ed⟩ _ q=>aM q λ q1 q2=>⟨d,_,ed,l7 X q1,eq_of_beq (List.all_eq_true.mp q2 _ (qS hx))⟩
 ·have hx:((JR false true a).map λ p=>(p.1,bV p.2)).lookup n=some v:=(congrArg (List.lookup n) (vy bV false true a)).symm.trans hv
  obtain ⟨b,hb,e⟩:=Option.map_eq_some_iff.mp ((rp ..).symm.trans hx)
  exact ⟨bX b,(congrArg (List.lookup n) (vy bX false true a)).trans ((rp ..).trans (congrArg (Option.map bX) hb)),λ ρ F=>e▸(by cases b;exact .d _ _ (.bool _);exact .d _ _ .none)⟩
end
open PySem PySem.Calls PySem.W PyProof.Rows Builtin
theorem uY{v:Value}{x:Str}(h:(zJ v).map (·.1)=some x):∃ t,v= .str x t:=by
 obtain ⟨y,_,e⟩:=Option.map_eq_some_iff.mp h
 exact e▸y.2
noncomputable abbrev Oo:KeyKind prog w Str:=strKind prog w
theorem J4.cons{k:Str}{x:Value}{d:D}{kvs:List (Str×Value)}{ds:List D}(h:J4 [] kvs ds)(hv:DV [] d x):J4 [] ((k,x)::kvs) (.tup [.str k,d]::ds):=⟨congrArg Nat.succ h.len,λ j k' x' d' h1 h2=>match j,h1,h2 with
 | 0,h1,h2=>by
  obtain ⟨rfl,rfl⟩:=Prod.mk.inj (Option.some.inj h1)
  exact ⟨d,(Option.some.inj h2).symm,hv⟩
 | j+1,h1,h2=>h.get j k' x' d' h1 h2⟩
theorem H7{G:Prop}(m:List (Str×Str)):∀ es:List DictEntry,es.map eQ=m.map (eE w.params)->(∀ kvs:List (Str×Value),(∀ e∈es,∃ k,Oo.is k e.key=true∧e.hash=Oo.hash k)->Pairs (knd:=Oo) es kvs->kvs.map (·.1)=m.map (·.1)->J4 [] kvs (m.map λ q=> .tup [.str q.1,.str q.2])->G)->G:=by
 induction m with
 | nil=>
  intro es h k
  obtain rfl:=List.map_eq_nil_iff.mp h
  exact k [] (λ e h=>nm h) .nil rfl ⟨rfl,λ j _ _ _ h _=>M.Internal.ns h⟩
 | cons q m ih=>
  intro es h k
  cases es with
  | nil=>exact nomatch h
  | cons e es=>
   obtain ⟨h1,h2⟩:=List.cons.inj h
   obtain ⟨h3,h4⟩:=Prod.mk.inj h1
   obtain ⟨h4,h5⟩:=Prod.mk.inj h4
   obtain ⟨t,ek⟩:=uY h4
   obtain ⟨t',ev⟩:=uY h5
   have hk:Oo.is q.1 e.key=true:=ek▸strKind_is prog w q.1 t
   exact ih es h2 λ kvs a b c d=>k ((q.1,e.val)::kvs) (List.forall_mem_cons.mpr ⟨⟨q.1,hk,h3⟩,a⟩) (.cons hk rfl b) (congrArg (q.1::·) c) (d.cons (ev▸ .str _ _))
theorem wi{α:Type}{a:Array α}(h:a.toList=[]):a=#[]:=Array.toList_inj.mp h
theorem H6{K:Frag}{h:Heap}(X:K.In h)(e:H8 K=some (Ae.map (eE w.params))):qb h:=by
 obtain ⟨o,ho,e⟩:=Option.bind_eq_some_iff.mp e
 by_cases hc:R6 o=true
 ·obtain ⟨⟨es,n,hd⟩,_,e⟩:=Option.map_eq_some_iff.mp ((if_pos hc).symm.trans e)
  exact aM hc λ c1 hc=>aM hc λ c2 hc=>lA hc λ c3 _=>H7 Ae es.toList e λ kvs a b c d=>⟨kvs,n,⟨o,es,X _ _ ho,⟨eq_of_beq c1,Option.isNone_iff_eq_none.mp c2,wi c3⟩,hd,λ e he=>a e (Array.mem_toList_iff.mpr he),b,c▸(by decide +kernel)⟩,d⟩
 ·exact M.Internal.ns ((if_neg hc).symm.trans e)
theorem EQ{o:Obj}(h:c146 o=true):∃ t,o={ cls:= .type "builtin_function_or_method",data:= .fields #[.builtin "str.join",.str "" t] }:=by
 obtain ⟨c,d,x,sl⟩:=o
 refine aM h λ h1 h=>aM h λ h2 h=>lA h λ h3 h=>iw h λ ⟨vs,ev⟩ _ h=>iO h λ a l e h=>iO h λ b l' e' h=>lA h λ e'' h=>aM h λ h4 h=>iw h λ ⟨y,t,et⟩ _ h=>⟨t,?_⟩
 have ev:x=_:=ev
 obtain rfl:y = "" := eq_of_beq h
 have e:=e.trans (congrArg (a::·) (e'.trans (congrArg (b::·) e'')))
 rw [et,eq_of_beq h4] at e
 rw [ev,show vs=#[.builtin "str.join",.str "" t] from Array.toList_inj.mp e,show c=_ from eq_of_beq h1,show d=none from Option.isNone_iff_eq_none.mp h2,show sl=#[] from wi h3]
structure QS(K:Frag):Prop where
 b:Lc K=true
 i:findIn K cC "__init__" = some (some (.ref 115))
 t:typeIn K (.ref 115)=some (.type "function")
 l:nsIn K mainGlobals "law" = some (some (.ref 259))
structure uB(K:Frag)(P:Params):Prop where
 c:JH K
 b:Cg K
 o:QS K
 m:H8 K=some (Ae.map (eE P))
theorem zL{K:Frag}{h:Heap}(X:K.In h)(H:uB K w.params)(t8:∃ o vs,h.get? b8=some o∧o.data= .fields vs):PhB h:=
 aM H.o.b λ h1 q=>aM q λ h2 q=>aM q λ h3 q=>aM q λ h4 q=>aM q λ h5 q=>aM q λ h6 q=>aM q λ h7 h8=>
  ⟨EZ X H.c H.b t8,let ⟨o,ho⟩:=Option.isSome_iff_exists.mp h1;⟨o,X _ _ ho⟩,iw h2 λ o ho h=>let ⟨t,e⟩:=EQ h;⟨t,e▸X _ _ ho⟩,
   iw h3 λ o ho h=>let ⟨vs,_⟩:=Option.isSome_iff_exists.mp h;⟨o,_,X _ _ ho,vs.2⟩,H6 X H.m,
   ⟨iw h4 λ o ho h=>aM h λ c1 h=>aM h λ c2 c3=>let ⟨q,_⟩:=Option.isSome_iff_exists.mp c3;⟨_,4,o,l7 X H.b.mg,eq_of_beq h5,by decide,by decide,by decide,by decide,X _ _ ho,eq_of_beq c1,eq_of_beq c2,q.down⟩,codeHd_of_K X h6⟩,
   ⟨K,X,H.c.n8,h8,H.o.i,H.o.t⟩⟩
noncomputable def EG(h:Heap)(a b:Addr):Option Obj:=if b=a then none else h.get? b
theorem EF(h:Heap)(a b:Addr):(jQ h.objs.size (EG h a)).get? b=EG h a b:=ma (λ x o e=>by
 unfold EG at e
 by_cases q:x=a
 ·exact M.Internal.ns ((if_pos q).symm.trans e)
 ·have e:=(if_neg q).symm.trans e;exact ⟨Heap.lt_size e,ju e⟩) b
structure Nn(h:Heap):Prop where
 k:∃ K:Frag,K.In h∧(∀ b o,K.lookup b=some o->(b≠8∧b≠171)∧o.cls≠ .type "list")∧uB K w.params
 t8:h.get? 8=some (tabObj #[])
 t171:h.get? 171=some (tabObj #[])
theorem mi{h:Heap}{c P:Addr}(x:CodeHd h c P):isCodeTable h P:=by
 obtain ⟨o,vs,file,tf,flags,tg,inF,text,tt,ho,hc,hd,h11,_⟩:=x
 exact ⟨c,o,vs,ho,hc,hd,h11⟩
theorem D5{fs:List (Addr×Obj)}{vals:List Value}{ns:List Int}(h:IntsAre vals ns):DVs fs (ns.map .int) vals:=
 IntsAre.rec (motive:=λ vals ns _=>DVs fs (ns.map .int) vals) .nil (λ n t _ _ _ ih=> .cons _ _ _ _ (.int n t) ih) h
theorem DP{s:Shared}{a:Addr}{vals:List Value}{script:List Int}(H:Nn s.heap)(hob:s.heap.get? a=some (aF "list" vals 0))(hi:IntsAre vals script)(hlen:script.length<=63)(hg:s.gens=#[])
  {Q:Value->Shared->Prop} (hQ:∀ s',OldK s.heap s'.heap->s'.os=s.os->AllBare s'.gens->Q (.bool true) s'):wpAny (model prog w) callerA (call (.ref 259) [.ref a]) Q ah s:=by
 obtain ⟨⟨K,KX,hK,HK⟩,t8,t171⟩:=H
 have hget:=EF s.heap a
 generalize jQ s.heap.objs.size (EG s.heap a)=h₀ at hget
 have nl:∀ {b o},s.heap.get? b=some o->o.cls≠ .type "list" -> b≠a:=λ h n e=>n (congrArg Obj.cls (Option.some.inj (h.symm.trans (e▸hob))))
 have h0of:∀ {b o},b≠a->s.heap.get? b=some o->h₀.get? b=some o:=λ hb h=>(hget _).trans ((if_neg hb).trans h)
 have h0to:∀ {b o},h₀.get? b=some o->b≠a∧s.heap.get? b=some o:=λ {b o} h=>by
  have h:=(hget b).symm.trans h
  by_cases q:b=a
  ·exact M.Internal.ns ((if_pos q).symm.trans h)
  ·exact ⟨q,(if_neg q).symm.trans h⟩
 have X0:K.In h₀:=λ b o e=>h0of (nl (KX b o e) (hK b o e).2) (KX b o e)
 have g8:h₀.get? 8=some (tabObj #[]):=h0of (nl t8 (by decide)) t8
 have g171:h₀.get? 171=some (tabObj #[]):=h0of (nl t171 (by decide)) t171
 have ha0:h₀.get? a=none:=(hget a).trans (if_pos rfl)
 have R:ae w.params h₀ { ρ:=[],F:=⟨jp [.lst (script.map .int)],[(a,aF "list" vals 0)]⟩,pv:=[],gg:=[],tb:=⟨#[],s.os⟩ } [] s:=
  ⟨rfl,List.nodup_nil,λ a h=>nm h,λ a h=>nm h,λ p hp=>List.mem_singleton.mp hp▸⟨hob,ha0⟩,λ p h=>nm h,λ x h=>nm h,λ i ao a h=>M.Internal.ns h,λ b o h _=>(h0to h).2,t8,⟨_,g8⟩,rfl⟩
 have hcr:∀ ab,fR h₀ ab->Cp ab:=λ ab c=>⟨zL (λ b o hb=>c.1 b o (hK b o hb).1.2 (X0 b o hb)) HK ⟨_,_,c.1 8 _ (by decide) g8,rfl⟩,c.2⟩
 have main:=(Kj (zL X0 HK ⟨_,_,g8,rfl⟩) ⟨_,g171,trivial,rfl⟩ hcr (Ul hlen (by decide)) rfl (qY script)).ap _ callerA s [.ref a] rfl ⟨rfl,by decide,by decide⟩ R (.cons _ _ _ _ (.d _ _ (.lst _ vals a 0 (.head _) (D5 hi))) .nil)
 refine qi (aC main λ x s' q gr=>?_)
 have hb:=gr.b (.of_eq hg)
 obtain ⟨ab,v,W₁,σ',g,l,rv,ax,hv⟩:=q
 subst hv
 have ex:x= .bool true:=rv.bool
 subst ex
 have hfz:=(ax.fz _ (l.fs (.head _))).1
 obtain ⟨ps,c',ht,_⟩:=g.2
 have h171:=ax.old 171 _ ht (by decide)
 refine aM HK.o.b λ _ q=>aM q λ _ q=>aM q λ _ q=>aM q λ _ q=>aM q λ _ q=>aM q λ k171 q=>aM q λ k8 _=>hQ s' ⟨λ b o hbo=>?_,λ b o hbo=>?_⟩ (ax.tab.2.2.trans l.tb) hb
 ·by_cases e:b=a
  ·exact .inl (e▸hfz.trans (hob.symm.trans (e▸hbo)))
  ·by_cases e8:b=8
   ·obtain rfl:=Option.some.inj (t8.symm.trans (e8▸hbo))
    exact .inr (.inl ⟨e8▸mi (codeHd_of_K KX k8),rfl,#[],W₁.tb.t,rfl,e8▸ax.tab.1.trans (congrArg (λ x=>some (tabObj x)) (Array.empty_append ..).symm)⟩)
   ·by_cases e1:b=171
    ·obtain rfl:=Option.some.inj (t171.symm.trans (e1▸hbo))
     exact .inr (.inl ⟨e1▸mi (codeHd_of_K KX k171),rfl,#[],ps,rfl,e1▸h171.trans (congrArg (λ x=>some (tabObj x)) (Array.empty_append ..).symm)⟩)
    ·exact .inl (ax.old b o (g.1 b o e1 (h0of e hbo)) e8)
 ·by_cases e:b=a
  ·exact ⟨_,e▸hfz⟩
  ·by_cases e1:b=171
   ·exact ⟨_,e1▸h171⟩
   ·exact ax.old' (g.1 b o e1 (h0of e hbo))
structure QZ(v:World):Prop where
 e:openEnds treeTable prog v 3076=some (vI v)
 s:openSeen vw FU (importedModules prog.main.body) J8 true (vI v)=openGood vw FU
 o:Ld (vI v)=N0 v
theorem sY{α β γ:Type}{o:Option α}{f:α->β}{g:α->γ}{b:β}{c:γ}(d:α)(h:o.map (λ s=>(f s,g s))=some (b,c)):o=some (o.getD d)∧f (o.getD d)=b∧g (o.getD d)=c:=by
 cases o with
 | none=>exact M.Internal.ns h
 | some a=>exact ⟨rfl,congrArg Prod.fst (Option.some.inj h),congrArg Prod.snd (Option.some.inj h)⟩
theorem pO(v:World):QZ v:=
 have e:=sY (f:=λ s=>openSeen vw FU (importedModules prog.main.body) J8 true s) (g:=Ld) (start prog).1 (byRow2 "special-get-raises" (P:=mK) Ig Id v)
 ⟨e.1,e.2.1,e.2.2⟩
theorem Ie:LeftO prog vw FU J8 (λ s=>s) vI 3076:=λ v=>(congrArg (Option.map _) (pO v).e).trans (congrArg (λ x=>some (x,vI v)) (pO v).s)
noncomputable def LE(v:World)(h:Heap):Prop:=∀ b o,(vI v).heap.get? b=some o->h.get? b=some o
section
variable{v:World}{h:Heap}
theorem AY(Y:LE v h):(jk FX (vI v).heap).In h:=λ b o e=>Y b o (mr e).g
theorem F8{b:Addr}{o:Obj}(e:(jk FX h).lookup b=some o):(b≠8∧b≠171)∧o.cls≠ .type "list":=
 have m:=(List.mem_filter.mp (mr e).m).2
 ⟨⟨λ e=>(by subst e;exact ft m),λ e=>(by subst e;exact ft m)⟩,(mr e).n⟩
theorem xd{K:Frag}{a:Addr}(h:∀ o,K.lookup a=some o->False):K.lookup a=none:=by
 cases e:K.lookup a with
 | none=>rfl
 | some o=>exact (h o e).elim
theorem t5{α β γ δ ε:Type}{a a':α}{b b':β}{c c':γ}{d d':δ}{e e':ε}(h:(a,b,c,d,e)=(a',b',c',d',e')):((a=a'∧b=b')∧c=c')∧d=d'∧e=e':=
 ⟨⟨⟨congrArg (·.1) h,congrArg (·.2.1) h⟩,congrArg (·.2.2.1) h⟩,congrArg (·.2.2.2.1) h,congrArg (·.2.2.2.2) h⟩
theorem vH(v:World):uB (jk FX (vI v).heap) v.params:=by
 have n8:=xd (K:=jk FX (vI v).heap) λ o e=>(F8 e).1.1 rfl
 have e:=(pO v).o
 unfold Ld N0 at e
 obtain ⟨⟨⟨a,b⟩,c⟩,_⟩:=t5 e
 generalize jk FX (vI v).heap=K at *
 unfold Rq Q5 at a
 unfold Rr Q6 at b
 unfold Rp Q3 at c
 obtain ⟨⟨⟨a1,a2⟩,a3⟩,a4,a⟩:=t5 a
 obtain ⟨⟨⟨b1,b2⟩,b3⟩,b4,b⟩:=t5 b
 obtain ⟨⟨⟨c1,c2⟩,c3⟩,c4,c5⟩:=t5 c
 exact ⟨⟨n8,a1,a2,a3,a4,congrArg (·.1) a,congrArg (·.2.1) a,congrArg (·.2.2) a⟩,⟨b1,b2,b3,b4,congrArg (·.1) b,congrArg (·.2.1) b,congrArg (·.2.2) b⟩,⟨c1,c2,c3,c4⟩,c5⟩
theorem Gi(v:World):(vI v).heap.get? 8=some (tabObj #[])∧(vI v).heap.get? 171=some (tabObj #[]):=by
 have e:=(pO v).o
 unfold Ld N0 at e
 exact (t5 e).2
theorem Dg(Y:LE w h):Nn h:=⟨⟨_,AY Y,λ _ _=>F8,vH w⟩,Y _ _ (Gi w).1,Y _ _ (Gi w).2⟩
theorem DS(v:World):LawAt v:=Classical.byContradiction λ h=>@Classical.epsilon_spec World (λ w=>¬LawAt w) ⟨v,h⟩ λ _ _ _ _ Y ho hi hl hg _ hQ=>DP (Dg Y) ho hi hl hg hQ
theorem HZ{mg:Str->Option Value}(Y:LE v h)(hm:h.Ns mainGlobals mg):mg "law" = some (.ref 259):=mg_of (AY Y) hm (vH v).o.l
end
noncomputable abbrev SY:OpenRow:=PySem.Challenge.rw_ux0038_01.row
theorem MH:prog.theDef "law" = (defOf vw "law").map λ x=>(x.1.params,x.1.body,x.1.scope):=by kernel_rfl
theorem MI:((defOf vw "law").map λ x=>kwWritten? x.1.params.kwonlyargs x.1.params.kw_defaults)=(defOf vw "law").map λ x=>some x.2:=by kernel_rfl
theorem MG:(defOf vw "law").isSome=true:=by kernel_rfl
theorem DK{P:Params}{h:Heap}{a:Addr}{vals:List Value}{script:List Int}(hl:h.IsList a vals.toArray)(hw:Well P h (.ref a) (ofPy (.list (script.map .int)))):h.get? a=some { cls:= .type "list",data:= .seq vals.toArray 0 }:=by
 have e:ofPy (.list (script.map .int))=WData.list (ofPys (script.map .int)):=rfl
 rw [e] at hw
 obtain ⟨o,ho,hc,n,hd⟩:=hl
 cases hw with
 | list hget _=>
  have hd:=hd.symm.trans (congrArg Obj.data (Option.some.inj (ho.symm.trans hget)))
  injection hd with h1 h2
  rw [h1];exact hget
set_option tactic.hygienic true in
theorem OM{d:DefRec}{kwd:List (Str×PySem.Expr)}(hn:d.name = "law"):WalkO vw FU (PySem.W.XL vw []) LE SY.toRowW d kwd λ f vs=>PySem.call f vs:=by
 intro w aL ac mg mb G Y fa o pm cd doc dV kV ho hd hcd hD hmg hg args vals as hpre hlay hrd hwl hlo
 refine Ground.open G ?_
 intro T B D TE TW
 wrow_args hpre hlay hrd hwl hlo
 rename_i scr _ _ _ _ _ _ _ adr its _ hL _ hW _ hI _ hc1 _
 obtain rfl:=Value.ref.inj (Option.some.inj (hmg.symm.trans ((congrArg mg hn).trans (HZ Y T.g))))
 exact wpAny_mono (DS w ac adr its scr Y (DK hL hW) hI (Nat.le_of_not_lt λ h=>hc1 (Int.ofNat_lt.mpr h)) hg _ λ s' hO hos hb=>⟨.inl ⟨_,_,[],rfl,λ _=>rfl,ReadsW.bool true,by first | rfl | wrow_post,λ _=>⟨List.nodup_nil,λ _ hm=>(nomatch hm)⟩⟩,hO,hos,hb⟩) (λ _ _ x=>x) λ _ _ x=>x.elim
end M.Internal
open PySem PySem.Calls PySem.W PyProof.Rows M.Internal
set_option maxHeartbeats 8000000 in
theorem PySem.Challenge.cw_ux0038_01_holds : PySem.Challenge.rw_ux0038_01.Holds := by
 obtain ⟨⟨d,kwd⟩,hd⟩:=Option.isSome_iff_exists.mp MG
 have hp:=MH
 have hk:=MI
 rw [hd] at hp hk
 refine holds_law Ho λ Ho=>holds_open (q:=vw) (loose:=FU) (Xt:=J8) (XP:=XL vw []) (Yf:=λ s=>s) (Ya:=vI) (YP:=LE) (N:=3076) Ie (λ w s e b o h=>e▸h) (λ w h h' a k b o e=>k b o (a b o e)) (λ s e=>xl_of s (Um.mp e).1) PySem.W.XL.keeps hd hp (Option.some.inj hk) (λ s e=>recFacts_of (Um.mp e).2) (by rfl) Ho (by decide +kernel) ⟨rfl,rfl,rfl,rfl,rfl,by decide +kernel⟩ ?hw (OM (defOf_name hd))
 case hw=>w_witness2
