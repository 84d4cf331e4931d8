import PyProof.Rows.All
import Wide.All
import OpenK.AllK
import Wide.FinOn
import PySem.Challenge.RW_dn0283_11
open PySem PySem.W PyProof.Rows PySem.Challenge
set_option Elab.async false
set_option maxRecDepth 100000
set_option maxHeartbeats 8000000
set_option linter.all false
set_option compiler.extract_closed false
namespace Mine
open PySem.Calls
theorem Wb {α β : Type} {M : Model} {A : Around} {E : Value → Shared → Prop} {s : Shared} {m : Sem α} {f : α → Sem β} {Q : β → Shared → Prop} (h : wpAny M A m (fun a s' => wpAny M A (f a) Q E s') E s) : wpAny M A (m >>= f) Q E s := wpAny_bind h
theorem Wp {α : Type} {M : Model} {A : Around} {E : Value → Shared → Prop} {s : Shared} {a : α} {Q : α → Shared → Prop} (h : Q a s) : wpAny M A (pure a : Sem α) Q E s := wpAny_pure h
structure Ok (g:Heap) (os:OsState) (own:List (Addr × Obj)) (s:Shared):Prop where
 size:g.objs.size≤s.heap.objs.size
 keep:∀ b o,g.get? b=some o→s.heap.get? b=some o
 own:∀ p∈own,s.heap.get? p.1=some p.2∧g.get? p.1=none
 os:s.os=os
 bare:AllBare s.gens
noncomputable def LeaveM(g:Heap)(os:OsState)(R:Result→Shared→Prop)(v:Value)(s':Shared):Prop :=
 ∃ L' m' news',Fr g L' s'.heap m'∧News g L' s'.heap news'∧s'.os=os∧AllBare s'.gens∧(Ok g os news' s'→R (.ok (.ret v)) s')
theorem Rz{g:Heap}{os:OsState}{L:Addr}{m:Str→Option Value}{news:List (Addr × Obj)}{s:Shared}(F:Fr g L s.heap m)(N:News g L s.heap news)(ho:s.os=os)(hb:AllBare s.gens):Ok g os news s:=by
 obtain⟨oL,_,_,hL,_⟩:=F.ns
 exact⟨Nat.le_of_lt (Nat.lt_of_le_of_lt F.above (Heap.lt_size hL)),F.keep,fun p hp=>⟨(N p hp).1,(N p hp).2.2⟩,ho,hb⟩
theorem Ha{prog:Program}{w:World}{A:Around}{s:Shared}{g:Heap}{os:OsState}{own:List (Addr × Obj)}{K:Frag}{p:Program}{zw:List Str}{zr:ExcName→Option Value}{mg mb:Str→Option Value}
  {R:Result→Shared→Prop} {name qual:Str} {params:Arguments} {body:List Stmt} {scope:Scope} {dV kV doc pm cdv ct oc:Value} {an od:Option Addr} {osl:Array (Option Value)} {f:Addr} {args:Args} {binds:List (Str × Value)}
  (H:Ok g os own s) (X:K.In g) (T:Top p zw zr mg mb g)
  (ho:K.lookup f=some ⟨oc,od,.func (fnOf name qual params body scope dV kV doc pm an cdv ct),osl⟩) (hcd:codeIn K cdv qual=true) (zq:A.depth<recursionLimit)
  (zh:BindsTo s (fnOf name qual params body scope dV kV doc pm an cdv ct) args binds) (hloc:∀ y∈binds,scope.names.lookup y.1=some .local)
  (h:∀ L' h₁,Fr g L' h₁ (fun y=>binds.reverse.lookup y)→News g L' h₁ own→(∀ p∈own,p.1<L') →
   wpAny (model prog w) (A.deeper (envOf qual scope L' f cdv)) (execs body (envOf qual scope L' f cdv))
    (fun fl s'=>LeaveM g os R (match fl with | .ret v=>v | _=>.none) s')
    (fun e s'=>wpAny (model prog w) (A.deeper (envOf qual scope L' f cdv)) (leaving (envOf qual scope L' f cdv) e) (fun _ s''=>R (.error e) s'') (fun e' s''=>R (.error e') s'') s')
    { s with heap:=h₁,toks:=s.toks+binds.length })
  (hco:scope.isCoroutine=false:=by rfl) (hgen:scope.isGenerator=false:=by rfl) (hk:scope.kind=.function:=by rfl)
  (hcell:∀ x∈scope.names,x.2≠.cell:=by decide):codeAny (model prog w) A (.call (.ref f) args) R s:=by
 refine codeAny_call_def (fd:=fnOf name qual params body scope dV kV doc pm an cdv ct) (body:=body) (binds:=binds) zq ((X.keeps H.keep) _ _ ho) rfl (T.nolimit.keeps H.keep) (codeRec_of (X.keeps H.keep) hcd) rfl zh hcell hloc (fun h₁ hns hk₁=>?_) hco hgen hk
 refine wpAny_mono (h s.heap.objs.size h₁ ⟨hns,fun b o e=>hk₁ b o (H.keep b o e),H.size⟩
  (fun p hp=>⟨hk₁ _ _ (H.own p hp).1,Nat.ne_of_lt (Heap.lt_size (H.own p hp).1),(H.own p hp).2⟩) (fun p hp=>Heap.lt_size (H.own p hp).1)) (fun fl s' hl=>?_) fun _ _ y=>y
 obtain⟨L',m',news',F',N',hos',hb',k⟩:=hl;exact k (Rz F' N' hos' hb')
theorem Cq{prog:Program}{w:World}{A:Around}{s:Shared}{g:Heap}{os:OsState}{own:List (Addr × Obj)}{K:Frag}{p:Program}{zw:List Str}{zr:ExcName→Option Value}{mg mb:Str→Option Value}
  {R:Result→Shared→Prop} {name qual:Str} {params:Arguments} {body:List Stmt} {scope:Scope} {dV kV doc pm cdv ct oc:Value} {an od:Option Addr} {osl:Array (Option Value)} {f:Addr} {args:Args} {binds:List (Str × Value)} (m0:Str→Option Value)
  (H:Ok g os own s) (X:K.In g) (T:Top p zw zr mg mb g)
  (ho:K.lookup f=some ⟨oc,od,.func (fnOf name qual params body scope dV kV doc pm an cdv ct),osl⟩) (hcd:codeIn K cdv qual=true) (zq:A.depth<recursionLimit)
  (zh:BindsTo s (fnOf name qual params body scope dV kV doc pm an cdv ct) args binds) (hloc:∀ y∈binds,scope.names.lookup y.1=some .local) (hm:(fun y=>binds.reverse.lookup y)=m0) (zd:0<binds.length)
  (h:∀ L' h₁ k,0<k→Fr g L' h₁ m0→News g L' h₁ own→(∀ p∈own,p.1<L') →
   wpAny (model prog w) (A.deeper (envOf qual scope L' f cdv)) (execs body (envOf qual scope L' f cdv))
    (fun fl s'=>LeaveM g os R (match fl with | .ret v=>v | _=>.none) s')
    (fun e s'=>wpAny (model prog w) (A.deeper (envOf qual scope L' f cdv)) (leaving (envOf qual scope L' f cdv) e) (fun _ s''=>R (.error e) s'') (fun e' s''=>R (.error e') s'') s')
    { s with heap:=h₁,toks:=k })
  (hco:scope.isCoroutine=false) (hgen:scope.isGenerator=false) (hk:scope.kind=.function)
  (hcell:∀ x∈scope.names,x.2≠.cell):codeAny (model prog w) A (.call (.ref f) args) R s:=by
 subst hm
 exact Ha H X T ho hcd zq zh hloc (fun L' h₁ F N l=>h L' h₁ _ (Nat.lt_of_lt_of_le zd (Nat.le_add_left ..)) F N l) hco hgen hk hcell
theorem leaveM_{g:Heap}{os:OsState}{L':Addr}{m':Str→Option Value}{news':List (Addr × Obj)}{R:Result→Shared→Prop}{v:Value}{s':Shared}(F':Fr g L' s'.heap m')(N':News g L' s'.heap news')(ho:s'.os=os)(hb:AllBare s'.gens)
  (k:Ok g os news' s'→R (.ok (.ret v)) s'):LeaveM g os R v s':=⟨L',m',news',F',N',ho,hb,k⟩
theorem Nq{g:Heap}{L:Addr}{m:Str→Option Value}{news own rest:List (Addr × Obj)}{s:Shared}{os:OsState}(F:Fr g L s.heap m)(N:News g L s.heap news)(hos:s.os=os)(hb:AllBare s.gens)
  (h1:∀ p∈own,p∈news) (h2:∀ p∈rest,p∈news) (h3:∀ p∈rest,p.1∉own.map (·.1)) :
  Ok (hideAll s.heap (own.map (·.1))) os own s∧(∀ b o,g.get? b=some o→(hideAll s.heap (own.map (·.1))).get? b=some o)∧(∀ p∈rest,(hideAll s.heap (own.map (·.1))).get? p.1=some p.2) ∧
  (∀ s' own',Ok (hideAll s.heap (own.map (·.1))) os own' s'→Fr g L s'.heap m∧News g L s'.heap (own'++rest)∧s'.os=os∧AllBare s'.gens):=by
 have nm:∀ b o,g.get? b=some o→b∉own.map (·.1):=fun b o e q=>by
  obtain⟨p,hp,rfl⟩:=List.mem_map.mp q;rw [(N p (h1 p hp)).2.2] at e;cases e
 have st:∀ b o,g.get? b=some o→(hideAll s.heap (own.map (·.1))).get? b=some o:=fun b o e=>hideAll_get _ (F.keep b o e) (nm b o e)
 have rs:∀ p∈rest,(hideAll s.heap (own.map (·.1))).get? p.1=some p.2:=fun p hp=>hideAll_get _ (N p (h2 p hp)).1 (h3 p hp)
 obtain⟨oL,es,ep,hL,hLd,hLk,hLf⟩:=F.ns
 have nL:L∉own.map (·.1):=fun q=>by
  obtain⟨p,hp,e⟩:=List.mem_map.mp q;exact(N p (h1 p hp)).2.1 e
 have hLg:=hideAll_get (own.map (·.1)) hL nL
 refine⟨⟨Nat.le_of_eq (hideAll_size _ _),fun b o e=>of_hideAll _ e,fun p hp=>⟨(N p (h1 p hp)).1,hideAll_none _ (List.mem_map_of_mem hp)⟩,hos,hb⟩,st,rs,fun s' own' H=>⟨⟨⟨oL,es,ep,H.keep L oL hLg,hLd,hLk,hLf⟩,fun b o e=>H.keep b o (st b o e),F.above⟩,fun p hp=>?_,H.os,H.bare⟩⟩
 rcases List.mem_append.mp hp with q | q
 ·refine⟨(H.own p q).1,fun z=>?_,?_⟩
  ·have:=(H.own p q).2;rw [z,hLg] at this;cases this
  ·cases z:g.get? p.1 with
   | none=>rfl
   | some o=>have:=(H.own p q).2;rw [st _ _ z] at this;cases this
 ·exact⟨H.keep _ _ (rs p q),(N p (h2 p q)).2.1,(N p (h2 p q)).2.2⟩
theorem Fc{α:Type}{p:α→Prop}{a:α}{l:List α}(h:p a)(t:∀ x∈l,p x):∀ x∈a::l,p x:=List.forall_mem_cons.mpr ⟨h,t⟩
theorem Fp{α:Type}{p:α→Prop}{a b:List α}(h:∀ x∈a,p x)(t:∀ x∈b,p x):∀ x∈a++b,p x:=List.forall_mem_append.mpr ⟨h,t⟩
theorem Ml{α:Type}{a:α}{s:List α}(t:List α)(h:a∈s):a∈s++t:=List.mem_append_left t h
theorem Mr{α:Type}{a:α}{t:List α}(s:List α)(h:a∈t):a∈s++t:=List.mem_append_right s h
theorem Nl{a b:Nat}(h:¬ b<a):a≤b:=Nat.le_of_not_lt h
theorem Nt{a b:Nat}(h:¬ b≤a):a<b:=Nat.lt_of_not_le h
theorem El{a b:Nat}(h:a=b):a≤b:=Nat.le_of_eq h
theorem Es{a b:Nat}(h:a=b):b≤a:=Nat.le_of_eq h.symm
end Mine
namespace Mine
open PySem.Calls
set_option genSizeOf false
set_option genInjectivity false
inductive Ln where
 | k (n:Nat) | v (i:Nat) | a (x y:Ln) | m (n:Nat) (x:Ln) | w (x:Ln) (n:Nat) | c (n:Nat) (x y t:Ln)
noncomputable abbrev V0:Ln:=.v 0
noncomputable abbrev V1:Ln:=.v 1
noncomputable abbrev V2:Ln:=.v 2
noncomputable abbrev V3:Ln:=.v 3
noncomputable abbrev V4:Ln:=.v 4
noncomputable abbrev V5:Ln:=.v 5
noncomputable abbrev V6:Ln:=.v 6
noncomputable abbrev V7:Ln:=.v 7
noncomputable abbrev V8:Ln:=.v 8
noncomputable abbrev V9:Ln:=.v 9
noncomputable abbrev K0:Ln:=.k 0
noncomputable abbrev K1:Ln:=.k 1
noncomputable abbrev Ln.s(x:Ln):Ln:=.a x (.k 1)
noncomputable abbrev Ln.e(x y t:Ln):Ln:=.c 1 x y t
noncomputable def Ln.at(c:List Nat):Nat→Nat:=@List.rec Nat (fun _=>Nat→Nat) (fun _=>0) (fun h _ ih i=>@Nat.rec (fun _=>Nat) h (fun j _=>ih j) i) c
noncomputable def Ln.d(c:List Nat)(e:Ln):Nat:=@Ln.rec (fun _=>Nat) (fun n=>n) (fun i=>Ln.at c i) (fun _ _ x y=>x+y) (fun n _ x=>n * x) (fun _ n x=>x * n) (fun _ _ _ _ _ _ _=>0) e
noncomputable def Ln.add:List Nat→List Nat→List Nat:=fun x=>@List.rec Nat (fun _=>List Nat→List Nat) (fun y=>y) (fun a s ih y=>@List.rec Nat (fun _=>List Nat) (a::s) (fun b t _=>(a+b)::ih t) y) x
noncomputable def Ln.mul(n:Nat):List Nat→List Nat:=fun x=>@List.rec Nat (fun _=>List Nat) [] (fun a _ ih=>n * a::ih) x
noncomputable def Ln.un:Nat→List Nat:=fun i=>@Nat.rec (fun _=>List Nat) [1] (fun _ r=>0::r) i
noncomputable def Ln.p(e:Ln):List Nat:=@Ln.rec (fun _=>List Nat) (fun n=>[n]) (fun i=>0::Ln.un i) (fun _ _ x y=>Ln.add x y) (fun n _ x=>Ln.mul n x) (fun _ n x=>Ln.mul n x) (fun _ _ _ _ _ _ _=>[]) e
noncomputable def Ln.dot(x c:List Nat):Nat:=@List.rec Nat (fun _=>List Nat→Nat) (fun _=>0) (fun a _ ih c=>@List.rec Nat (fun _=>Nat) 0 (fun b t _=>a * b+ih t) c) x c
noncomputable def Ln.ge:List Nat→List Nat→Bool:=fun x=>@List.rec Nat (fun _=>List Nat→Bool) (fun y=>@List.rec Nat (fun _=>Bool) true (fun b _ r=>and (Nat.ble b 0) r) y) (fun a _ ih y=>@List.rec Nat (fun _=>Bool) true (fun b t _=>and (Nat.ble b a) (ih t)) y) x
noncomputable def Ln.l(e:Ln):List Nat:=@Ln.rec (fun _=>List Nat) (fun _=>[]) (fun _=>[]) (fun _ _ _ _=>[]) (fun _ _ _=>[]) (fun _ _ _=>[]) (fun n x _ _ _ _ t=>Ln.add (Ln.mul n (Ln.p x)) t) e
noncomputable def Ln.r(e:Ln):List Nat:=@Ln.rec (fun _=>List Nat) (fun _=>[1]) (fun _=>[1]) (fun _ _ _ _=>[1]) (fun _ _ _=>[1]) (fun _ _ _=>[1]) (fun n _ y _ _ _ t=>Ln.add (Ln.mul n (Ln.p y)) t) e
noncomputable def Ln.den(c:List Nat)(e:Ln):Prop:=@Ln.rec (fun _=>Prop) (fun _=>False) (fun _=>False) (fun _ _ _ _=>False) (fun _ _ _=>False) (fun _ _ _=>False) (fun _ x y _ _ _ t=>Ln.d c x≤Ln.d c y→t) e
theorem Ln.dot_add(x y c:List Nat):Ln.dot (Ln.add x y) c=Ln.dot x c+Ln.dot y c:=by
 induction x generalizing y c with
 | nil=>exact(Nat.zero_add _).symm
 | cons a s ih =>
  cases y with
  | nil=>rfl
  | cons b t =>
   cases c with
   | nil=>rfl
   | cons e u =>
    show (a+b) * e+Ln.dot (Ln.add s t) u=a * e+Ln.dot s u+(b * e+Ln.dot t u)
    rw [ih,Nat.add_mul];exact Nat.add_add_add_comm ..
theorem Ln.dot_mul(n:Nat)(x c:List Nat):Ln.dot (Ln.mul n x) c=n * Ln.dot x c:=by
 induction x generalizing c with
 | nil=>rfl
 | cons a s ih =>
  cases c with
  | nil=>rfl
  | cons e u =>
   show n * a * e+Ln.dot (Ln.mul n s) u=n * (a * e+Ln.dot s u)
   rw [ih,Nat.mul_add,Nat.mul_assoc]
theorem Ln.dot_un(i:Nat)(c:List Nat):Ln.dot (Ln.un i) c=Ln.at c i:=by
 induction i generalizing c with
 | zero =>
  cases c with
  | nil=>rfl
  | cons a t=>show 1 * a+0=a;rw [Nat.one_mul];rfl
 | succ i ih =>
  cases c with
  | nil=>rfl
  | cons a t=>show 0 * a+Ln.dot (Ln.un i) t=Ln.at t i;rw [ih,Nat.zero_mul,Nat.zero_add]
theorem Ln.dot_p(e:Ln)(c:List Nat):Ln.dot (Ln.p e) (1::c)=Ln.d c e:=by
 induction e with
 | k n=>show n * 1+0=n;rw [Nat.mul_one];rfl
 | v i=>show 0 * 1+Ln.dot (Ln.un i) c=Ln.at c i;rw [Ln.dot_un,Nat.zero_mul,Nat.zero_add]
 | a x y h1 h2=>show Ln.dot (Ln.add (Ln.p x) (Ln.p y)) _=Ln.d c x+Ln.d c y;rw [Ln.dot_add,h1,h2]
 | m n x h=>show Ln.dot (Ln.mul n (Ln.p x)) _=n * Ln.d c x;rw [Ln.dot_mul,h]
 | w x n h=>show Ln.dot (Ln.mul n (Ln.p x)) _=Ln.d c x * n;rw [Ln.dot_mul,h,Nat.mul_comm]
 | c=>rfl
theorem Ln.dot_ge(x y c:List Nat)(h:Ln.ge x y=true):Ln.dot y c≤Ln.dot x c:=by
 induction x generalizing y c with
 | nil =>
  induction y generalizing c with
  | nil=>exact Nat.le_refl _
  | cons b t ih =>
   have h':=Bool.and_eq_true_iff.mp (show (Nat.ble b 0 && Ln.ge [] t)=true from h)
   cases c with
   | nil=>exact Nat.le_refl _
   | cons e u =>
    show b * e+Ln.dot t u≤0
    rw [Nat.le_zero.mp (Nat.le_of_ble_eq_true h'.1),Nat.zero_mul,Nat.zero_add];exact ih u h'.2
 | cons a s ih =>
  cases y with
  | nil=>exact Nat.zero_le _
  | cons b t =>
   have h':=Bool.and_eq_true_iff.mp (show (Nat.ble b a && Ln.ge s t)=true from h)
   cases c with
   | nil=>exact Nat.le_refl _
   | cons e u=>exact Nat.add_le_add (Nat.mul_le_mul_right _ (Nat.le_of_ble_eq_true h'.1)) (ih t u h'.2)
theorem Ln.fk'(c:List Nat)(e:Ln):∀ X Y:Nat,X≤Y→Y+Ln.dot (Ln.r e) (1::c)≤X+Ln.dot (Ln.l e) (1::c)→Ln.den c e:=by
 have base:∀ X Y:Nat,X≤Y→Y+(1 * 1+0)≤X+0→False:=fun X Y h1 h2=>Nat.lt_irrefl _ (Nat.lt_of_lt_of_le (Nat.lt_succ_of_le h1) h2)
 induction e with
 | k=>exact base
 | v=>exact base
 | a=>exact base
 | m=>exact base
 | w=>exact base
 | c n x y t h1 h2 ih =>
  intro X Y h1 h2 hxy;refine ih (X+n * Ln.d c x) (Y+n * Ln.d c y) (Nat.add_le_add h1 (Nat.mul_le_mul_left _ hxy)) ?_
  have e1:Ln.dot (Ln.l (.c n x y t)) (1::c)=n * Ln.d c x+Ln.dot (Ln.l t) (1::c):=by
   show Ln.dot (Ln.add (Ln.mul n (Ln.p x)) (Ln.l t)) _=_
   rw [Ln.dot_add,Ln.dot_mul,Ln.dot_p]
  have e2:Ln.dot (Ln.r (.c n x y t)) (1::c)=n * Ln.d c y+Ln.dot (Ln.r t) (1::c):=by
   show Ln.dot (Ln.add (Ln.mul n (Ln.p y)) (Ln.r t)) _=_
   rw [Ln.dot_add,Ln.dot_mul,Ln.dot_p]
  rw [e1,e2] at h2;rw [Nat.add_assoc,Nat.add_assoc];exact h2
theorem Ln.sba{a b:Nat}:a≤a - b+b:=Nat.le_add_of_sub_le (Nat.le_refl _)
theorem fk(c:List Nat)(e:Ln)(h:Ln.ge (Ln.l e) (Ln.r e)=true):Ln.den c e :=
 Ln.fk' c e 0 0 (Nat.le_refl _) (Nat.add_le_add_left (Ln.dot_ge _ _ _ h) 0)
end Mine
namespace Mine
open PySem.Calls
noncomputable def cx{α:Type}(ne:Nonempty α)(P:α→Prop):α:=@Classical.epsilon α ne fun a=>¬ P a
theorem Au{α:Type}(ne:Nonempty α){P:α→Prop}(h:P (cx ne P)):∀ a,P a:=fun a =>
 Classical.byContradiction fun hn=>(@Classical.epsilon_spec_aux α ne (fun a=>¬ P a) ⟨a,hn⟩) h
def Tie{α:Sort _}(_:α)(_:Prop):Prop:=True
abbrev Fa{α:Type}(P:α→Prop):Prop:=∀ a,P a
theorem tie{α:Type}{P:α→Prop}:Tie P (∀ a,P a):=trivial
theorem Bo{α:Type}(ne:Nonempty α){P:α→Prop}{T:Prop}(_:Tie P T)(h:P (cx ne P)):∀ a,P a:=Au ne h
noncomputable def cx2{α0 α1:Type}(ne:Nonempty (α0 × α1))(P:α0→α1→Prop):α0 × α1:=cx ne fun t=>P t.1 t.2
abbrev Fa2{α0 α1:Type}(P:α0→α1→Prop):Prop:=∀ a0 a1,P a0 a1
theorem Gm{α0 α1:Type}(ne:Nonempty (α0 × α1)){P:α0→α1→Prop}(h:P (cx2 ne P).1 (cx2 ne P).2):∀ a0 a1,P a0 a1:=fun a0 a1=>Au ne (P:=fun t=>P t.1 t.2) h (a0,a1)
theorem Bn{α0 α1:Type}{P:α0→α1→Prop}:Tie P (∀ a0 a1,P a0 a1):=trivial
theorem Al{α0 α1:Type}(ne:Nonempty (α0 × α1)){P:α0→α1→Prop}{T:Prop}(_:Tie P T)(h:P (cx2 ne P).1 (cx2 ne P).2):∀ a0 a1,P a0 a1:=Gm ne h
noncomputable def cx3{α0 α1 α2:Type}(ne:Nonempty (α0 × α1 × α2))(P:α0→α1→α2→Prop):α0 × α1 × α2:=cx ne fun t=>P t.1 t.2.1 t.2.2
abbrev Fa3{α0 α1 α2:Type}(P:α0→α1→α2→Prop):Prop:=∀ a0 a1 a2,P a0 a1 a2
theorem Ec{α0 α1 α2:Type}(ne:Nonempty (α0 × α1 × α2)){P:α0→α1→α2→Prop}(h:P (cx3 ne P).1 (cx3 ne P).2.1 (cx3 ne P).2.2):∀ a0 a1 a2,P a0 a1 a2:=fun a0 a1 a2=>Au ne (P:=fun t=>P t.1 t.2.1 t.2.2) h (a0,a1,a2)
theorem Bu{α0 α1 α2:Type}{P:α0→α1→α2→Prop}:Tie P (∀ a0 a1 a2,P a0 a1 a2):=trivial
theorem Am{α0 α1 α2:Type}(ne:Nonempty (α0 × α1 × α2)){P:α0→α1→α2→Prop}{T:Prop}(_:Tie P T)(h:P (cx3 ne P).1 (cx3 ne P).2.1 (cx3 ne P).2.2):∀ a0 a1 a2,P a0 a1 a2:=Ec ne h
noncomputable def cx4{α0 α1 α2 α3:Type}(ne:Nonempty (α0 × α1 × α2 × α3))(P:α0→α1→α2→α3→Prop):α0 × α1 × α2 × α3:=cx ne fun t=>P t.1 t.2.1 t.2.2.1 t.2.2.2
abbrev Fa4{α0 α1 α2 α3:Type}(P:α0→α1→α2→α3→Prop):Prop:=∀ a0 a1 a2 a3,P a0 a1 a2 a3
theorem Ed{α0 α1 α2 α3:Type}(ne:Nonempty (α0 × α1 × α2 × α3)){P:α0→α1→α2→α3→Prop}(h:P (cx4 ne P).1 (cx4 ne P).2.1 (cx4 ne P).2.2.1 (cx4 ne P).2.2.2):∀ a0 a1 a2 a3,P a0 a1 a2 a3:=fun a0 a1 a2 a3=>Au ne (P:=fun t=>P t.1 t.2.1 t.2.2.1 t.2.2.2) h (a0,a1,a2,a3)
theorem Ek{α0 α1 α2 α3:Type}{P:α0→α1→α2→α3→Prop}:Tie P (∀ a0 a1 a2 a3,P a0 a1 a2 a3):=trivial
theorem Bk{α0 α1 α2 α3:Type}(ne:Nonempty (α0 × α1 × α2 × α3)){P:α0→α1→α2→α3→Prop}{T:Prop}(_:Tie P T)(h:P (cx4 ne P).1 (cx4 ne P).2.1 (cx4 ne P).2.2.1 (cx4 ne P).2.2.2):∀ a0 a1 a2 a3,P a0 a1 a2 a3:=Ed ne h
noncomputable def cx5{α0 α1 α2 α3 α4:Type}(ne:Nonempty (α0 × α1 × α2 × α3 × α4))(P:α0→α1→α2→α3→α4→Prop):α0 × α1 × α2 × α3 × α4:=cx ne fun t=>P t.1 t.2.1 t.2.2.1 t.2.2.2.1 t.2.2.2.2
abbrev Fa5{α0 α1 α2 α3 α4:Type}(P:α0→α1→α2→α3→α4→Prop):Prop:=∀ a0 a1 a2 a3 a4,P a0 a1 a2 a3 a4
theorem Et{α0 α1 α2 α3 α4:Type}(ne:Nonempty (α0 × α1 × α2 × α3 × α4)){P:α0→α1→α2→α3→α4→Prop}(h:P (cx5 ne P).1 (cx5 ne P).2.1 (cx5 ne P).2.2.1 (cx5 ne P).2.2.2.1 (cx5 ne P).2.2.2.2):∀ a0 a1 a2 a3 a4,P a0 a1 a2 a3 a4:=fun a0 a1 a2 a3 a4=>Au ne (P:=fun t=>P t.1 t.2.1 t.2.2.1 t.2.2.2.1 t.2.2.2.2) h (a0,a1,a2,a3,a4)
theorem Lm{α0 α1 α2 α3 α4:Type}{P:α0→α1→α2→α3→α4→Prop}:Tie P (∀ a0 a1 a2 a3 a4,P a0 a1 a2 a3 a4):=trivial
theorem Ee{α0 α1 α2 α3 α4:Type}(ne:Nonempty (α0 × α1 × α2 × α3 × α4)){P:α0→α1→α2→α3→α4→Prop}{T:Prop}(_:Tie P T)(h:P (cx5 ne P).1 (cx5 ne P).2.1 (cx5 ne P).2.2.1 (cx5 ne P).2.2.2.1 (cx5 ne P).2.2.2.2):∀ a0 a1 a2 a3 a4,P a0 a1 a2 a3 a4:=Et ne h
noncomputable def cx6{α0 α1 α2 α3 α4 α5:Type}(ne:Nonempty (α0 × α1 × α2 × α3 × α4 × α5))(P:α0→α1→α2→α3→α4→α5→Prop):α0 × α1 × α2 × α3 × α4 × α5:=cx ne fun t=>P t.1 t.2.1 t.2.2.1 t.2.2.2.1 t.2.2.2.2.1 t.2.2.2.2.2
abbrev Fa6{α0 α1 α2 α3 α4 α5:Type}(P:α0→α1→α2→α3→α4→α5→Prop):Prop:=∀ a0 a1 a2 a3 a4 a5,P a0 a1 a2 a3 a4 a5
theorem Dq{α0 α1 α2 α3 α4 α5:Type}(ne:Nonempty (α0 × α1 × α2 × α3 × α4 × α5)){P:α0→α1→α2→α3→α4→α5→Prop}(h:P (cx6 ne P).1 (cx6 ne P).2.1 (cx6 ne P).2.2.1 (cx6 ne P).2.2.2.1 (cx6 ne P).2.2.2.2.1 (cx6 ne P).2.2.2.2.2):∀ a0 a1 a2 a3 a4 a5,P a0 a1 a2 a3 a4 a5:=fun a0 a1 a2 a3 a4 a5=>Au ne (P:=fun t=>P t.1 t.2.1 t.2.2.1 t.2.2.2.1 t.2.2.2.2.1 t.2.2.2.2.2) h (a0,a1,a2,a3,a4,a5)
theorem Nx{α0 α1 α2 α3 α4 α5:Type}{P:α0→α1→α2→α3→α4→α5→Prop}:Tie P (∀ a0 a1 a2 a3 a4 a5,P a0 a1 a2 a3 a4 a5):=trivial
theorem Ew{α0 α1 α2 α3 α4 α5:Type}(ne:Nonempty (α0 × α1 × α2 × α3 × α4 × α5)){P:α0→α1→α2→α3→α4→α5→Prop}{T:Prop}(_:Tie P T)(h:P (cx6 ne P).1 (cx6 ne P).2.1 (cx6 ne P).2.2.1 (cx6 ne P).2.2.2.1 (cx6 ne P).2.2.2.2.1 (cx6 ne P).2.2.2.2.2):∀ a0 a1 a2 a3 a4 a5,P a0 a1 a2 a3 a4 a5:=Dq ne h
noncomputable def cx7{α0 α1 α2 α3 α4 α5 α6:Type}(ne:Nonempty (α0 × α1 × α2 × α3 × α4 × α5 × α6))(P:α0→α1→α2→α3→α4→α5→α6→Prop):α0 × α1 × α2 × α3 × α4 × α5 × α6:=cx ne fun t=>P t.1 t.2.1 t.2.2.1 t.2.2.2.1 t.2.2.2.2.1 t.2.2.2.2.2.1 t.2.2.2.2.2.2
abbrev Fa7{α0 α1 α2 α3 α4 α5 α6:Type}(P:α0→α1→α2→α3→α4→α5→α6→Prop):Prop:=∀ a0 a1 a2 a3 a4 a5 a6,P a0 a1 a2 a3 a4 a5 a6
theorem Eu{α0 α1 α2 α3 α4 α5 α6:Type}(ne:Nonempty (α0 × α1 × α2 × α3 × α4 × α5 × α6)){P:α0→α1→α2→α3→α4→α5→α6→Prop}(h:P (cx7 ne P).1 (cx7 ne P).2.1 (cx7 ne P).2.2.1 (cx7 ne P).2.2.2.1 (cx7 ne P).2.2.2.2.1 (cx7 ne P).2.2.2.2.2.1 (cx7 ne P).2.2.2.2.2.2):∀ a0 a1 a2 a3 a4 a5 a6,P a0 a1 a2 a3 a4 a5 a6:=fun a0 a1 a2 a3 a4 a5 a6=>Au ne (P:=fun t=>P t.1 t.2.1 t.2.2.1 t.2.2.2.1 t.2.2.2.2.1 t.2.2.2.2.2.1 t.2.2.2.2.2.2) h (a0,a1,a2,a3,a4,a5,a6)
theorem Kc{α0 α1 α2 α3 α4 α5 α6:Type}{P:α0→α1→α2→α3→α4→α5→α6→Prop}:Tie P (∀ a0 a1 a2 a3 a4 a5 a6,P a0 a1 a2 a3 a4 a5 a6):=trivial
theorem Dr{α0 α1 α2 α3 α4 α5 α6:Type}(ne:Nonempty (α0 × α1 × α2 × α3 × α4 × α5 × α6)){P:α0→α1→α2→α3→α4→α5→α6→Prop}{T:Prop}(_:Tie P T)(h:P (cx7 ne P).1 (cx7 ne P).2.1 (cx7 ne P).2.2.1 (cx7 ne P).2.2.2.1 (cx7 ne P).2.2.2.2.1 (cx7 ne P).2.2.2.2.2.1 (cx7 ne P).2.2.2.2.2.2):∀ a0 a1 a2 a3 a4 a5 a6,P a0 a1 a2 a3 a4 a5 a6:=Eu ne h
noncomputable def cx8{α0 α1 α2 α3 α4 α5 α6 α7:Type}(ne:Nonempty (α0 × α1 × α2 × α3 × α4 × α5 × α6 × α7))(P:α0→α1→α2→α3→α4→α5→α6→α7→Prop):α0 × α1 × α2 × α3 × α4 × α5 × α6 × α7:=cx ne fun t=>P t.1 t.2.1 t.2.2.1 t.2.2.2.1 t.2.2.2.2.1 t.2.2.2.2.2.1 t.2.2.2.2.2.2.1 t.2.2.2.2.2.2.2
abbrev Fa8{α0 α1 α2 α3 α4 α5 α6 α7:Type}(P:α0→α1→α2→α3→α4→α5→α6→α7→Prop):Prop:=∀ a0 a1 a2 a3 a4 a5 a6 a7,P a0 a1 a2 a3 a4 a5 a6 a7
theorem Ab{α0 α1 α2 α3 α4 α5 α6 α7:Type}(ne:Nonempty (α0 × α1 × α2 × α3 × α4 × α5 × α6 × α7)){P:α0→α1→α2→α3→α4→α5→α6→α7→Prop}(h:P (cx8 ne P).1 (cx8 ne P).2.1 (cx8 ne P).2.2.1 (cx8 ne P).2.2.2.1 (cx8 ne P).2.2.2.2.1 (cx8 ne P).2.2.2.2.2.1 (cx8 ne P).2.2.2.2.2.2.1 (cx8 ne P).2.2.2.2.2.2.2):∀ a0 a1 a2 a3 a4 a5 a6 a7,P a0 a1 a2 a3 a4 a5 a6 a7:=fun a0 a1 a2 a3 a4 a5 a6 a7=>Au ne (P:=fun t=>P t.1 t.2.1 t.2.2.1 t.2.2.2.1 t.2.2.2.2.1 t.2.2.2.2.2.1 t.2.2.2.2.2.2.1 t.2.2.2.2.2.2.2) h (a0,a1,a2,a3,a4,a5,a6,a7)
theorem Qn{α0 α1 α2 α3 α4 α5 α6 α7:Type}{P:α0→α1→α2→α3→α4→α5→α6→α7→Prop}:Tie P (∀ a0 a1 a2 a3 a4 a5 a6 a7,P a0 a1 a2 a3 a4 a5 a6 a7):=trivial
theorem Fs{α0 α1 α2 α3 α4 α5 α6 α7:Type}(ne:Nonempty (α0 × α1 × α2 × α3 × α4 × α5 × α6 × α7)){P:α0→α1→α2→α3→α4→α5→α6→α7→Prop}{T:Prop}(_:Tie P T)(h:P (cx8 ne P).1 (cx8 ne P).2.1 (cx8 ne P).2.2.1 (cx8 ne P).2.2.2.1 (cx8 ne P).2.2.2.2.1 (cx8 ne P).2.2.2.2.2.1 (cx8 ne P).2.2.2.2.2.2.1 (cx8 ne P).2.2.2.2.2.2.2):∀ a0 a1 a2 a3 a4 a5 a6 a7,P a0 a1 a2 a3 a4 a5 a6 a7:=Ab ne h
theorem neI{α:Type}[Inhabited α]:Nonempty α:=⟨default⟩
theorem neS:Nonempty Shared:=⟨{}⟩
theorem Cb{β:Type}[Inhabited β]:Nonempty (Shared × β):=⟨({},default)⟩
theorem Ao{β:Type}[Inhabited β](w:Nonempty World):Nonempty (World × Around × Shared × β):=w.elim fun w=>⟨(w,{},{},default)⟩
theorem neW:Nonempty World:=⟨⟨fun _ _=>0,{ strHash:=fun _=>0,shareClass:=fun _=>0,mergeTok:=fun t=>t,idOf:=fun _=>0,idOfShared:=fun _ _=>0,followText:=fun _=>false,idOfImm:=fun _=>0 }⟩⟩
theorem nn1{a b:Addr}{l:List Addr}(h:a∉b::l):¬ a=b:=fun e=>h (e ▸ .head _)
theorem nn2{a b:Addr}{l:List Addr}(h:a∉b::l):a∉l:=fun m=>h (.tail _ m)
theorem Ah{a:Addr}{l:List Addr}(h:(a::l).Nodup):a∉l:=(List.nodup_cons.mp h).1
theorem Ad{a:Addr}{l:List Addr}(h:(a::l).Nodup):l.Nodup:=(List.nodup_cons.mp h).2
theorem ndk4{a0 a1 a2 a3:Addr}{G:Prop}(nd:([a0,a1,a2,a3]:List Addr).Nodup)(h:¬ a0=a1→¬ a0=a2→¬ a0=a3→¬ a1=a2→¬ a1=a3→¬ a2=a3→G):G :=
 h (nn1 (Ah nd)) (nn1 (nn2 (Ah nd))) (nn1 (nn2 (nn2 (Ah nd)))) (nn1 (Ah (Ad nd))) (nn1 (nn2 (Ah (Ad nd)))) (nn1 (Ah (Ad (Ad nd))))
theorem ndk5{a0 a1 a2 a3 a4:Addr}{G:Prop}(nd:([a0,a1,a2,a3,a4]:List Addr).Nodup)(h:¬ a0=a1→¬ a0=a2→¬ a0=a3→¬ a0=a4→¬ a1=a2→¬ a1=a3→¬ a1=a4→¬ a2=a3→¬ a2=a4→¬ a3=a4→G):G :=
 h (nn1 (Ah nd)) (nn1 (nn2 (Ah nd))) (nn1 (nn2 (nn2 (Ah nd)))) (nn1 (nn2 (nn2 (nn2 (Ah nd))))) (nn1 (Ah (Ad nd))) (nn1 (nn2 (Ah (Ad nd)))) (nn1 (nn2 (nn2 (Ah (Ad nd))))) (nn1 (Ah (Ad (Ad nd)))) (nn1 (nn2 (Ah (Ad (Ad nd))))) (nn1 (Ah (Ad (Ad (Ad nd)))))
theorem ndk6{a0 a1 a2 a3 a4 a5:Addr}{G:Prop}(nd:([a0,a1,a2,a3,a4,a5]:List Addr).Nodup)(h:¬ a0=a1→¬ a0=a2→¬ a0=a3→¬ a0=a4→¬ a0=a5→¬ a1=a2→¬ a1=a3→¬ a1=a4→¬ a1=a5→¬ a2=a3→¬ a2=a4→¬ a2=a5→¬ a3=a4→¬ a3=a5→¬ a4=a5→G):G :=
 h (nn1 (Ah nd)) (nn1 (nn2 (Ah nd))) (nn1 (nn2 (nn2 (Ah nd)))) (nn1 (nn2 (nn2 (nn2 (Ah nd))))) (nn1 (nn2 (nn2 (nn2 (nn2 (Ah nd)))))) (nn1 (Ah (Ad nd))) (nn1 (nn2 (Ah (Ad nd)))) (nn1 (nn2 (nn2 (Ah (Ad nd))))) (nn1 (nn2 (nn2 (nn2 (Ah (Ad nd)))))) (nn1 (Ah (Ad (Ad nd)))) (nn1 (nn2 (Ah (Ad (Ad nd))))) (nn1 (nn2 (nn2 (Ah (Ad (Ad nd)))))) (nn1 (Ah (Ad (Ad (Ad nd))))) (nn1 (nn2 (Ah (Ad (Ad (Ad nd)))))) (nn1 (Ah (Ad (Ad (Ad (Ad nd))))))
theorem ndk7{a0 a1 a2 a3 a4 a5 a6:Addr}{G:Prop}(nd:([a0,a1,a2,a3,a4,a5,a6]:List Addr).Nodup)(h:¬ a0=a1→¬ a0=a2→¬ a0=a3→¬ a0=a4→¬ a0=a5→¬ a0=a6→¬ a1=a2→¬ a1=a3→¬ a1=a4→¬ a1=a5→¬ a1=a6→¬ a2=a3→¬ a2=a4→¬ a2=a5→¬ a2=a6→¬ a3=a4→¬ a3=a5→¬ a3=a6→¬ a4=a5→¬ a4=a6→¬ a5=a6→G):G :=
 h (nn1 (Ah nd)) (nn1 (nn2 (Ah nd))) (nn1 (nn2 (nn2 (Ah nd)))) (nn1 (nn2 (nn2 (nn2 (Ah nd))))) (nn1 (nn2 (nn2 (nn2 (nn2 (Ah nd)))))) (nn1 (nn2 (nn2 (nn2 (nn2 (nn2 (Ah nd))))))) (nn1 (Ah (Ad nd))) (nn1 (nn2 (Ah (Ad nd)))) (nn1 (nn2 (nn2 (Ah (Ad nd))))) (nn1 (nn2 (nn2 (nn2 (Ah (Ad nd)))))) (nn1 (nn2 (nn2 (nn2 (nn2 (Ah (Ad nd))))))) (nn1 (Ah (Ad (Ad nd)))) (nn1 (nn2 (Ah (Ad (Ad nd))))) (nn1 (nn2 (nn2 (Ah (Ad (Ad nd)))))) (nn1 (nn2 (nn2 (nn2 (Ah (Ad (Ad nd))))))) (nn1 (Ah (Ad (Ad (Ad nd))))) (nn1 (nn2 (Ah (Ad (Ad (Ad nd)))))) (nn1 (nn2 (nn2 (Ah (Ad (Ad (Ad nd))))))) (nn1 (Ah (Ad (Ad (Ad (Ad nd)))))) (nn1 (nn2 (Ah (Ad (Ad (Ad (Ad nd))))))) (nn1 (Ah (Ad (Ad (Ad (Ad (Ad nd)))))))
theorem ndk8{a0 a1 a2 a3 a4 a5 a6 a7:Addr}{G:Prop}(nd:([a0,a1,a2,a3,a4,a5,a6,a7]:List Addr).Nodup)(h:¬ a0=a1→¬ a0=a2→¬ a0=a3→¬ a0=a4→¬ a0=a5→¬ a0=a6→¬ a0=a7→¬ a1=a2→¬ a1=a3→¬ a1=a4→¬ a1=a5→¬ a1=a6→¬ a1=a7→¬ a2=a3→¬ a2=a4→¬ a2=a5→¬ a2=a6→¬ a2=a7→¬ a3=a4→¬ a3=a5→¬ a3=a6→¬ a3=a7→¬ a4=a5→¬ a4=a6→¬ a4=a7→¬ a5=a6→¬ a5=a7→¬ a6=a7→G):G :=
 h (nn1 (Ah nd)) (nn1 (nn2 (Ah nd))) (nn1 (nn2 (nn2 (Ah nd)))) (nn1 (nn2 (nn2 (nn2 (Ah nd))))) (nn1 (nn2 (nn2 (nn2 (nn2 (Ah nd)))))) (nn1 (nn2 (nn2 (nn2 (nn2 (nn2 (Ah nd))))))) (nn1 (nn2 (nn2 (nn2 (nn2 (nn2 (nn2 (Ah nd)))))))) (nn1 (Ah (Ad nd))) (nn1 (nn2 (Ah (Ad nd)))) (nn1 (nn2 (nn2 (Ah (Ad nd))))) (nn1 (nn2 (nn2 (nn2 (Ah (Ad nd)))))) (nn1 (nn2 (nn2 (nn2 (nn2 (Ah (Ad nd))))))) (nn1 (nn2 (nn2 (nn2 (nn2 (nn2 (Ah (Ad nd)))))))) (nn1 (Ah (Ad (Ad nd)))) (nn1 (nn2 (Ah (Ad (Ad nd))))) (nn1 (nn2 (nn2 (Ah (Ad (Ad nd)))))) (nn1 (nn2 (nn2 (nn2 (Ah (Ad (Ad nd))))))) (nn1 (nn2 (nn2 (nn2 (nn2 (Ah (Ad (Ad nd)))))))) (nn1 (Ah (Ad (Ad (Ad nd))))) (nn1 (nn2 (Ah (Ad (Ad (Ad nd)))))) (nn1 (nn2 (nn2 (Ah (Ad (Ad (Ad nd))))))) (nn1 (nn2 (nn2 (nn2 (Ah (Ad (Ad (Ad nd)))))))) (nn1 (Ah (Ad (Ad (Ad (Ad nd)))))) (nn1 (nn2 (Ah (Ad (Ad (Ad (Ad nd))))))) (nn1 (nn2 (nn2 (Ah (Ad (Ad (Ad (Ad nd)))))))) (nn1 (Ah (Ad (Ad (Ad (Ad (Ad nd))))))) (nn1 (nn2 (Ah (Ad (Ad (Ad (Ad (Ad nd)))))))) (nn1 (Ah (Ad (Ad (Ad (Ad (Ad (Ad nd))))))))
theorem ndk10{a0 a1 a2 a3 a4 a5 a6 a7 a8 a9:Addr}{G:Prop}(nd:([a0,a1,a2,a3,a4,a5,a6,a7,a8,a9]:List Addr).Nodup)(h:¬ a0=a1→¬ a0=a2→¬ a0=a3→¬ a0=a4→¬ a0=a5→¬ a0=a6→¬ a0=a7→¬ a0=a8→¬ a0=a9→¬ a1=a2→¬ a1=a3→¬ a1=a4→¬ a1=a5→¬ a1=a6→¬ a1=a7→¬ a1=a8→¬ a1=a9→¬ a2=a3→¬ a2=a4→¬ a2=a5→¬ a2=a6→¬ a2=a7→¬ a2=a8→¬ a2=a9→¬ a3=a4→¬ a3=a5→¬ a3=a6→¬ a3=a7→¬ a3=a8→¬ a3=a9→¬ a4=a5→¬ a4=a6→¬ a4=a7→¬ a4=a8→¬ a4=a9→¬ a5=a6→¬ a5=a7→¬ a5=a8→¬ a5=a9→¬ a6=a7→¬ a6=a8→¬ a6=a9→¬ a7=a8→¬ a7=a9→¬ a8=a9→G):G :=
 h (nn1 (Ah nd)) (nn1 (nn2 (Ah nd))) (nn1 (nn2 (nn2 (Ah nd)))) (nn1 (nn2 (nn2 (nn2 (Ah nd))))) (nn1 (nn2 (nn2 (nn2 (nn2 (Ah nd)))))) (nn1 (nn2 (nn2 (nn2 (nn2 (nn2 (Ah nd))))))) (nn1 (nn2 (nn2 (nn2 (nn2 (nn2 (nn2 (Ah nd)))))))) (nn1 (nn2 (nn2 (nn2 (nn2 (nn2 (nn2 (nn2 (Ah nd))))))))) (nn1 (nn2 (nn2 (nn2 (nn2 (nn2 (nn2 (nn2 (nn2 (Ah nd)))))))))) (nn1 (Ah (Ad nd))) (nn1 (nn2 (Ah (Ad nd)))) (nn1 (nn2 (nn2 (Ah (Ad nd))))) (nn1 (nn2 (nn2 (nn2 (Ah (Ad nd)))))) (nn1 (nn2 (nn2 (nn2 (nn2 (Ah (Ad nd))))))) (nn1 (nn2 (nn2 (nn2 (nn2 (nn2 (Ah (Ad nd)))))))) (nn1 (nn2 (nn2 (nn2 (nn2 (nn2 (nn2 (Ah (Ad nd))))))))) (nn1 (nn2 (nn2 (nn2 (nn2 (nn2 (nn2 (nn2 (Ah (Ad nd)))))))))) (nn1 (Ah (Ad (Ad nd)))) (nn1 (nn2 (Ah (Ad (Ad nd))))) (nn1 (nn2 (nn2 (Ah (Ad (Ad nd)))))) (nn1 (nn2 (nn2 (nn2 (Ah (Ad (Ad nd))))))) (nn1 (nn2 (nn2 (nn2 (nn2 (Ah (Ad (Ad nd)))))))) (nn1 (nn2 (nn2 (nn2 (nn2 (nn2 (Ah (Ad (Ad nd))))))))) (nn1 (nn2 (nn2 (nn2 (nn2 (nn2 (nn2 (Ah (Ad (Ad nd)))))))))) (nn1 (Ah (Ad (Ad (Ad nd))))) (nn1 (nn2 (Ah (Ad (Ad (Ad nd)))))) (nn1 (nn2 (nn2 (Ah (Ad (Ad (Ad nd))))))) (nn1 (nn2 (nn2 (nn2 (Ah (Ad (Ad (Ad nd)))))))) (nn1 (nn2 (nn2 (nn2 (nn2 (Ah (Ad (Ad (Ad nd))))))))) (nn1 (nn2 (nn2 (nn2 (nn2 (nn2 (Ah (Ad (Ad (Ad nd)))))))))) (nn1 (Ah (Ad (Ad (Ad (Ad nd)))))) (nn1 (nn2 (Ah (Ad (Ad (Ad (Ad nd))))))) (nn1 (nn2 (nn2 (Ah (Ad (Ad (Ad (Ad nd)))))))) (nn1 (nn2 (nn2 (nn2 (Ah (Ad (Ad (Ad (Ad nd))))))))) (nn1 (nn2 (nn2 (nn2 (nn2 (Ah (Ad (Ad (Ad (Ad nd)))))))))) (nn1 (Ah (Ad (Ad (Ad (Ad (Ad nd))))))) (nn1 (nn2 (Ah (Ad (Ad (Ad (Ad (Ad nd)))))))) (nn1 (nn2 (nn2 (Ah (Ad (Ad (Ad (Ad (Ad nd))))))))) (nn1 (nn2 (nn2 (nn2 (Ah (Ad (Ad (Ad (Ad (Ad nd)))))))))) (nn1 (Ah (Ad (Ad (Ad (Ad (Ad (Ad nd)))))))) (nn1 (nn2 (Ah (Ad (Ad (Ad (Ad (Ad (Ad nd))))))))) (nn1 (nn2 (nn2 (Ah (Ad (Ad (Ad (Ad (Ad (Ad nd)))))))))) (nn1 (Ah (Ad (Ad (Ad (Ad (Ad (Ad (Ad nd))))))))) (nn1 (nn2 (Ah (Ad (Ad (Ad (Ad (Ad (Ad (Ad nd)))))))))) (nn1 (Ah (Ad (Ad (Ad (Ad (Ad (Ad (Ad (Ad nd))))))))))
theorem Ub{a b c d e:Addr}{l:List Addr}(nd:(a::b::c::d::e::l).Nodup):([a,b,c,d,e]:List Addr).Nodup:=(List.nodup_append.mp (show ([a,b,c,d,e]++l).Nodup from nd)).1
theorem Ac{a b:Addr}{l:List Addr}(h:a≠b)(t:a∉l):a∉b::l:=fun z=>by
 cases z with
 | head=>exact h rfl
 | tail _ z=>exact t z
theorem Aq{a:Addr}:a∉([]:List Addr):=fun z=>nomatch z
theorem ndm7{a0 a1 a2 a3 a4 a5 a6:Addr}(n0_1:¬ a0=a1)(n0_2:¬ a0=a2)(n0_3:¬ a0=a3)(n0_4:¬ a0=a4)(n0_5:¬ a0=a5)(n0_6:¬ a0=a6)(n1_2:¬ a1=a2)(n1_3:¬ a1=a3)(n1_4:¬ a1=a4)(n1_5:¬ a1=a5)(n1_6:¬ a1=a6)(n2_3:¬ a2=a3)(n2_4:¬ a2=a4)(n2_5:¬ a2=a5)(n2_6:¬ a2=a6)(n3_4:¬ a3=a4)(n3_5:¬ a3=a5)(n3_6:¬ a3=a6)(n4_5:¬ a4=a5)(n4_6:¬ a4=a6)(n5_6:¬ a5=a6):([a0,a1,a2,a3,a4,a5,a6]:List Addr).Nodup :=
 (List.nodup_cons.mpr ⟨(Ac n0_1 (Ac n0_2 (Ac n0_3 (Ac n0_4 (Ac n0_5 (Ac n0_6 Aq)))))),(List.nodup_cons.mpr ⟨(Ac n1_2 (Ac n1_3 (Ac n1_4 (Ac n1_5 (Ac n1_6 Aq))))),(List.nodup_cons.mpr ⟨(Ac n2_3 (Ac n2_4 (Ac n2_5 (Ac n2_6 Aq)))),(List.nodup_cons.mpr ⟨(Ac n3_4 (Ac n3_5 (Ac n3_6 Aq))),(List.nodup_cons.mpr ⟨(Ac n4_5 (Ac n4_6 Aq)),(List.nodup_cons.mpr ⟨(Ac n5_6 Aq),(List.nodup_cons.mpr ⟨Aq,List.nodup_nil⟩)⟩)⟩)⟩)⟩)⟩)⟩)
theorem Cr{a b:Addr}{l:List Addr}(h:a∉l)(m:b∈l):a≠b:=fun e=>h (e ▸ m)
theorem Oz{a:Addr}{own tabs:List (Addr × Obj)}(h:∀ q∈own,q.1≠a)(h2:∀ q∈tabs,q.1≠a):a∉(own++tabs).map (·.1):=fun z=>by
 obtain⟨r,hr,e⟩:=List.mem_map.mp z
 rcases List.mem_append.mp hr with q | q
 ·exact h r q e
 ·exact h2 r q e
theorem Rv{ds:List (Str × Tok)}(h:¬ ds=[]):(!(strValues ds).toArray.isEmpty)=true:=by
 cases ds with
 | nil=>exact absurd rfl h
 | cons=>rfl
theorem Gi{d a:Addr}{o:Obj}{news:List (Addr × Obj)}(l:∀ p∈news,p.1<d)(h:(a,o)∈news):a≠d:=Nat.ne_of_lt (l _ h)
theorem Gh{d a:Addr}{o:Obj}{news:List (Addr × Obj)}(l:∀ p∈news,p.1<d)(h:(a,o)∈news):d≠a:=Nat.ne_of_gt (l _ h)
theorem exi{α:Type}{R:α→Prop}{G:Prop}(h:∀ a,R a→G):(∃ a,R a)→G:=fun e=>e.elim h
theorem Fw{α0 α1:Type}{R:α0→α1→Prop}{G:Prop}(h:∀ a0 a1,R a0 a1→G):(∃ a0 a1,R a0 a1)→G:=exi fun a=>exi (h a)
theorem Lz{α0 α1 α2:Type}{R:α0→α1→α2→Prop}{G:Prop}(h:∀ a0 a1 a2,R a0 a1 a2→G):(∃ a0 a1 a2,R a0 a1 a2)→G:=exi fun a=>Fw (h a)
theorem Rb{α0 α1 α2 α3:Type}{R:α0→α1→α2→α3→Prop}{G:Prop}(h:∀ a0 a1 a2 a3,R a0 a1 a2 a3→G):(∃ a0 a1 a2 a3,R a0 a1 a2 a3)→G:=exi fun a=>Lz (h a)
theorem exi5{α0 α1 α2 α3 α4:Type}{R:α0→α1→α2→α3→α4→Prop}{G:Prop}(h:∀ a0 a1 a2 a3 a4,R a0 a1 a2 a3 a4→G):(∃ a0 a1 a2 a3 a4,R a0 a1 a2 a3 a4)→G:=exi fun a=>Rb (h a)
theorem exi6{α0 α1 α2 α3 α4 α5:Type}{R:α0→α1→α2→α3→α4→α5→Prop}{G:Prop}(h:∀ a0 a1 a2 a3 a4 a5,R a0 a1 a2 a3 a4 a5→G):(∃ a0 a1 a2 a3 a4 a5,R a0 a1 a2 a3 a4 a5)→G:=exi fun a=>exi5 (h a)
theorem exi7{α0 α1 α2 α3 α4 α5 α6:Type}{R:α0→α1→α2→α3→α4→α5→α6→Prop}{G:Prop}(h:∀ a0 a1 a2 a3 a4 a5 a6,R a0 a1 a2 a3 a4 a5 a6→G):(∃ a0 a1 a2 a3 a4 a5 a6,R a0 a1 a2 a3 a4 a5 a6)→G:=exi fun a=>exi6 (h a)
theorem exi8{α0 α1 α2 α3 α4 α5 α6 α7:Type}{R:α0→α1→α2→α3→α4→α5→α6→α7→Prop}{G:Prop}(h:∀ a0 a1 a2 a3 a4 a5 a6 a7,R a0 a1 a2 a3 a4 a5 a6 a7→G):(∃ a0 a1 a2 a3 a4 a5 a6 a7,R a0 a1 a2 a3 a4 a5 a6 a7)→G:=exi fun a=>exi7 (h a)
theorem exs1{σ α0:Type}{R:σ→α0→Prop}{G:σ→Prop}(h:∀ s a0,R s a0→G s):∀ s,(∃ a0,R s a0)→G s:=fun s=>exi (h s)
theorem exs2{σ α0 α1:Type}{R:σ→α0→α1→Prop}{G:σ→Prop}(h:∀ s a0 a1,R s a0 a1→G s):∀ s,(∃ a0 a1,R s a0 a1)→G s:=fun s=>Fw (h s)
theorem exs3{σ α0 α1 α2:Type}{R:σ→α0→α1→α2→Prop}{G:σ→Prop}(h:∀ s a0 a1 a2,R s a0 a1 a2→G s):∀ s,(∃ a0 a1 a2,R s a0 a1 a2)→G s:=fun s=>Lz (h s)
theorem exs4{σ α0 α1 α2 α3:Type}{R:σ→α0→α1→α2→α3→Prop}{G:σ→Prop}(h:∀ s a0 a1 a2 a3,R s a0 a1 a2 a3→G s):∀ s,(∃ a0 a1 a2 a3,R s a0 a1 a2 a3)→G s:=fun s=>Rb (h s)
theorem exs8{σ α0 α1 α2 α3 α4 α5 α6 α7:Type}{R:σ→α0→α1→α2→α3→α4→α5→α6→α7→Prop}{G:σ→Prop}(h:∀ s a0 a1 a2 a3 a4 a5 a6 a7,R s a0 a1 a2 a3 a4 a5 a6 a7→G s):∀ s,(∃ a0 a1 a2 a3 a4 a5 a6 a7,R s a0 a1 a2 a3 a4 a5 a6 a7)→G s:=fun s=>exi8 (h s)
theorem Ds{M:Model}{A:Around}{m:Sem Flow}{R:Shared→Prop}{Q:Flow→Shared→Prop}{E:Value→Shared→Prop}{s:Shared}
  (h1:wpAny M A m (fun f s'=>f=.next∧R s') E s) (h2:∀ s',R s'→Q .next s'):wpAny M A m Q E s :=
 wpAny_mono h1 (fun _ _ ⟨e,r⟩=>e ▸ h2 _ r) fun _ _ z=>z
theorem Dk{x:Str}{K:Nat}(h:x.length≤K)(hs:Nat.ble K 16777216=true):x.length≤sizeLine:=Nat.le_trans h (Nat.le_trans (Nat.le_of_ble_eq_true hs) (by rw [sizeLine_eq];exact Nat.le_refl _))
theorem Dl:Str.empty.length≤0:=Nat.le_refl _
end Mine
namespace Mine
open PySem.Calls
theorem Bw{M:Model}{A:Around}{α:Type}{m:Sem α}{Q:α→Shared→Prop}{E:Value→Shared→Prop}{s:Shared}
  (h:∀ (Q':α→Shared→Prop) (E':Value→Shared→Prop),(∀ v s,Q v s→Q' v s)→(∀ e s,E e s→E' e s)→wpAny M A m Q' E' s):wpAny M A m Q E s :=
 h Q E (fun _ _ z=>z) (fun _ _ z=>z)
end Mine
namespace Mine
open PySem.Calls
section
variable{M:Model}{A:Around}{R:GenEnd}{Y:Protocol}{n:Nat}{s₀:Shared}{c:Code}{fs:List Frame}{s:Shared}{env:Env}
 {K:Flow→Sem Fin} {H:Value→Sem Fin} {gd:Bool→Bool} {lv:List Value→List Value}
theorem Ay{α β:Type}{m:Sem α}{f:α→Sem β}{K:β→Sem Fin}
  (h:wpAny M (A.over c fs) m (fun a s'=>Seg M A R Y n s₀ c ((f a).wrap K H gd lv) fs s') (fun _ _=>False) s) :
  Seg M A R Y n s₀ c ((m >>= f).wrap K H gd lv) fs s:=by
 rw [Sem.bind_eq_wrap',Sem.wrap_wrap]
 exact seg_wrap (wpAny_mono h (fun _ _ x=>x) fun _ _ x=>x.elim)
theorem Bh{α:Type}{m:Sem α}{f:α→Sem Fin}
  (h:wpAny M (A.over c fs) m (fun a s'=>Seg M A R Y n s₀ c (f a) fs s') (fun _ _=>False) s) :
  Seg M A R Y n s₀ c (m >>= f) fs s:=seg_bind (wpAny_mono h (fun _ _ x=>x) fun _ _ x=>x.elim)
theorem seg_If{test:Expr}{body orelse:List Stmt}{pos:Pos}
  (h:wpAny M (A.over c fs) (isTrue test env (eval test env)) (fun b s'=>if b=true then Seg M A R Y n s₀ c ((execs body env).wrap K H gd lv) fs s' else Seg M A R Y n s₀ c ((execs orelse env).wrap K H gd lv) fs s') (fun _ _=>False) s) :
  Seg M A R Y n s₀ c ((exec (.If test body orelse pos) env).wrap K H gd lv) fs s:=by
 show Seg M A R Y n s₀ c ((standAt pos >>= fun _=>isTrue test env (eval test env) >>= fun b=>if b=true then execs body env else execs orelse env).wrap K H gd lv) fs s
 refine Ay (wpAny_standAt (Ay (wpAny_mono h (fun b s' hb=>?_) fun _ _ x=>x)))
 cases b with
 | true=>rw [if_pos rfl] at hb ⊢;exact hb
 | false=>rw [if_neg Bool.false_ne_true] at hb ⊢;exact hb
theorem Od{e:Expr}{ypos pos:Pos}(hi:interactive env=false)
  (h:wpAny M (A.over c fs) (eval e env) (fun v s₁=>wpAny M (A.over c fs) (typeOf v) (fun t s₂=>(t == .type "coroutine")=false∧wpAny M (A.over c fs) (pyIter v) (fun it s₃ =>
    ∀ k p,(k (.ok (.ret .none))=K .next)→Seg M A R Y n s₀ (.builtin "proto.yield_from" ⟨[it,.bool false,.none],[]⟩) (M.den (.builtin "proto.yield_from" ⟨[it,.bool false,.none],[]⟩))
     (.ret k none (gd false) (lv []) c p []::fs) s₃) (fun _ _=>False) s₂) (fun _ _=>False) s₁) (fun _ _=>False) s) :
  Seg M A R Y n s₀ c ((exec (.Expr (.YieldFrom e ypos) pos) env).wrap K H gd lv) fs s:=by
 rw [exec_Expr env _ pos hi rfl]
 show Seg M A R Y n s₀ c ((standAt pos >>= fun _=>(eval e env >>= fun v=>(standAt ypos >>= fun _=>yieldFrom env v)) >>= fun x =>
  dropValue (.YieldFrom e ypos) pos x).wrap K H gd lv) fs s
 refine Ay (wpAny_standAt ?_);rw [Sem.bind_eq_wrap',Sem.wrap_wrap]
 refine Ay (wpAny_mono h (fun v s₁ h₁=>?_) fun _ _ x=>x)
 refine Ay (wpAny_standAt ?_);unfold yieldFrom
 refine Ay (wpAny_mono h₁ (fun t s₂ h₂=>?_) fun _ _ x=>x)
 rw [h₂.1,if_neg Bool.false_ne_true]
 refine Ay (wpAny_holding (wpAny_mono h₂.2 (fun it s₃ h₃=>?_) fun _ _ x=>x))
 refine seg_call fun p=>h₃ _ p ?_
 rfl
theorem seg_For{target iter:Expr}{body orelse:List Stmt}{pos:Pos}(hfold:∀ x,foldedSetIterable iter env x=pure x)
  (h:wpAny M (A.over c fs) (eval iter env) (fun x s₁=>wpAny M (A.over c fs) (pyIter x) (fun it s₂ =>
    ∀ k p,(k (.ok .next)=K .next)→Seg M A R Y n s₀ (.forLoop target it body orelse env) (M.den (.forLoop target it body orelse env))
     (.ret k none (gd false) (lv []) c p []::fs) s₂) (fun _ _=>False) s₁) (fun _ _=>False) s) :
  Seg M A R Y n s₀ c ((exec (.For target iter body orelse pos) env).wrap K H gd lv) fs s:=by
 show Seg M A R Y n s₀ c ((standAt pos >>= fun _=>eval iter env >>= fun y=>foldedSetIterable iter env y >>= fun x=>standAt iter.pos >>= fun _=>holding [x] (pyIter x) >>= fun it=>runOwn (.forLoop target it body orelse env) env).wrap K H gd lv) fs s
 refine Ay (wpAny_standAt (Ay (wpAny_mono h (fun x s₁ h₁=>?_) fun _ _ x=>x)))
 rw [hfold]
 refine Ay (Wp (Ay (wpAny_standAt (Ay (wpAny_holding (wpAny_mono h₁ (fun it s₂ h₂=>?_) fun _ _ x=>x))))))
 exact seg_call fun p=>h₂ _ p rfl
end
section
variable{prog:Program}{w:World}{A:Around}{R:GenEnd}{Y:Protocol}{n:Nat}{s₀:Shared}{fs:List Frame}{s:Shared}{env:Env}
theorem Kr{x:Str}{px:Pos}{it:Value}{body:List Stmt}
  (h:wpAny (model prog w) (A.over (.forLoop (.Name x px) it body [] env) fs) (pyNext it) (fun r s₁=>match r with
   | none=>∀ c',Seg (model prog w) A R Y n s₀ c' (leafOf (.ok .next)) fs s₁
   | some v=>wpAny (model prog w) (A.over (.forLoop (.Name x px) it body [] env) fs) (assign (.Name x px) env v) (fun _ s₂=>∀ K' H',(K' Flow.next=.pure (.again (.forLoop (.Name x px) it body [] env))) →
     Seg (model prog w) A R Y n s₀ (.forLoop (.Name x px) it body [] env) ((execs body env).wrap K' H' id id) fs s₂) (fun _ _=>False) s₁) (fun _ _=>False) s) :
  Seg (model prog w) A R Y n s₀ (.forLoop (.Name x px) it body [] env) ((model prog w).den (.forLoop (.Name x px) it body [] env)) fs s:=by
 show Seg _ A R Y n s₀ _ ((forTurn (.Name x px) it body [] env).onRaise (fun x=>do noteFrame x env;theTreesLotGoes x)) fs s
 unfold forTurn;rw [Sem.onRaise_eq_wrap]
 refine Ay (wpAny_standAt (Ay (wpAny_onRaise (wpAny_mono h (fun r s₁ h₁=>?_) fun _ _ z=>z.elim))))
 cases r with
 | none =>
  dsimp only at h₁ ⊢;refine seg_again rfl ?_;exact h₁ _
 | some v =>
  dsimp only at h₁ ⊢
  refine Ay (Wp (Ay (wpAny_mono h₁ (fun _ s₂ h₂=>?_) fun _ _ z=>z)))
  rw [Sem.bind_eq_wrap',Sem.wrap_wrap];exact h₂ _ _ rfl
end
end Mine
namespace Mine
open PySem.Calls
theorem Xg:entryFor table "proto.yield_from"=some Builtin.«proto.yield_from»:=entryFor_of_tree (by kernel_rfl)
theorem Xc{prog:Program}{w:World}{id:String}{b:Builtin}(h:entryFor table id=some b)(args:Args):(model prog w).den (.builtin id args)=b args:=by
 show (match entryFor table id with | some b=>b args | none=>unsupported ((withoutEnding? id "#data").getD id))=_
 rw [h]
theorem Xd{prog:Program}{w:World}(args:Args):(model prog w).den (.builtin "proto.yield_from" args)=Builtin.«proto.yield_from» args:=Xc Xg args
theorem Ua:typeLookup (.type "list_iterator") "close"=pure none:=by rw [typeLookup_type,builtinLookup_eq_fast];kernel_rfl
theorem Ss{M:Model}{A:Around}{E:Value→Shared→Prop}{s:Shared}{it:Addr}{o:Obj}{b:Bool}{Q:Unit→Shared→Prop}(ho:s.heap.get? it=some o)(hc:o.cls=.type "list_iterator")(h:Q () s):wpAny M A (Builtin.Generator.sleptOver (.ref it) b) Q E s:=by
 unfold Builtin.Generator.sleptOver;refine Wb (wpAny_load ho ?_);rw [hc];exact Wp h
section
variable{prog:Program}{w:World}{A:Around}{R:GenEnd}{Y:Protocol}{n:Nat}{s₀:Shared}{fs:List Frame}{s:Shared}
theorem Sq{it l:Addr}{i:Nat}{items:Array Value}{x:Value}(hfs:splitAtGen fs=none)(hfg:fs.any Frame.guarded=false)
  (hit:s.heap.IsListIter it l i) (hl:s.heap.IsList l items) (hx:items[i]?=some x)
  (h:∀ h',h'.IsListIter it l (i+1)→Heap.SameBut it s.heap h'→∀ kap:Resume→Shared→Prop,
   (∀ s'':Shared,(∃ o,s''.heap.get? it=some o∧o.cls=.type "list_iterator") →
    Seg (model prog w) A R Y n s'' (.builtin "proto.yield_from" ⟨[.ref it,.bool false,.none],[]⟩) ((model prog w).den (.builtin "proto.yield_from" ⟨[.ref it,.bool false,.none],[]⟩)) fs s''→kap (.send .none) s'') →
   Y n s₀ x { s with heap:=h' } kap) :
  Seg (model prog w) A R Y (n+1) s₀ (.builtin "proto.yield_from" ⟨[.ref it,.bool false,.none],[]⟩) ((model prog w).den (.builtin "proto.yield_from" ⟨[.ref it,.bool false,.none],[]⟩)) fs s:=by
 rw [Xd];obtain⟨o,ho,hc,hd⟩:=id hit;obtain⟨ol,hol,_,nl,hdl⟩:=hl;unfold Builtin.«proto.yield_from»;refine Bh (Wp (a:=Value.none) ?_);refine Bh (wpAny_attempt (wpAny_holding ?_));rw [if_neg Bool.false_ne_true,if_pos (show (Value.none == Value.none)=true from rfl)]
 refine Wb (wpAny_rule (Wb (wpAny_callSpecial?_slot (name:=Str.ofString "__next__") hit.typeIs slot_listiter_next
  (wpAny_call_entry slot_listiter_next hit.typeIs entry_listiter_next ?_ (args_listiter_next _)))))
 show wpAny _ _ (field (.ref it) 0 >>= _) _ _ s
 refine Wb (wpAny_field ho hd (x:=.ref l) rfl ?_)
 show wpAny _ _ (if (Value.ref l == Value.none)=true then _ else _) _ _ s
 rw [if_neg (show ¬ ((Value.ref l == Value.none)=true) from Bool.false_ne_true)]
 show wpAny _ _ (field (.ref it) 1 >>= _) _ _ s
 refine Wb (wpAny_field ho hd (x:=.int i 0) rfl ?_)
 show wpAny _ _ (seqItems? (.ref l) >>= _) _ _ s
 refine Wb (wpAny_seqItems hol hdl ?_)
 simp only [Int.toNat_natCast,hx]
 have I':(s.heap.update it (Obj.mapFields fun x=>x.setIfInBounds 1 (rawInt ((i:Int)+1)))).IsListIter it l (i+1) :=
  ⟨_,Heap.get?_update_self _ ho (Obj.isFreed_of_fields (Obj.data_mapFields hd _)),(Obj.cls_mapFields ..).trans hc,by rw [Obj.data_mapFields hd];simp [rawInt]⟩
 refine Wb (wpAny_setField ho hd (by simp) (Wp ⟨x,rfl,Wp ?_⟩))
 obtain⟨o',ho',hc',hd'⟩:=id I';refine Bh ?_;refine wpAny_typeOf (T:="list_iterator") ⟨o',ho',hc'⟩ ?_;dsimp only;rw [Ua];refine Bh (Wp (Bh (Wp ?_)));refine Bh (Ss ho' hc' ?_);refine seg_yield hfs rfl hfg ?_
 refine h _ I' (Heap.SameBut.update ..) _ fun s'' hs'' hseg=>?_
 obtain⟨o2,ho2,hc2⟩:=hs'';refine Bh (Wp (Bh (Ss ho2 hc2 ?_)));dsimp only;refine Bh (Wp (a:=Value.none) ?_)
 exact seg_again (Code.quiet_builtin _ (by decide +kernel)) hseg
theorem Ug{it l:Addr}{i:Nat}{items:Array Value}(hh:(A.over (.builtin "proto.yield_from" ⟨[.ref it,.bool false,.none],[]⟩) fs).handled=none)
  (hit:s.heap.IsListIter it l i) (hl:s.heap.IsList l items) (hx:items[i]?=none)
  (h:∀ h' c',Heap.ExtBut it s.heap h'→s.heap.objs.size≤h'.objs.size→Seg (model prog w) A R Y n s₀ c' (leafOf (.ok (.ret .none))) fs { s with heap:=h' }) :
  Seg (model prog w) A R Y n s₀ (.builtin "proto.yield_from" ⟨[.ref it,.bool false,.none],[]⟩) ((model prog w).den (.builtin "proto.yield_from" ⟨[.ref it,.bool false,.none],[]⟩)) fs s:=by
 rw [Xd];obtain⟨o,ho,hc,hd⟩:=id hit;obtain⟨ol,hol,_,nl,hdl⟩:=hl;unfold Builtin.«proto.yield_from»;refine Bh (Wp (a:=Value.none) ?_);refine Bh (wpAny_attempt (wpAny_holding ?_));rw [if_neg Bool.false_ne_true,if_pos (show (Value.none == Value.none)=true from rfl)]
 refine Wb (wpAny_rule (Wb (wpAny_callSpecial?_slot (name:=Str.ofString "__next__") hit.typeIs slot_listiter_next
  (wpAny_call_entry slot_listiter_next hit.typeIs entry_listiter_next ?_ (args_listiter_next _)))))
 show wpAny _ _ (field (.ref it) 0 >>= _) _ _ s
 refine Wb (wpAny_field ho hd (x:=.ref l) rfl ?_)
 show wpAny _ _ (if (Value.ref l == Value.none)=true then _ else _) _ _ s
 rw [if_neg (show ¬ ((Value.ref l == Value.none)=true) from Bool.false_ne_true)]
 show wpAny _ _ (field (.ref it) 1 >>= _) _ _ s
 refine Wb (wpAny_field ho hd (x:=.int i 0) rfl ?_)
 show wpAny _ _ (seqItems? (.ref l) >>= _) _ _ s
 refine Wb (wpAny_seqItems hol hdl ?_)
 simp only [Int.toNat_natCast,hx]
 refine Wb (wpAny_rule (Wb (wpAny_setField ho hd (by simp) ?_)))
 show wpAny _ _ (newExc (.type "StopIteration") [] >>= _) _ _ _
 refine Wb ?_
 simp only [newExc,newTuple]
 refine Wb (wpAny_newObj_type ?_ (by size_fits))
 refine Wb (m:=firstArgMember _ _) (wpAny_of_eq (a:=Value.none) (by first | rfl | (simp only [firstArgMember];rfl)) ?_)
 refine wpAny_newObj_type ?_ (by size_fits)
 unfold raiseNew;dsimp only;refine Wb (wpAny_handled ?_);rw [Around.in1_handled,hh];refine Wb (Wp (wpAny_throw ?_))
 have he:=Heap.get?_push_size ((s.heap.update it (Obj.mapFields fun x=>x.setIfInBounds 0 Value.none)).push { cls:=Value.type "tuple",data:=Data.seq #[] }) (o:={ cls:=Value.type "StopIteration",data:=Data.fields (#[Value.ref (s.heap.update it (Obj.mapFields fun x=>x.setIfInBounds 0 Value.none)).objs.size,Value.none,Value.none,Value.none,Value.bool false,Value.none]++ownMembersOf (Value.type "StopIteration") []) }) rfl
 refine Bh ?_;unfold Builtin.Generator.endsTheTurnAsAValue Builtin.Generator.isStopAndMetaclass;refine Wb (Wb (wpAny_typeOf (T:="StopIteration") ⟨_,he,rfl⟩ ?_));dsimp only;rw [isSubtype_stop];refine Wb (Wp (Wb (Wp (Wp ?_))));refine Wp ?_;dsimp only;refine Bh (wpAny_rule ?_);refine Bh (wpAny_field he rfl (x:=.none) rfl ?_)
 exact h _ _ (((Heap.SameBut.update ..).extBut.push _).push _) (by rw [Heap.size_push,Heap.size_push,(Heap.SameBut.update ..).1];exact(Nl fun hn1=>fk [_] (.e (.a (.a (.s V0) K1) K1) V0 K0) rfl hn1))
end
end Mine
namespace Mine
open PySem.Calls
noncomputable def Gs(o:Obj):Bool:=o.cls == .type "list_iterator" || o.cls == .type "list_reverseiterator"
def Fl(B:Addr)(h h':Heap):Prop:=∀ b o,h.get? b=some o→(b<B∨(b≠B∧Gs o=false))→h'.get? b=some o
theorem Fl.refl(B:Addr)(h:Heap):Fl B h h:=fun _ _ e _=>e
theorem Fl.trans{B:Addr}{h h' h'':Heap}(x:Fl B h h')(y:Fl B h' h''):Fl B h h'':=fun b o e c=>y b o (x b o e c) c
structure Rel (B:Addr) (s s':Shared):Prop where
 heap:Fl B s.heap s'.heap
 os:s'.os=s.os
 gens:s'.gens=s.gens
theorem Rel.refl(B:Addr)(s:Shared):Rel B s s:=⟨Fl.refl _ _,rfl,rfl⟩
theorem Rel.trans{B:Addr}{s s' s'':Shared}(x:Rel B s s')(y:Rel B s' s''):Rel B s s'':=⟨x.heap.trans y.heap,y.os.trans x.os,y.gens.trans x.gens⟩
def Priv(B:Addr)(priv:List (Addr × Obj)):Prop:=∀ p∈priv,B≤p.1∧(p.1=B∨Gs p.2=true)
noncomputable def Co(B stk:Addr)(lvs:List (Addr × Array Value))(h:Heap):Prop :=
 stk≠B∧h.IsList stk (lvs.map fun p=>.ref p.1).toArray∧∀ p∈lvs,p.1≠B∧h.IsList p.1 p.2∧(p.2.size:Int)<2 ^ 63
theorem Co.same{B stk:Addr}{lvs:List (Addr × Array Value)}{h h':Heap}(x:Co B stk lvs h)(y:Fl B h h'):Co B stk lvs h':=by
 have one:∀ a its,a≠B→h.IsList a its→h'.IsList a its:=fun a its ha ⟨o,ho,hc,hd⟩=>⟨o,y a o ho (.inr ⟨ha,by unfold Gs;rw [hc];rfl⟩),hc,hd⟩
 exact⟨x.1,one _ _ x.1 x.2.1,fun p hp=>⟨(x.2.2 p hp).1,one _ _ (x.2.2 p hp).1 (x.2.2 p hp).2.1,(x.2.2 p hp).2.2⟩⟩
noncomputable def comes(lvs:List (Addr × Array Value)):List Value:=(lvs.reverse.map fun p=>p.2.toList).flatten
noncomputable def YP(B:Addr)(RO:Heap→Prop)(items:List Value):Protocol:=fun n s₀ v s' kap =>
 (∃ rest,rest.length=n∧(v::rest) <:+ items)∧Rel B s₀ s' ∧
 ∃ priv,Priv B priv∧(∀ p∈priv,s'.heap.get? p.1=some p.2)∧∀ s'':Shared,(∀ p∈priv,s''.heap.get? p.1=some p.2)→RO s''.heap→kap (.send .none) s''
noncomputable def RP(B:Addr):Nat→Shared→Shared→Prop:=fun n s₀ s'=>n=0∧Rel B s₀ s'
theorem Heap.Ns.at_{h h':Heap}{a:Addr}{m:Str→Option Value}{o:Obj}(x:h.Ns a m)(e:h.get? a=some o)(e':h'.get? a=some o):h'.Ns a m:=by
 obtain⟨o₁,es,ep,ho,r⟩:=x;rw [e] at ho;cases ho;exact⟨o,es,ep,e',r⟩
section
variable{prog:Program}{w:World}{A:Around}{s₀ s:Shared}{B stk Il l Ir:Addr}{lvs:List (Addr × Array Value)}{its:Array Value}{m:Str→Option Value}
theorem Wh{k:Result→Sem Fin}{lv:List Value}{c1:Code}{p1:Pos}{fs:List Frame}{below:List Value}{oB oR:Obj}{items:List Value}(hh:(A.over (.builtin "proto.yield_from" ⟨[.ref Il,.bool false,.none],[]⟩) (.ret k none false lv c1 p1 []::fs)).handled=none)
  (hfs:splitAtGen fs=none) (hfg:fs.any Frame.guarded=false) (hl:(l,its)∈lvs) (hIl:B<Il) (hIr:B<Ir) (hne:Ir≠Il) (hRi:Gs oR=true)
  (done:∀ s₀ s:Shared,Rel B s₀ s→Co B stk lvs s.heap→s.heap.get? B=some oB→s.heap.get? Ir=some oR →
   Seg (model prog w) A (fun n s₀ r s₁=>r=.ok (.ret .none)∧RP B n s₀ s₁) (YP B (Co B stk lvs) items) below.length s₀ c1 (k (.ok (.ret .none))) fs s) :
  ∀ (r:List Value) (j:Nat),its.toList.drop j=r→(r++below) <:+ items→∀ s₀ s:Shared,Rel B s₀ s→Co B stk lvs s.heap→s.heap.get? B=some oB→s.heap.get? Ir=some oR→s.heap.IsListIter Il l j →
   Seg (model prog w) A (fun n s₀ r s₁=>r=.ok (.ret .none)∧RP B n s₀ s₁) (YP B (Co B stk lvs) items) (r++below).length s₀ (.builtin "proto.yield_from" ⟨[.ref Il,.bool false,.none],[]⟩) ((model prog w).den (.builtin "proto.yield_from" ⟨[.ref Il,.bool false,.none],[]⟩)) (.ret k none false lv c1 p1 []::fs) s:=by
 intro r
 induction r with
 | nil =>
  intro j hj hsuf s₀ s hrel hst hB hR hit
  have hx:its[j]?=none:=by
   rw [← Array.getElem?_toList];exact List.getElem?_eq_none (List.drop_eq_nil_iff.mp hj)
  refine Ug hh hit (hst.2.2 _ hl).2.1 hx fun h' c' he _=>seg_leaf (.ok (.ret .none)) ?_
  have sm:Fl B s.heap h':=fun b o e c=>he b o (fun q=>by
   subst q;obtain⟨o',ho',hc',_⟩:=hit;rw [e] at ho';cases ho'
   rcases c with c | c
   ·exact absurd hIl (Nat.not_lt.mpr (Nat.le_of_lt c))
   ·have:=c.2;unfold Gs at this;rw [hc'] at this;cases this) e
  refine done _ _ (hrel.trans ⟨sm,rfl,rfl⟩) (hst.same sm) (he _ _ (Nat.ne_of_lt hIl) hB) (he _ _ hne hR)
 | cons v r ih =>
  intro j hj hsuf s₀ s hrel hst hB hR hit
  have hlt:j<its.toList.length:=by
   rcases Nat.lt_or_ge j its.toList.length with q | q
   ·exact q
   ·rw [List.drop_eq_nil_of_le q] at hj;cases hj
  have hcons:=List.drop_eq_getElem_cons hlt;rw [hj] at hcons
  have hx:its[j]?=some v:=by
   rw [← Array.getElem?_toList,List.getElem?_eq_getElem hlt];exact congrArg some (List.cons.inj hcons).1.symm
  have hr:=(List.cons.inj hcons).2.symm
  refine Sq (n:=(r++below).length) (by simp [splitAtGen,hfs]) (by simp [Frame.guarded,hfg]) hit (hst.2.2 _ hl).2.1 hx fun h' hit' hsb kap hkap=>?_
  have sm:Fl B s.heap h':=fun b o e c=>(hsb.2 b (fun q=>by
   subst q;obtain⟨o',ho',hc',_⟩:=hit;rw [e] at ho';cases ho'
   rcases c with c | c
   ·exact absurd hIl (Nat.not_lt.mpr (Nat.le_of_lt c))
   ·have:=c.2;unfold Gs at this;rw [hc'] at this;cases this)).trans e
  obtain⟨oI,hoI,hcI,hdI⟩:=hit'
  refine⟨⟨r++below,rfl,hsuf⟩,hrel.trans ⟨sm,rfl,rfl⟩,[(B,oB),(Ir,oR),(Il,oI)],?_,?_,fun s'' hp hRO=>hkap s'' ⟨oI,hp (Il,oI) (by k_mem),hcI⟩ ?_⟩
  ·intro p hp
   simp only [List.mem_cons,List.mem_nil_iff,or_false] at hp
   rcases hp with rfl | rfl | rfl
   ·exact⟨Nat.le_refl _,.inl rfl⟩
   ·exact⟨Nat.le_of_lt hIr,.inr hRi⟩
   ·exact⟨Nat.le_of_lt hIl,.inr (by unfold Gs;rw [hcI];rfl)⟩
  ·intro p hp
   simp only [List.mem_cons,List.mem_nil_iff,or_false] at hp
   rcases hp with rfl | rfl | rfl
   ·exact(hsb.2 _ (Nat.ne_of_lt hIl)).trans hB
   ·exact(hsb.2 _ hne).trans hR
   ·exact hoI
  ·exact ih (j+1) hr ((List.suffix_cons v (r++below)).trans hsuf) s'' s'' (Rel.refl _ _) hRO (hp (B,oB) (by k_mem)) (hp (Ir,oR) (by k_mem)) ⟨oI,hp (Il,oI) (by k_mem),hcI,hdI⟩
end
end Mine
namespace Mine
open PySem.Calls
theorem Kq{B I:Addr}{h h':Heap}(hI:B<I)(ho:∃ o,h.get? I=some o∧Gs o=true)(he:Heap.ExtBut I h h'):Fl B h h':=fun b o e c=>he b o (fun q=>by
 subst q;obtain⟨o',ho',hc'⟩:=ho;rw [e] at ho';cases ho'
 rcases c with c | c
 ·exact absurd hI (Nat.not_lt.mpr (Nat.le_of_lt c))
 ·rw [hc'] at c;cases c.2) e
theorem Li{B:Addr}{h h':Heap}(he:Heap.SameBut B h h'):Fl B h h':=fun b o e c=>(he.2 b (fun q=>by
 subst q
 rcases c with c | c
 ·exact absurd c (Nat.lt_irrefl _)
 ·exact c.1 rfl)).trans e
theorem Hh{B:Addr}{h:Heap}(o:Obj):Fl B h (h.push o):=fun _ _ e _=>Heap.get?_push_of_some _ e
theorem Lg{lvs:List (Addr × Array Value)}{i:Nat}{p:Addr × Array Value}(h:lvs[i]?=some p):comes (lvs.take (i+1))=p.2.toList++comes (lvs.take i):=by
 unfold comes;rw [List.take_add_one,h]
 simp
section
variable{prog:Program}{w:World}{A:Around}{B stk Ir:Addr}{lvs:List (Addr × Array Value)}
theorem Ue{env:Env}{px p1 p2 p3 p4 p5:Pos}{k:Result→Sem Fin}{lv:List Value}{c0:Code}{p0:Pos}{items:List Value}
  (hB:env.locals=B) (hk:env.scope.kind=.function) (hl:env.kindOf "namespaces"=some .local) (hi:interactive env=false)
  (hp:(env.scope.kind == .class || (env.scope.kind == .module && env.locals != env.globals))=false)
  (hh:A.handled=none) (hIr:B<Ir)
  (done:∀ s₀ s:Shared,Rel B s₀ s→Seg (model prog w) A (fun n s₀ r s₁=>r=.ok (.ret .none)∧RP B n s₀ s₁) (YP B (Co B stk lvs) items) 0 s₀ c0 (k (.ok .next)) [] s) :
  ∀ (i:Nat),i≤lvs.length→(comes (lvs.take i)) <:+ items→∀ (s₀ s:Shared) (m:Str→Option Value),Rel B s₀ s→Co B stk lvs s.heap→s.heap.Ns B m→s.heap.IsRevIter Ir stk ((i:Int) - 1) →
   Seg (model prog w) A (fun n s₀ r s₁=>r=.ok (.ret .none)∧RP B n s₀ s₁) (YP B (Co B stk lvs) items) (comes (lvs.take i)).length s₀
    (.forLoop (.Name "namespaces" px) (.ref Ir) [.If (.Name "namespaces" p1) [.Expr (.YieldFrom (.Name "namespaces" p2) p3) p4] [] p5] [] env)
    ((model prog w).den (.forLoop (.Name "namespaces" px) (.ref Ir) [.If (.Name "namespaces" p1) [.Expr (.YieldFrom (.Name "namespaces" p2) p3) p4] [] p5] [] env)) [.ret k none false lv c0 p0 []] s:=by
 subst hB;intro i
 induction i with
 | zero =>
  intro _ _ s₀ s m hrel hst hns hit
  refine Kr (wpAny_pyNext_rev_end hh hit fun h' he=>?_)
  intro c';refine seg_leaf (.ok .next) (done _ _ (hrel.trans ⟨Kq hIr ?_ he,rfl,rfl⟩));obtain⟨o,ho,hc,_⟩:=hit
  exact⟨o,ho,by unfold Gs;rw [hc];rfl⟩
 | succ i ih =>
  intro hi' hsuf s₀ s m hrel hst hns hit;have hlt:i<lvs.length:=hi';obtain⟨p,hp'⟩:∃ p,lvs[i]?=some p:=⟨_,List.getElem?_eq_getElem hlt⟩;have hmem:p∈lvs:=List.mem_of_getElem? hp'
  have hit0:s.heap.IsRevIter Ir stk (i:Int):=by
   have:(((i+1:Nat):Int) - 1)=(i:Int):=by lia
   rw [this] at hit;exact hit
  have hItI:∃ o,s.heap.get? Ir=some o∧Gs o=true:=by
   obtain⟨o,ho,hc,_⟩:=hit
   exact⟨o,ho,by unfold Gs;rw [hc];rfl⟩
  rw [Lg hp'] at hsuf ⊢
  refine Kr (wpAny_pyNext_rev_item hit0 hst.2.1 (x:=.ref p.1) (by rw [List.getElem?_toArray,List.getElem?_map,hp'];rfl) fun h₁ hit₁ hsb₁=>?_)
  have sm₁:Fl env.locals s.heap h₁:=Kq hIr hItI hsb₁.extBut;have hst₁:=hst.same sm₁;have hns₁:h₁.Ns env.locals m:=hns.extBut hsb₁.extBut (Nat.ne_of_lt hIr)
  refine wpAny_assign_Name (wpAny_storeName_local hl hns₁ (fun h₂ hns₂ hsb₂=>?_) hp)
  intro K' H' hK';have sm₂:Fl env.locals h₁ h₂:=Li hsb₂;have hst₂:=hst₁.same sm₂
  have hit₂:h₂.IsRevIter Ir stk ((i:Int) - 1):=hit₁.at fun o e=>(hsb₂.2 Ir (Nat.ne_of_gt hIr)).trans e
  refine seg_execs_cons (seg_If (isTrue_plain (wpAny_Name (wpAny_loadName_local hk hl hns₂ (by rw [if_pos rfl]) ?_))))
  refine wpAny_truthy_list (hst₂.2.2 p hmem).2.1 (hst₂.2.2 p hmem).2.2 ?_
  cases hemp:p.2.isEmpty with
  | true =>
   rw [if_neg (by decide)]
   refine seg_execs_nil ?_
   show Seg _ _ _ _ _ _ _ ((execs [] env).wrap K' H' id id) _ _
   refine seg_execs_nil ?_;rw [hK'];refine seg_again rfl ?_
   have hnil:p.2.toList=[]:=by simpa using hemp
   rw [hnil,List.nil_append] at hsuf ⊢;exact ih (Nat.le_of_lt hlt) hsuf _ _ _ (hrel.trans ⟨sm₁.trans sm₂,rfl,rfl⟩) hst₂ hns₂ hit₂
  | false =>
   rw [if_pos (by decide)]
   refine seg_execs_cons (Od hi (wpAny_Name (wpAny_loadName_local hk hl hns₂ (by rw [if_pos rfl]) ?_)))
   refine wpAny_typeOf (T:="list") (hst₂.2.2 p hmem).2.1.typeIs ⟨by decide +kernel,?_⟩
   refine wpAny_pyIter_list (hst₂.2.2 p hmem).2.1 ?_;intro k' p' hk';obtain⟨oB,esB,epB,hoB,rB⟩:=id hns₂;obtain⟨oR,hoR,hcR,hdR⟩:=id hit₂;have hsz:env.locals<h₂.objs.size:=Heap.lt_size hoB
   refine Wh (oB:=oB) (oR:=oR) (below:=comes (lvs.take i)) ?hh rfl rfl hmem hsz hIr (Nat.ne_of_lt (Heap.lt_size hoR)) (by unfold Gs;rw [hcR];rfl) ?_ _ 0 rfl hsuf _ _ (hrel.trans ⟨(sm₁.trans sm₂).trans (Hh _),rfl,rfl⟩) (hst₂.same (Hh _)) (Heap.get?_push_of_some _ hoB) (Heap.get?_push_of_some _ hoR) ⟨_,Heap.get?_push_size _ rfl,rfl,rfl⟩
   case hh=>exact hh
   intro s₀' s' hrel' hst' hB' hR';rw [hk']
   show Seg _ _ _ _ _ _ _ ((execs [] env).wrap _ H' id id) _ _
   refine seg_execs_nil ?_
   show Seg _ _ _ _ _ _ _ ((execs [] env).wrap K' H' id id) _ _
   refine seg_execs_nil ?_;rw [hK'];refine seg_again rfl ?_;exact ih (Nat.le_of_lt hlt) ((List.suffix_append _ _).trans hsuf) _ _ _ hrel' hst' (Heap.Ns.at_ hns₂ hoB hB') ⟨oR,hR',hcR,hdR⟩
theorem Nb{env:Env}{px p1 p2 p3 p4 p5:Pos}{k:Result→Sem Fin}{lv:List Value}{c0:Code}{p0:Pos}{s₀ s:Shared}{m:Str→Option Value}
  (hB:env.locals=B) (hk:env.scope.kind=.function) (hl:env.kindOf "namespaces"=some .local) (hi:interactive env=false)
  (hp:(env.scope.kind == .class || (env.scope.kind == .module && env.locals != env.globals))=false)
  (hh:A.handled=none) (hIr:B<Ir) (hrel:Rel B s₀ s) (hst:Co B stk lvs s.heap) (hns:s.heap.Ns B m) (hit:s.heap.IsRevIter Ir stk ((lvs.length:Int) - 1))
  (done:∀ s₀ s:Shared,Rel B s₀ s→Seg (model prog w) A (fun n s₀ r s₁=>r=.ok (.ret .none)∧RP B n s₀ s₁) (YP B (Co B stk lvs) (comes lvs)) 0 s₀ c0 (k (.ok .next)) [] s) :
   Seg (model prog w) A (fun n s₀ r s₁=>r=.ok (.ret .none)∧RP B n s₀ s₁) (YP B (Co B stk lvs) (comes lvs)) (comes lvs).length s₀
    (.forLoop (.Name "namespaces" px) (.ref Ir) [.If (.Name "namespaces" p1) [.Expr (.YieldFrom (.Name "namespaces" p2) p3) p4] [] p5] [] env)
    ((model prog w).den (.forLoop (.Name "namespaces" px) (.ref Ir) [.If (.Name "namespaces" p1) [.Expr (.YieldFrom (.Name "namespaces" p2) p3) p4] [] p5] [] env)) [.ret k none false lv c0 p0 []] s:=by
 have e:=Ue (px:=px) (p1:=p1) (p2:=p2) (p3:=p3) (p4:=p4) (p5:=p5) (p0:=p0) (lv:=lv) hB hk hl hi hp hh hIr done lvs.length (Nat.le_refl _) (by rw [List.take_length];exact List.suffix_refl _) s₀ s m hrel hst hns hit
 rw [List.take_length] at e;exact e
end
end Mine
namespace Mine
open PySem.Calls
section
variable{prog:Program}{w:World}{A:Around}{E:Value→Shared→Prop}{s:Shared}
theorem Rw{a:Addr}{g n:Nat}{gs:GenState}{P:Nat→Shared→Shared→Prop}{Y:Protocol}{Q:Option Value→Shared→Prop}(hh:A.handled=none)
  (hl:s.heap.NoLimit) (zq:A.depth<recursionLimit) (hg:s.heap.IsGen a g) (hgs:s.gens[g]?=some gs)
  (hgo:gs.Goes (model prog w) A.in1 (fun n s₀ r s₁=>r=.ok (.ret .none)∧P n s₀ s₁) Y n (.send .none) (s.setGen g .running))
  (hY:∀ v s₁ gs',gs'.bare=true→Y (n - 1) (s.setGen g .running) v s₁ (fun r' s''=>match n with
    | 0=>False
    | m+1=>gs'.Goes (model prog w) A.in1 (fun n s₀ r s₁=>r=.ok (.ret .none)∧P n s₀ s₁) Y m r' s'')→Q (some v) (s₁.setGen g gs'))
  (hP:∀ s₁,P n (s.setGen g .running) s₁→∀ h',(∀ b o,s₁.heap.get? b=some o→h'.get? b=some o)→Q none { s₁.setGen g .finished with heap:=h' }) :
  wpAny (model prog w) A (pyNext (.ref a)) Q E s:=by
 unfold pyNext
 refine Wb (wpAny_attempt (wpAny_callSpecial?_slot (name:="__next__") hg.typeIs slot_gen_next
  (wpAny_call_entry slot_gen_next hg.typeIs entry_gen_next ?_ (args_gen_next _))))
 show wpAny _ A.in1 (Builtin.Generator.genWake (.ref a) (.send .none)) _ _ s
 unfold Builtin.Generator.genWake;refine Wb (wpAny_holding (wpAny_genNumber hg (Wb (wpAny_genState hgs ?_))))
 cases gs with
 | running=>exact hgo.elim
 | finished=>exact hgo.elim
 | _ =>
  refine Wb (wpAny_roomToWake hl zq ?_)
  show wpAny _ A.in1 (.resume g (.send .none) [] _) _ _ s
  refine wpAny_resumeQ hgs hgo (fun x s₁ hx=>?_) (fun v s₁ gs' hb hv=>?_)
  ·obtain⟨rfl,hp⟩:=hx
   show wpAny _ A.in1 (newExc (.type "StopIteration") [] >>= _) _ _ _
   refine Wb ?_;unfold newExc newTuple;dsimp only
   refine Wb (wpAny_newObj_type ?_ (by size_fits))
   refine Wb (m:=firstArgMember _ _) (wpAny_of_eq (a:=.none) (by first | rfl | (simp only [firstArgMember];rfl)) ?_)
   refine wpAny_newObj_type ?_ (by size_fits)
   simp only [raiseNew]
   refine Wb (Wb (wpAny_handled ?_));rw [Around.in1_handled,hh];refine wpAny_throw ?_;refine Wb (wpAny_isInstance (T:="StopIteration") (b:=true) ⟨_,Heap.get?_push_size _ rfl,rfl⟩ isSubtype_stop ?_)
   exact Wp (hP s₁ hp _ fun b o hb=>Heap.get?_push_of_some _ (Heap.get?_push_of_some _ hb))
  ·exact Wp ⟨v,rfl,Wp (hY v s₁ gs' hb hv)⟩
noncomputable def GenAt(prog:Program)(w:World)(A:Around)(B stk:Addr)(lvs:List (Addr × Array Value))(gn:Nat)(rem:List Value)(priv:List (Addr × Obj))(gens:Array GenState):Prop :=
 rem <:+ comes lvs∧Priv B priv∧∃ gs,gens[gn]?=some gs∧gs.bare=true∧∀ s'':Shared,(∀ p∈priv,s''.heap.get? p.1=some p.2)→Co B stk lvs s''.heap →
  gs.Goes (model prog w) A.in1 (fun n s₀ r s₁=>r=.ok (.ret .none)∧RP B n s₀ s₁) (YP B (Co B stk lvs) (comes lvs)) rem.length (.send .none) s''
theorem Fb{gens:Array GenState}{i:Nat}{x:GenState}(h:AllBare gens)(hx:x.bare=true):AllBare (gens.setIfInBounds i x):=by
 intro y hy
 rcases Array.mem_or_eq_of_mem_setIfInBounds hy with q | q
 ·exact h y q
 ·rw [q];exact hx
theorem Tc{α:Type}{l:List α}{v v':α}{r r':List α}(h:(v::r) <:+ l)(h':(v'::r') <:+ l)(hl:r.length=r'.length):v=v'∧r=r':=by
 obtain⟨t,ht⟩:=h;obtain⟨t',ht'⟩:=h';have e:t++v::r=t'++v'::r':=ht.trans ht'.symm
 have zd:t.length=t'.length:=by
  have:=congrArg List.length e
  simp only [List.length_append,List.length_cons] at this
  exact(Nat.le_antisymm (Nl fun hn2=>fk [_,_,_,_] (.e V0 V1 (.e (.a V2 (.s V1)) (.a V3 (.s V0)) (.e (.s V3) V2 K0))) rfl (Es hl) (El this) hn2) (Nl fun hn3=>fk [_,_,_,_] (.e V0 V1 (.e (.a V2 (.s V1)) (.a V3 (.s V0)) (.e (.s V3) V2 K0))) rfl (El hl) (Es this) hn3))
 have:=List.append_inj e zd;exact⟨(List.cons.inj this.2).1,(List.cons.inj this.2).2⟩
noncomputable def Me(w:World)(A:Around)(s:Shared)(prog:Program)(E:Value→Shared→Prop)(a B stk:Addr)(lvs:List (Addr × Array Value))(gn:Nat)(v:Value)(rem:List Value)(priv:List (Addr × Obj))(Q:Option Value→Shared→Prop):Prop :=
 ∀ (hh:A.handled=none) (hl:s.heap.NoLimit) (zq:A.depth<recursionLimit) (hg:s.heap.IsGen a gn) (G:GenAt prog w A B stk lvs gn (v::rem) priv s.gens) (hp:∀ p∈priv,s.heap.get? p.1=some p.2) (hst:Co B stk lvs s.heap) (hb:AllBare s.gens) (h:∀ s' priv',GenAt prog w A B stk lvs gn rem priv' s'.gens→(∀ p∈priv',s'.heap.get? p.1=some p.2)→Fl B s.heap s'.heap→s'.os=s.os→AllBare s'.gens→Q (some v) s'),wpAny (model prog w) A (pyNext (.ref a)) Q E s
theorem Xn:∀ {a b c d e f g h i j k l m n},Me a b c d e f g h i j k l m n:=by
 refine @(Ab (Ao neW)<|@(Dq neI<|let_mvar% ?n:=(fun w A s prog E a B stk lvs gn v rem priv Q=>?_:∀ a b c d e f g h i j k l m n,Me a b c d e f g h i j k l m n);?n _ _ _ _ _ _ _ _ _ _ _ _ _ _))
 intro hh hl zq hg G hp hst hb h;obtain⟨hsuf,hpr,gs,hgs,hbare,hgo⟩:=G
 refine Rw hh hl zq hg hgs (hgo (s.setGen gn .running) hp hst) (fun v' s₁ gs' hb' hY=>?_) (fun s₁ hP=>?_)
 ·obtain⟨⟨rest,zd,hsuf'⟩,hrel,priv',hpr',hin',hgo'⟩:=hY
  have hlen':rest.length=rem.length:=by simpa using zd
  obtain⟨rfl,rfl⟩:=Tc hsuf hsuf' hlen'.symm;have hgens:s₁.gens=s.gens.setIfInBounds gn .running:=hrel.gens
  have hlt:gn<s.gens.size:=by
   rcases Nat.lt_or_ge gn s.gens.size with q | q
   ·exact q
   ·rw [Array.getElem?_eq_none q] at hgs;cases hgs
  refine h (s₁.setGen gn gs') priv' ⟨(List.suffix_cons v rem).trans hsuf,hpr',gs',?_,hb',fun s'' h1 h2=>hgo' s'' h1 h2⟩ hin' hrel.heap hrel.os ?_
  ·show (s₁.gens.setIfInBounds gn gs')[gn]?=some gs'
   rw [Array.getElem?_setIfInBounds_self_of_lt];rw [hgens];simpa using hlt
  ·show AllBare (s₁.gens.setIfInBounds gn gs')
   refine Fb ?_ hb';rw [hgens];exact Fb hb rfl
 ·obtain⟨h0,_⟩:=hP
  cases h0
noncomputable def Ot(w:World)(A:Around)(s:Shared)(prog:Program)(E:Value→Shared→Prop)(a B stk:Addr)(lvs:List (Addr × Array Value))(gn:Nat)(priv:List (Addr × Obj))(Q:Option Value→Shared→Prop):Prop :=
 ∀ (hh:A.handled=none) (hl:s.heap.NoLimit) (zq:A.depth<recursionLimit) (hg:s.heap.IsGen a gn) (G:GenAt prog w A B stk lvs gn [] priv s.gens) (hp:∀ p∈priv,s.heap.get? p.1=some p.2) (hst:Co B stk lvs s.heap) (hb:AllBare s.gens) (h:∀ s',Fl B s.heap s'.heap→s'.os=s.os→AllBare s'.gens→Q none s'),wpAny (model prog w) A (pyNext (.ref a)) Q E s
theorem gen_end:∀ {a b c d e f g h i j k l},Ot a b c d e f g h i j k l:=by
 refine @(Ab (Ao neW)<|@(Ed neI<|let_mvar% ?n:=(fun w A s prog E a B stk lvs gn priv Q=>?_:∀ a b c d e f g h i j k l,Ot a b c d e f g h i j k l);?n _ _ _ _ _ _ _ _ _ _ _ _))
 intro hh hl zq hg G hp hst hb h;obtain⟨hsuf,hpr,gs,hgs,hbare,hgo⟩:=G
 refine Rw hh hl zq hg hgs (hgo (s.setGen gn .running) hp hst) (fun v' s₁ gs' hb' hY=>?_) (fun s₁ hP h' hk=>?_)
 ·obtain⟨_,hrel,priv',_,hin',hgo'⟩:=hY
  exact(hgo' s₁ hin' (hst.same hrel.heap)).elim
 ·obtain⟨_,hrel⟩:=hP
  refine h _ (fun b o e c=>hk b o (hrel.heap b o e c)) hrel.os ?_
  show AllBare (s₁.gens.setIfInBounds gn .finished)
  refine Fb ?_ rfl;rw [hrel.gens];exact Fb hb rfl
noncomputable def Mf(w:World)(A:Around)(s:Shared)(prog:Program)(R:Result→Shared→Prop)(K:Frag)(g:Heap)(name qual:Str)(params:Arguments)(scope:Scope)(dV kV doc pm cdv ct oc:Value)(an od:Option Addr)(osl:Array (Option Value))(f:Addr)(args:Args)(binds:List (Str × Value))(px p1 p2 p3 p4 p5 p6 p7 p8 p9:Pos)(stk:Addr)(lvs:List (Addr × Array Value)):Prop :=
 ∀ (hk:∀ b o,g.get? b=some o→s.heap.get? b=some o) (X:K.In g) (hlim:g.NoLimit) (hb:AllBare s.gens) (hh:A.handled=none) (ho:K.lookup f=some ⟨oc,od,.func (fnOf name qual params [.For (.Name "namespaces" px) (.Call (.Name "_reversed" p6) [.Name "ns_stack" p7] [] p8) [.If (.Name "namespaces" p1) [.Expr (.YieldFrom (.Name "namespaces" p2) p3) p4] [] p5] [] p9] scope dV kV doc pm an cdv ct),osl⟩) (hcd:codeIn K cdv qual=true) (zq:A.depth<recursionLimit) (zh:BindsTo s (fnOf name qual params [.For (.Name "namespaces" px) (.Call (.Name "_reversed" p6) [.Name "ns_stack" p7] [] p8) [.If (.Name "namespaces" p1) [.Expr (.YieldFrom (.Name "namespaces" p2) p3) p4] [] p5] [] p9] scope dV kV doc pm an cdv ct) args binds) (hloc:∀ y∈binds,scope.names.lookup y.1=some .local) (hm1:binds.reverse.lookup (Str.ofString "_reversed")=some (Value.type "reversed")) (hm2:binds.reverse.lookup (Str.ofString "ns_stack")=some (Value.ref stk)) (hst:s.heap.IsList stk (lvs.map fun p=>Value.ref p.1).toArray) (hlv:∀ p∈lvs,s.heap.IsList p.1 p.2∧(p.2.size:Int)<2 ^ 63) (h:∀ h' tk priv,(∀ b o,s.heap.get? b=some o→h'.get? b=some o)→s.heap.objs.size<h'.objs.size→h'.IsGen (s.heap.objs.size+1) s.gens.size→h'.objs.size=s.heap.objs.size+2 →
   ∀ gens',AllBare gens'→GenAt prog w A s.heap.objs.size stk lvs s.gens.size (comes lvs) priv gens'→(∀ p∈priv,h'.get? p.1=some p.2)→(∀ p∈priv,p.1=s.heap.objs.size)→Co s.heap.objs.size stk lvs h' →
   R (.ok (.ret (.ref (s.heap.objs.size+1)))) { s with heap:=h',gens:=gens',toks:=tk }) (hgen:scope.isGenerator=true) (hco:scope.isCoroutine=false) (hkd:scope.kind=.function) (hl1:(envOf qual scope s.heap.objs.size f cdv).kindOf "namespaces"=some .local) (hl2:(envOf qual scope s.heap.objs.size f cdv).kindOf "_reversed"=some .local) (hl3:(envOf qual scope s.heap.objs.size f cdv).kindOf "ns_stack"=some .local) (hcell:∀ x∈scope.names,x.2≠.cell),codeAny (model prog w) A (.call (.ref f) args) R s
theorem Pw:∀ a b c d e f g h i j k l m n o p q r s t u v w x y z a1 b1 c1 d1 e1 f1 g1 h1 i1 j1,Mf a b c d e f g h i j k l m n o p q r s t u v w x y z a1 b1 c1 d1 e1 f1 g1 h1 i1 j1:=by
 refine Ab (Ao neW)<|Ab neI<|Ab neI<|Ab neI<|Ed neI<|let_mvar% ?n:=(fun w A s prog R K g name qual params scope dV kV doc pm cdv ct oc an od osl f args binds px p1 p2 p3 p4 p5 p6 p7 p8 p9 stk lvs=>?_:∀ a b c d e f g h i j k l m n o p q r s t u v w x y z a1 b1 c1 d1 e1 f1 g1 h1 i1 j1,Mf a b c d e f g h i j k l m n o p q r s t u v w x y z a1 b1 c1 d1 e1 f1 g1 h1 i1 j1);?n _ _ _ _ _ _ _ _ _ _ _ _ _ _ _ _ _ _ _ _ _ _ _ _ _ _ _ _ _ _ _ _ _ _ _ _
 intro hk X hlim hb hh ho hcd zq zh hloc hm1 hm2 hst hlv h hgen hco hkd hl1 hl2 hl3 hcell;refine codeAny_call_generator zq ((X.keeps hk) _ _ ho) rfl hco hgen rfl (codeRec_of (X.keeps hk) hcd) (zh _ _ _ _ ?_)
 refine wpAny_newFunctionEnv hcell hloc (fun h₀ hns₀ hsb₀=>⟨(hlim.keeps hk).fresh _ hsb₀,?_⟩) hkd
 have keep₀:∀ b o,s.heap.get? b=some o→h₀.get? b=some o:=fun b o e=>hsb₀.extBut b o (Nat.ne_of_lt (Heap.lt_size e)) (Heap.get?_push_of_some _ e)
 have size₀:h₀.objs.size=s.heap.objs.size+1:=by rw [hsb₀.1,Heap.size_push]
 have keep₁:∀ (o':Obj) b o,s.heap.get? b=some o→(h₀.push o').get? b=some o:=fun o' b o e=>Heap.get?_push_of_some _ (keep₀ b o e)
 have stack₁:∀ o':Obj,Co s.heap.objs.size stk lvs (h₀.push o'):=fun o'=>by
  have one:∀ a its,s.heap.IsList a its→a≠s.heap.objs.size∧(h₀.push o').IsList a its:=fun a its ⟨o,ho,r⟩=>⟨Nat.ne_of_lt (Heap.lt_size ho),o,keep₁ o' a o ho,r⟩
  exact⟨(one _ _ hst).1,(one _ _ hst).2,fun p hp=>⟨(one _ _ (hlv p hp).1).1,(one _ _ (hlv p hp).1).2,(hlv p hp).2⟩⟩
 obtain⟨oB,esB,epB,hoB,rB⟩:=id hns₀;rw [show h₀.objs.size=s.heap.objs.size+1 from size₀]
 refine h _ _ [(s.heap.objs.size,oB)] (keep₁ _) (by rw [Heap.size_push,size₀];exact(Nt fun hn1=>fk [_] (.e (.a (.s V0) K1) V0 K0) rfl hn1)) ⟨_,_,_,by rw [← size₀];exact Heap.get?_push_size _ rfl,rfl,rfl,rfl⟩ (by rw [Heap.size_push,size₀]) _ ?_ ?_ ?_ ?_ (stack₁ _)
 ·intro y hy
  rcases Array.mem_push.mp hy with q | q
  ·exact hb y q
  ·rw [q];rfl
 ·refine⟨List.suffix_refl _,?_,_,Array.getElem?_push_size ..,rfl,fun s'' hp hS=>⟨rfl,?_⟩⟩
  ·intro p hp
   rcases List.mem_singleton.mp hp with rfl;exact⟨Nat.le_refl _,.inl rfl⟩
  ·have hns'':s''.heap.Ns s.heap.objs.size (fun x=>binds.reverse.lookup x):=Heap.Ns.at_ hns₀ hoB (hp _ (List.mem_singleton.mpr rfl))
   have hpl:((envOf qual scope s.heap.objs.size f cdv).scope.kind == .class || ((envOf qual scope s.heap.objs.size f cdv).scope.kind == .module && (envOf qual scope s.heap.objs.size f cdv).locals != (envOf qual scope s.heap.objs.size f cdv).globals))=false:=by
    show (scope.kind == .class || (scope.kind == .module && _))=false;rw [hkd];rfl
   refine seg_func (seg_execs_cons (seg_For (fun _=>rfl) ?_))
   refine PySem.Call_name1 rfl (wpAny_Name (wpAny_loadName_local hkd hl2 hns'' hm1 (PySem.callWith_type1 (wpAny_Name (wpAny_loadName_local hkd hl3 hns'' hm2 ?_)))));refine call_reversed_list hS.2.1 ?_;refine wpAny_pyIter_revIter ⟨_,Heap.get?_push_size _ rfl,rfl,rfl⟩ ?_;intro k p hk'
   have zd:((List.map (fun p=>Value.ref p.1) lvs).toArray.size:Int) - 1=(lvs.length:Int) - 1:=by simp
   refine Nb (m:=fun x=>binds.reverse.lookup x) rfl hkd hl1 (by show (scope.kind == .module && _)=false;rw [hkd];rfl) hpl hh (Heap.Ns.lt hns'') ⟨Hh _,rfl,rfl⟩ (hS.same (Hh _)) (hns''.push _) ⟨_,Heap.get?_push_size _ rfl,rfl,by rw [zd];rfl⟩ ?_
   intro s₀ s₁ hr;rw [hk'];exact seg_end (.ok (.ret .none)) ⟨rfl,rfl,hr⟩
 ·intro p hp
  rcases List.mem_singleton.mp hp with rfl;exact Heap.get?_push_of_some _ hoB
 ·intro p hp
  rcases List.mem_singleton.mp hp with rfl
  rfl
theorem Xo{R:Result→Shared→Prop}{K:Frag}{g:Heap}{name qual:Str}{params:Arguments}{scope:Scope}{dV kV doc pm cdv ct oc:Value}{an od:Option Addr}{osl:Array (Option Value)}{f:Addr}{args:Args}{binds:List (Str × Value)}
  {px p1 p2 p3 p4 p5 p6 p7 p8 p9:Pos} {stk:Addr} {lvs:List (Addr × Array Value)}
  (hk:∀ b o,g.get? b=some o→s.heap.get? b=some o) (X:K.In g) (hlim:g.NoLimit) (hb:AllBare s.gens) (hh:A.handled=none)
  (ho:K.lookup f=some ⟨oc,od,.func (fnOf name qual params [.For (.Name "namespaces" px) (.Call (.Name "_reversed" p6) [.Name "ns_stack" p7] [] p8) [.If (.Name "namespaces" p1) [.Expr (.YieldFrom (.Name "namespaces" p2) p3) p4] [] p5] [] p9] scope dV kV doc pm an cdv ct),osl⟩) (hcd:codeIn K cdv qual=true) (zq:A.depth<recursionLimit)
  (zh:BindsTo s (fnOf name qual params [.For (.Name "namespaces" px) (.Call (.Name "_reversed" p6) [.Name "ns_stack" p7] [] p8) [.If (.Name "namespaces" p1) [.Expr (.YieldFrom (.Name "namespaces" p2) p3) p4] [] p5] [] p9] scope dV kV doc pm an cdv ct) args binds) (hloc:∀ y∈binds,scope.names.lookup y.1=some .local)
  (hm1:binds.reverse.lookup (Str.ofString "_reversed")=some (Value.type "reversed")) (hm2:binds.reverse.lookup (Str.ofString "ns_stack")=some (Value.ref stk))
  (hst:s.heap.IsList stk (lvs.map fun p=>.ref p.1).toArray) (hlv:∀ p∈lvs,s.heap.IsList p.1 p.2∧(p.2.size:Int)<2 ^ 63)
  (h:∀ h' tk priv,(∀ b o,s.heap.get? b=some o→h'.get? b=some o)→s.heap.objs.size<h'.objs.size→h'.IsGen (s.heap.objs.size+1) s.gens.size→h'.objs.size=s.heap.objs.size+2 →
   ∀ gens',AllBare gens'→GenAt prog w A s.heap.objs.size stk lvs s.gens.size (comes lvs) priv gens'→(∀ p∈priv,h'.get? p.1=some p.2)→(∀ p∈priv,p.1=s.heap.objs.size)→Co s.heap.objs.size stk lvs h' →
   R (.ok (.ret (.ref (s.heap.objs.size+1)))) { s with heap:=h',gens:=gens',toks:=tk })
  (hgen:scope.isGenerator=true:=by rfl) (hco:scope.isCoroutine=false:=by rfl) (hkd:scope.kind=.function:=by rfl)
  (hl1:(envOf qual scope s.heap.objs.size f cdv).kindOf "namespaces"=some .local:=by rfl) (hl2:(envOf qual scope s.heap.objs.size f cdv).kindOf "_reversed"=some .local:=by rfl) (hl3:(envOf qual scope s.heap.objs.size f cdv).kindOf "ns_stack"=some .local:=by rfl)
  (hcell:∀ x∈scope.names,x.2≠.cell:=by decide):codeAny (model prog w) A (.call (.ref f) args) R s:=Pw w A s prog R K g name qual params scope dV kV doc pm cdv ct oc an od osl f args binds px p1 p2 p3 p4 p5 p6 p7 p8 p9 stk lvs hk X hlim hb hh ho hcd zq zh hloc hm1 hm2 hst hlv h hgen hco hkd hl1 hl2 hl3 hcell
end
end Mine
namespace Mine
open PySem.Calls
noncomputable abbrev wd(hs:Nat→Int)(tk:Nat→Tok)(c2 c3 c4 c5 c6 c7 c8 c13:Value)(wr da de ns pm pr:Addr)(rs rd:Bool)(ig:Int):List DictEntry :=
 [⟨hs 0,.str "_write" (tk 0),.ref wr⟩,⟨hs 1,.str "_data" (tk 1),.ref da⟩,⟨hs 2,.str "_with_comments" (tk 2),c2⟩,⟨hs 3,.str "_strip_text" (tk 3),c3⟩,
  ⟨hs 4,.str "_exclude_attrs" (tk 4),c4⟩,⟨hs 5,.str "_exclude_tags" (tk 5),c5⟩,⟨hs 6,.str "_rewrite_prefixes" (tk 6),c6⟩,⟨hs 7,.str "_qname_aware_tags" (tk 7),c7⟩,
  ⟨hs 8,.str "_find_qname_aware_attrs" (tk 8),c8⟩,⟨hs 9,.str "_declared_ns_stack" (tk 9),.ref de⟩,⟨hs 10,.str "_ns_stack" (tk 10),.ref ns⟩,⟨hs 11,.str "_prefix_map" (tk 11),.ref pm⟩,
  ⟨hs 12,.str "_preserve_space" (tk 12),.ref pr⟩,⟨hs 13,.str "_pending_start" (tk 13),c13⟩,⟨hs 14,.str "_root_seen" (tk 14),.bool rs⟩,⟨hs 15,.str "_root_done" (tk 15),.bool rd⟩,
  ⟨hs 16,.str "_ignored_depth" (tk 16),.int ig (tk 17)⟩]
noncomputable abbrev Ae(its:Array Value):Obj:={ cls:=.type "tuple",data:=.seq its }
end Mine
namespace Mine
open PySem.Calls
open PySem.Builtin PySem.Builtin.Str PySem.Builtin.Int
section
variable{prog:Program}{w:World}{A:Around}{E:Value→Shared→Prop}{s:Shared}{h₀:Heap}{L:Addr}{m:Str→Option Value}{news:List (Addr × Obj)}
theorem Sm(x y:Str)(t u k:Tok):∃ raising:Sem Fin,«str.rsplit» ⟨[.str x t,.str y u,.int 1 k],[]⟩ =
  (if (decide (x.length<y.length) || decide (strKind x<strKind y))=true then(do rule "str.rsplit.sep-cannot-occur";ret (← newList [.str x t])) else
   if (y.length == 0)=true then raising else
   if (true && (occurrencesFromRight x y 1).isEmpty)=true then(do rule "str.rsplit.same-object";ret (← newList [.str x t])) else
   (do ret (← newList (← (partsBetween x (occurrencesFromRight x y 1) y.length).mapM mkStr)))):=⟨_,rfl⟩
noncomputable def cutR(x y a b:Str):Bool:=!(decide (x.length<y.length) || decide (strKind x<strKind y)) && !(y.length == 0) && !(occurrencesFromRight x y 1).isEmpty && partsBetween x (occurrencesFromRight x y 1) y.length == [a,b]
noncomputable def Pc(w:World)(A:Around)(s:Shared)(prog:Program)(E:Value→Shared→Prop)(h₀:Heap)(L:Addr)(m:Str→Option Value)(news:List (Addr × Obj))(x y a b:Str)(t u k:Tok)(Q:Value→Shared→Prop):Prop :=
 ∀ (hF:Fr h₀ L s.heap m) (N:News h₀ L s.heap news) (hc:cutR x y a b=true) (hsz:x.length≤sizeLine) (h:∀ h' t1 t2 tk,Fr h₀ L h' m→News h₀ L h' ((s.heap.objs.size,listOf #[.str a t1,.str b t2] 0)::news)→Q (.ref s.heap.objs.size) { s with heap:=h',toks:=tk }),wpAny (model prog w) A (call (.builtin "str.rsplit") [.str x t,.str y u,.int 1 k]) Q E s
theorem rsplit1:∀ {a b c d e f g h i j k l m n o p q},Pc a b c d e f g h i j k l m n o p q:=by
 refine @(Ab (Ao neW)<|@(Ab neI<|@(Au neI<|let_mvar% ?n:=(fun w A s prog E h₀ L m news x y a b t u k Q=>?_:∀ a b c d e f g h i j k l m n o p q,Pc a b c d e f g h i j k l m n o p q);?n _ _ _ _ _ _ _ _ _ _ _ _ _ _ _ _ _)))
 intro hF N hc hsz h;unfold cutR at hc
 simp only [Bool.and_eq_true,Bool.not_eq_true',beq_iff_eq] at hc
 obtain⟨⟨⟨h1,h2⟩,h3⟩,h4⟩:=hc;obtain⟨raising,htree⟩:=Sm x y t u k;refine wpAny_call_entry F.slot_str_rsplit (typeIs_str _ _ _) F.entry_str_rsplit ?_ (F.args_str_rsplit_3 _ _ _);rw [htree,h1,h2,h3,h4]
 show wpAny _ _ (do ret (← newList (← [a,b].mapM mkStr))) _ _ s
 have hab:∀ p∈[a,b],p.length≤sizeLine:=fun p hp=>by
  rw [← h4] at hp
  simp only [partsBetween,List.mem_map] at hp
  obtain⟨⟨i,j⟩,_,rfl⟩:=hp;exact Nat.le_trans (strSub_length_le ..) hsz
 refine Wb (wpAny_mapM_mkStr _ _ _ hab (Wb (wpAny_newList (Wp ⟨_,rfl,?_⟩) (by show 2≤sizeLine;decide))))
 exact h _ _ _ _ (Fr.pushS hF _) (News.push hF N _)
noncomputable def Cy(prog:Program)(w:World)(o:Obj)(S:Str→Bool)(n:Nat):Prop :=
 ∃ es ep t,o.ExactSet∧o.data=.set es ep t∧ElemsOf (strKind prog w) es.toList∧(∀ k,S k=true↔∃ e∈es.toList,(strKind prog w).is k e.2=true)∧es.size<scanBound∧t.fits es.size=true∧es.size=n
theorem Cy.at{h:Heap}{a:Addr}{o:Obj}{S:Str→Bool}{n:Nat}(x:Cy prog w o S n)(ho:h.get? a=some o):h.SetOf (strKind prog w) a S n :=
 x.elim fun es x=>x.elim fun ep x=>x.elim fun t x=>⟨o,es,ep,t,ho,x⟩
theorem Cy.of{h:Heap}{a:Addr}{S:Str→Bool}{n:Nat}(x:h.SetOf (strKind prog w) a S n):∃ o,h.get? a=some o∧Cy prog w o S n :=
 x.elim fun o x=>x.elim fun es x=>x.elim fun ep x=>x.elim fun t x=>⟨o,x.1,es,ep,t,x.2⟩
theorem Wi{a:Addr}{o:Obj}{S:Str→Bool}{n:Nat}{y:Str}{ty:Tok}{Q:Value→Shared→Prop}(N:News h₀ L s.heap news)(hm:(a,o)∈news)(hS:Cy prog w o S n)
  (h:Q (.bool (!S y)) { s with toks:=s.toks+1 }):wpAny (model prog w) A (compareOp .NotIn (.str y ty) (.ref a)) Q E s :=
 wpAny_notInSet_of (knd:=strKind prog w) (k:=y) (by simp [PySem.strKind,Value.isStrOf]) rfl (hS.at (N _ hm).1) h
noncomputable def Pd(w:World)(A:Around)(s:Shared)(prog:Program)(E:Value→Shared→Prop)(h₀:Heap)(L:Addr)(m:Str→Option Value)(news:List (Addr × Obj))(a:Addr)(o:Obj)(S:Str→Bool)(n:Nat)(y:Str)(ty:Tok)(news':Obj→List (Addr × Obj))(Q:Value→Shared→Prop):Prop :=
 ∀ (hF:Fr h₀ L s.heap m) (N:News h₀ L s.heap news) (hm:(a,o)∈news) (hS:Cy prog w o S n) (hn:n<4000) (hU:∀ o',Upd a o o' news (news' o')) (h:∀ h' o',Fr h₀ L h' m→News h₀ L h' (news' o')→Cy prog w o' (fun k=>S k || decide (k=y)) (if S y then n else n+1)→Q .none { s with heap:=h',toks:=s.toks+1 }),wpAny (model prog w) A (call (.builtin "set.add") [.ref a,.str y ty]) Q E s
theorem Uz:∀ {a b c d e f g h i j k l m n o p q},Pd a b c d e f g h i j k l m n o p q:=by
 refine @(Ab (Ao neW)<|@(Ab neI<|@(Au neI<|let_mvar% ?n:=(fun w A s prog E h₀ L m news a o S n y ty news' Q=>?_:∀ a b c d e f g h i j k l m n o p q,Pd a b c d e f g h i j k l m n o p q);?n _ _ _ _ _ _ _ _ _ _ _ _ _ _ _ _ _)))
 intro hF N hm hS hn hU h
 refine call_set_add (knd:=strKind prog w) (k:=y) (by simp [PySem.strKind,Value.isStrOf]) rfl (hS.at (N _ hm).1) (by unfold scanBound;exact(Nt fun hn1=>fk [_] (.e (.s V0) (.k 4000) (.e (.k 4096) (.s V0) K0)) rfl hn hn1)) fun h' hsb hS'=>?_
 obtain⟨o',ho',hO'⟩:=Cy.of hS';obtain⟨pre,post,e1,e2,n1,n2⟩:=(hU o').split;refine h h' o' (Fr.change hF hsb (N _ hm).2.1 (N _ hm).2.2) ?_ hO';rw [e2];rw [e1] at N;intro p hp
 rcases List.mem_append.mp hp with q | q
 ·have P:=N p (Ml _ q);exact⟨(hsb.2 _ (n1 p q)).trans P.1,P.2⟩
 ·rcases List.mem_cons.mp q with rfl | q
  ·exact⟨ho',(N (a,o) (by simp)).2⟩
  ·have P:=N p (Mr _ (.tail _ q));exact⟨(hsb.2 _ (n2 p q)).trans P.1,P.2⟩
end
end Mine
namespace Mine
open PySem.Calls
section
variable{prog:Program}{w:World}{A:Around}{E:Value→Shared→Prop}{s:Shared}{h₀:Heap}{L:Addr}{m:Str→Option Value}{news:List (Addr × Obj)}
theorem News.ext{h h':Heap}(N:News h₀ L h news)(he:Heap.ExtBut h.objs.size h h'):News h₀ L h' news :=
 fun p hp=>⟨he _ _ (Nat.ne_of_lt (Heap.lt_size (N p hp).1)) (N p hp).1,(N p hp).2⟩
theorem Ke{name:Str}{scope:Scope}{a:Addr}{cd:Value}{x1 x2:Str}{p1 p2 pos:Pos}{k:Nat}{t:Addr}{v1 v2:Value}{Q:Unit→Shared→Prop}(hF:Fr h₀ L s.heap m)(N:News h₀ L s.heap news)(ht:IsTup s.heap t #[v1,v2])(hh:A.handled=none)
  (h:∀ h' tk,Fr h₀ L h' (fun y=>if y=x2 then some v2 else if y=x1 then some v1 else m y)→News h₀ L h' news→Q () { s with heap:=h',toks:=tk })
  (hk:scope.kind=.function:=by rfl) (hl1:(envOf name scope L a cd).kindOf x1=some .local:=by rfl) (hl2:(envOf name scope L a cd).kindOf x2=some .local:=by rfl) :
  wpAny (model prog w) A (assign (.Tuple [.Name x1 p1,.Name x2 p2] k pos) (envOf name scope L a cd) (.ref t)) Q E s:=by
 rw [arm_assign_Tuple];refine Wb (wpAny_standAt ?_)
 show wpAny _ _ (unpack (.ref t) [(false,assign (.Name x1 p1) (envOf name scope L a cd)),(false,assign (.Name x2 p2) (envOf name scope L a cd))]) _ _ _
 unfold unpack;refine Wb (wpAny_holding ?_)
 refine unpackItems_tuple (items:=#[v1,v2]) hh ht fun h' he=>?_
 have hF':Fr h₀ L h' m:=Fr.extBut hF he (Nat.le_refl _);have N':News h₀ L h' news:=News.ext N he
 show wpAny _ _ (do holding [v2] (assign (.Name x1 p1) (envOf name scope L a cd) v1);do holding [] (assign (.Name x2 p2) (envOf name scope L a cd) v2);pure ()) _ _ _
 refine Wb (wpAny_holding (PyProof.Rows.assign_Name (stN hF' N' (fun h2 F2 N2=>?_) hk hl1)))
 refine Wb (wpAny_holding (PyProof.Rows.assign_Name (stN F2 N2 (fun h3 F3 N3=>?_) hk hl2)))
 exact Wp (h h3 _ F3 N3)
theorem Wc{elts:List Expr}{k:Nat}{pos:Pos}{a b:Addr}{gn:Nat}{Q:Unit→Shared→Prop}(hg:s.heap.IsGen a gn)(h:Q () s):wpAny (model prog w) A (letOwnedTupleGo (.Tuple elts k pos) (.ref a) (.ref b)) Q E s:=by
 obtain⟨o,nm,qn,ho,hc,hd,_⟩:=hg;unfold letOwnedTupleGo;refine Wb (wpAny_load ho ?_);rw [hc,hd];exact Wp h
inductive All2 {α β:Type} (P:α→β→Prop):List α→List β→Prop
 | nil:All2 P [] []
 | cons {a:α} {b:β} {l:List α} {r:List β}:P a b→All2 P l r→All2 P (a::l) (b::r)
theorem All2.length{α β:Type}{P:α→β→Prop}{l:List α}{r:List β}(h:All2 P l r):l.length=r.length:=by
 induction h with
 | nil=>rfl
 | cons _ _ ih=>simp [ih]
theorem All2.mono{α β:Type}{P P':α→β→Prop}(hP:∀ a b,P a b→P' a b){l:List α}{r:List β}(h:All2 P l r):All2 P' l r:=by
 induction h with
 | nil=>exact .nil
 | cons x _ ih=>exact .cons (hP _ _ x) ih
theorem All2.append{α β:Type}{P:α→β→Prop}{l l':List α}{r r':List β}(h:All2 P l r)(h':All2 P l' r'):All2 P (l++l') (r++r'):=by
 induction h with
 | nil=>exact h'
 | cons x _ ih=>exact .cons x ih
def Cg(h:Heap)(v:Value)(q:Str × Str):Prop:=∃ t t1 t2,v=.ref t∧IsTup h t #[.str q.1 t1,.str q.2 t2]
theorem Cg.keeps{h h':Heap}(hk:∀ b o,h.get? b=some o→h'.get? b=some o){v:Value}{q:Str × Str}(x:Cg h v q):Cg h' v q :=
 x.imp fun _ x=>x.imp fun _ x=>x.imp fun _ x=>x.imp_right fun x=>x.imp fun _ x=>x.imp_left (hk _ _)
def Lp(o:Obj)(gn:Nat):Prop:=∃ nm qn,o.cls=.type "generator"∧o.data=.fields #[.int gn 0,nm,qn]∧o.slots=#[]
theorem Lp.at{h:Heap}{a gn:Nat}{o:Obj}(x:Lp o gn)(ho:h.get? a=some o):h.IsGen a gn:=let ⟨nm,qn,h1,h2,h3⟩:=x;⟨o,nm,qn,ho,h1,h2,h3⟩
theorem Xm{R:Result→Shared→Prop}{K:Frag}{os:OsState}{name qual:Str}{params:Arguments}{scope:Scope}{dV kV doc pm cdv ct oc:Value}{an od:Option Addr}{osl:Array (Option Value)}{f:Addr}{args:Args}{binds:List (Str × Value)}
  {px p1 p2 p3 p4 p5 p6 p7 p8 p9:Pos} {stk:Addr} {lvs:List (Addr × Array Value)}
  (hF:Fr h₀ L s.heap m) (N:News h₀ L s.heap news) (X:K.In h₀) (hlim:h₀.NoLimit) (hos:s.os=os) (hb:AllBare s.gens) (hh:A.handled=none)
  (ho:K.lookup f=some ⟨oc,od,.func (fnOf name qual params [.For (.Name "namespaces" px) (.Call (.Name "_reversed" p6) [.Name "ns_stack" p7] [] p8) [.If (.Name "namespaces" p1) [.Expr (.YieldFrom (.Name "namespaces" p2) p3) p4] [] p5] [] p9] scope dV kV doc pm an cdv ct),osl⟩) (hcd:codeIn K cdv qual=true) (zq:A.depth<recursionLimit)
  (zh:BindsTo s (fnOf name qual params [.For (.Name "namespaces" px) (.Call (.Name "_reversed" p6) [.Name "ns_stack" p7] [] p8) [.If (.Name "namespaces" p1) [.Expr (.YieldFrom (.Name "namespaces" p2) p3) p4] [] p5] [] p9] scope dV kV doc pm an cdv ct) args binds) (hloc:∀ y∈binds,scope.names.lookup y.1=some .local)
  (hm1:binds.reverse.lookup (Str.ofString "_reversed")=some (Value.type "reversed")) (hm2:binds.reverse.lookup (Str.ofString "ns_stack")=some (Value.ref stk))
  (hst:s.heap.IsList stk (lvs.map fun p=>.ref p.1).toArray) (hlv:∀ p∈lvs,s.heap.IsList p.1 p.2∧(p.2.size:Int)<2 ^ 63)
  (h:∀ (s':Shared) B ga gn oG priv,Fr h₀ L s'.heap m→News h₀ L s'.heap ((ga,oG)::(news++priv))→Lp oG gn→s'.os=os→AllBare s'.gens→GenAt prog w A B stk lvs gn (comes lvs) priv s'.gens→stk≠B→(∀ p∈lvs,p.1≠B) →
   (∀ p∈news,p.1<B)→L<B→ga=B+1→(∀ p∈priv,p.1=B)→R (.ok (.ret (.ref ga))) s')
  (hgen:scope.isGenerator=true) (hco:scope.isCoroutine=false) (hkd:scope.kind=.function)
  (hl1:(envOf qual scope s.heap.objs.size f cdv).kindOf "namespaces"=some .local) (hl2:(envOf qual scope s.heap.objs.size f cdv).kindOf "_reversed"=some .local) (hl3:(envOf qual scope s.heap.objs.size f cdv).kindOf "ns_stack"=some .local)
  (hcell:∀ x∈scope.names,x.2≠.cell):codeAny (model prog w) A (.call (.ref f) args) R s:=by
 refine Xo (g:=h₀) hF.keep X hlim hb hh ho hcd zq zh hloc hm1 hm2 hst hlv (fun h' tk priv hk hlt hg hsz gens' hb' G hp hpB hS=>?_) hgen hco hkd hl1 hl2 hl3 hcell
 obtain⟨oL,esL,epL,hL,rL⟩:=hF.ns;have hLB:L<s.heap.objs.size:=Heap.lt_size hL;obtain⟨oG,nm,qn,hoG,g1,g2,g3⟩:=hg
 have hnew:∀ a,s.heap.objs.size≤a→h₀.get? a=none:=fun a ha=>by
  cases e:h₀.get? a with
  | none=>rfl
  | some o=>exact absurd (Nat.lt_of_lt_of_le (Heap.lt_size (hF.keep _ _ e)) ha) (Nat.lt_irrefl _)
 refine h { s with heap:=h',gens:=gens',toks:=tk } s.heap.objs.size (s.heap.objs.size+1) s.gens.size oG priv ⟨⟨oL,esL,epL,hk _ _ hL,rL⟩,fun b o e=>hk _ _ (hF.keep b o e),hF.above⟩ ?_ ⟨nm,qn,g1,g2,g3⟩ hos hb' G hS.1 (fun p hp=>(hS.2.2 p hp).1) (fun p hp=>Heap.lt_size (N p hp).1) hLB rfl hpB
 ·intro p hp'
  rcases List.mem_cons.mp hp' with rfl | hp'
  ·exact⟨hoG,Nat.ne_of_gt (Nat.lt_succ_of_lt hLB),hnew _ (Nat.le_succ _)⟩
  ·rcases List.mem_append.mp hp' with q | q
   ·exact⟨hk _ _ (N p q).1,(N p q).2⟩
   ·exact⟨hp p q,by rw [hpB p q];exact Nat.ne_of_gt hLB,hnew _ (Nat.le_of_eq (hpB p q).symm)⟩
end
end Mine
namespace Mine
open PySem.Calls
noncomputable abbrev Pr:=Str × Str
noncomputable def scan(uri:Str):List Pr→List Str→Option Str × List Str
 | [],seen=>(none,seen)
 | q::r,seen=>if q.1=uri∧q.2∉seen then(some q.2,seen) else scan uri r (q.2::seen)
noncomputable def find(uri:Str):List Pr→Option Str
 | []=>none
 | q::r=>if q.1=uri then some q.2 else find uri r
noncomputable def full(p tag:Str):Str:=if p=Str.empty then tag else p++":"++tag
noncomputable def qn(decl ns:List Pr)(uri tag:Str):Option (Str × Option Pr) :=
 match scan uri decl [] with
 | (some p,_)=>some (full p tag,none)
 | (none,seen)=>if uri=Str.empty∧Str.empty∉seen then some (tag,none) else match find uri ns with
  | some p=>some (full p tag,some (uri,p))
  | none=>if uri=Str.empty then some (tag,none) else none
noncomputable def Mv(q uri tag:Str):Bool :=
 match Txt.slice q none (some 1) == "{" with
 | true=>cutR (Txt.slice q (some 1) none) "}" uri tag
 | false=>uri == Str.empty && tag == q
end Mine
namespace Mine
open PySem.Calls
section
variable{prog:Program}{w:World}{A:Around}{E:Value→Shared→Prop}{s:Shared}{h₀:Heap}{L:Addr}{m:Str→Option Value}{news:List (Addr × Obj)}
noncomputable def Gz(w:World)(A:Around)(s:Shared)(prog:Program)(E:Value→Shared→Prop)(l:Addr)(v1 v2:Value)(Q:List Value→Shared→Prop):Prop :=
 ∀ (hh:A.handled=none) (hl:s.heap.IsList l #[v1,v2]) (hQ:∀ h',Heap.ExtBut s.heap.objs.size s.heap h'→Q [v1,v2] { s with heap:=h' }),wpAny (model prog w) A (unpackItems (.ref l) 2 none) Q E s
theorem Qo:∀ {a b c d e f g h i},Gz a b c d e f g h i:=by
 refine @(Ab (Ao neW)<|@(Au neI<|let_mvar% ?n:=(fun w A s prog E l v1 v2 Q=>?_:∀ a b c d e f g h i,Gz a b c d e f g h i);?n _ _ _ _ _ _ _ _ _))
 intro hh hl hQ
 have hlt:l≠s.heap.objs.size:=by obtain⟨o,ho,_⟩:=hl;exact Nat.ne_of_lt (Heap.lt_size ho)
 unfold unpackItems;refine Wb ?_;unfold notIterableAtAll;refine Wb (wpAny_specialOf hl.typeIs slot_list_iter.lookup (Wp ?_))
 simp only [Bool.false_eq_true,if_false]
 refine Wb (wpAny_holding (wpAny_pyIter_list hl ?_));have hl0:=hl.push { cls:=.type "list_iterator",data:=.fields #[.ref l,.int 0 0] };refine Wb (wpAny_holding ?_)
 show wpAny _ _ (pyNext _ >>= _) _ _ _
 refine Wb (wpAny_pyNext_list_item (i:=0) ⟨_,Heap.get?_push_size _ rfl,rfl,rfl⟩ hl0 (x:=v1) rfl fun h₁ it₁ sb₁=>?_)
 have hl1:h₁.IsList l #[v1,v2]:=hl0.extBut sb₁.extBut hlt;refine Wb (wpAny_holding ?_)
 show wpAny _ _ (pyNext _ >>= _) _ _ _
 refine Wb (wpAny_pyNext_list_item it₁ hl1 (x:=v2) rfl fun h₂ it₂ sb₂=>?_)
 have hl2:h₂.IsList l #[v1,v2]:=hl1.extBut sb₂.extBut hlt;refine Wb (wpAny_holding (Wp (Wp (Wp ?_))));rw [if_neg (show ¬ ([v1,v2].length<2) from Nat.lt_irrefl 2)]
 refine Wb (wpAny_holding (wpAny_pyNext_list_end hh it₂ hl2 rfl fun h₃ he₃=>?_))
 simp only [Option.isSome_none,Bool.false_eq_true,if_false]
 exact Wp (hQ h₃ fun b o hb e=>he₃ b o hb (sb₂.extBut b o hb (sb₁.extBut b o hb (Heap.get?_push_of_some _ e))))
theorem Jt{name:Str}{scope:Scope}{a:Addr}{cd:Value}{x1 x2:Str}{p1 p2 pos:Pos}{k:Nat}{t:Addr}{v1 v2:Value}{Q:Unit→Shared→Prop}(hF:Fr h₀ L s.heap m)(N:News h₀ L s.heap news)(ht:s.heap.IsList t #[v1,v2])(hh:A.handled=none)
  (h:∀ h' tk,Fr h₀ L h' (fun y=>if y=x2 then some v2 else if y=x1 then some v1 else m y)→News h₀ L h' news→Q () { s with heap:=h',toks:=tk })
  (hk:scope.kind=.function:=by rfl) (hl1:(envOf name scope L a cd).kindOf x1=some .local:=by rfl) (hl2:(envOf name scope L a cd).kindOf x2=some .local:=by rfl) :
  wpAny (model prog w) A (assign (.Tuple [.Name x1 p1,.Name x2 p2] k pos) (envOf name scope L a cd) (.ref t)) Q E s:=by
 rw [arm_assign_Tuple];refine Wb (wpAny_standAt ?_)
 show wpAny _ _ (unpack (.ref t) [(false,assign (.Name x1 p1) (envOf name scope L a cd)),(false,assign (.Name x2 p2) (envOf name scope L a cd))]) _ _ _
 unfold unpack;refine Wb (wpAny_holding ?_)
 refine Qo hh ht fun h' he=>?_
 have hF':Fr h₀ L h' m:=Fr.extBut hF he (Nat.le_refl _);have N':News h₀ L h' news:=News.ext N he
 show wpAny _ _ (do holding [v2] (assign (.Name x1 p1) (envOf name scope L a cd) v1);do holding [] (assign (.Name x2 p2) (envOf name scope L a cd) v2);pure ()) _ _ _
 refine Wb (wpAny_holding (PyProof.Rows.assign_Name (stN hF' N' (fun h2 F2 N2=>?_) hk hl1)))
 refine Wb (wpAny_holding (PyProof.Rows.assign_Name (stN F2 N2 (fun h3 F3 N3=>?_) hk hl2)))
 exact Wp (h h3 _ F3 N3)
theorem News.sub{h:Heap}{news':List (Addr × Obj)}(N:News h₀ L h news)(hs:∀ p∈news',p∈news):News h₀ L h news':=fun p hp=>N p (hs p hp)
theorem m2_eq{a b:Str}{v1 v2 p q:Option Value}{m0:Str→Option Value}:(fun y=>if y=a then v2 else if y=b then v1 else if y=a then p else if y=b then q else m0 y)=(fun y=>if y=a then v2 else if y=b then v1 else m0 y):=by
 funext y
 by_cases h1:y=a
 ·simp [h1]
 ·by_cases h2:y=b<;>simp [h1,h2]
theorem m2_none{a b:Str}{m0:Str→Option Value}(ha:m0 a=none)(hb:m0 b=none):m0=(fun y=>if y=a then none else if y=b then none else m0 y):=by
 funext y
 by_cases h1:y=a
 ·simp [h1,ha]
 ·by_cases h2:y=b
  ·simp [h2,hb]
  ·simp [h1,h2]
theorem Qf{led:Bool}:Cy prog w { cls:=.type "set",data:=.set #[] 0 (.fresh 0 0 led) } (fun _=>false) 0 :=
 ⟨#[],0,_,⟨rfl,rfl,rfl⟩,rfl,fun e he=>by simp at he,fun k=>by simp,by decide,by rfl,rfl⟩
theorem Cy.congr{o:Obj}{S S':Str→Bool}{n:Nat}(x:Cy prog w o S n)(h:∀ k,S k=S' k):Cy prog w o S' n:=(funext h:S=S') ▸ x
theorem Ai{h h':Heap}(hk:∀ b o,h.get? b=some o→h'.get? b=some o){a:Addr}{its:Array Value}(x:h.IsList a its):h'.IsList a its:=let ⟨o,ho,r⟩:=x;⟨o,hk _ _ ho,r⟩
theorem News.same{B:Addr}{h h':Heap}(N:News h₀ L h news)(hs:Fl B h h')(hn:∀ p∈news,p.1<B∨(p.1≠B∧Gs p.2=false)):News h₀ L h' news:=fun p hp=>⟨hs _ _ (N p hp).1 (hn p hp),(N p hp).2⟩
theorem Fr.same{B:Addr}{h h':Heap}(hF:Fr h₀ L h m)(hs:Fl B h h')(hB:L<B):Fr h₀ L h' m:=by
 obtain⟨oL,es,ep,hL,r⟩:=hF.ns
 exact⟨⟨oL,es,ep,hs _ _ hL (.inl hB),r⟩,fun b o e=>hs _ _ (hF.keep b o e) (.inl (Nat.lt_of_lt_of_le (Heap.lt_size e) (Nat.le_trans hF.above (Nat.le_of_lt hB)))),hF.above⟩
theorem News.priv{B:Addr}{h:Heap}{priv:List (Addr × Obj)}(hF:Fr h₀ L h m)(hB:L<B)(hP:Priv B priv)(hp:∀ p∈priv,h.get? p.1=some p.2):News h₀ L h priv:=fun p q=>by
 have hb:=(hP p q).1;refine⟨hp p q,Nat.ne_of_gt (Nat.lt_of_lt_of_le hB hb),?_⟩
 cases e:h₀.get? p.1 with
 | none=>rfl
 | some o=>exact absurd (Nat.lt_of_lt_of_le (Heap.lt_size e) (Nat.le_trans hF.above (Nat.le_trans (Nat.le_of_lt hB) hb))) (Nat.lt_irrefl _)
theorem News.app{h:Heap}{a b:List (Addr × Obj)}(x:News h₀ L h a)(y:News h₀ L h b):News h₀ L h (a++b):=fun p hp=>(List.mem_append.mp hp).elim (x p) (y p)
end
end Mine
namespace Mine
open PySem.Calls
noncomputable abbrev mm(x1 x2:Str)(m0:Str→Option Value)(p u:Option Value):Str→Option Value:=fun y=>if y=x2 then p else if y=x1 then u else m0 y
theorem News.drop2{h₀ h:Heap}{L:Addr}{a b c d e:Addr × Obj}{rest:List (Addr × Obj)}(N:News h₀ L h (a::b::c::d::e::rest)):News h₀ L h [a,c,d,e]:=News.sub N (Fc (.head _) (Fc (.tail _ (.tail _ (.head _))) (Fc (.tail _ (.tail _ (.tail _ (.head _)))) (Fc (.tail _ (.tail _ (.tail _ (.tail _ (.head _))))) (List.forall_mem_nil _)))))
theorem News.drop3{h₀ h:Heap}{L:Addr}{a b c d e f:Addr × Obj}{rest:List (Addr × Obj)}(N:News h₀ L h (a::b::c::d::e::f::rest)):News h₀ L h [a,b,d,e,f]:=News.sub N (Fc (.head _) (Fc (.tail _ (.head _)) (Fc (.tail _ (.tail _ (.tail _ (.head _)))) (Fc (.tail _ (.tail _ (.tail _ (.tail _ (.head _))))) (Fc (.tail _ (.tail _ (.tail _ (.tail _ (.tail _ (.head _)))))) (List.forall_mem_nil _))))))
theorem Sh{decl ns:List Pr}{uri tag p:Str}{seen:List Str}(h:scan uri decl []=(some p,seen)):qn decl ns uri tag=some (full p tag,none):=by unfold qn;rw [h]
theorem Yi{decl ns:List Pr}{uri tag:Str}{seen:List Str}(h:scan uri decl []=(none,seen))(hu:uri=Str.empty∧Str.empty∉seen):qn decl ns uri tag=some (tag,none):=by unfold qn;rw [h];exact if_pos hu
theorem Ux{decl ns:List Pr}{uri tag p:Str}{seen:List Str}(h:scan uri decl []=(none,seen))(hu:¬ (uri=Str.empty∧Str.empty∉seen))(hf:find uri ns=some p):qn decl ns uri tag=some (full p tag,some (uri,p)):=by unfold qn;rw [h];simp only [if_neg hu,hf]
theorem qn_none{decl ns:List Pr}{uri tag:Str}{seen:List Str}(h:scan uri decl []=(none,seen))(hu:¬ (uri=Str.empty∧Str.empty∉seen))(hf:find uri ns=none):qn decl ns uri tag=if uri=Str.empty then some (tag,none) else none:=by unfold qn;rw [h];simp only [if_neg hu,hf]
theorem Ge{p:Str}(h:(p.length:Int)=0):p=Str.empty:=by
 have h':p.cps.size=0:=by have:(p.cps.size:Int)=0:=h;lia
 have:p.cps=#[]:=Array.eq_empty_of_size_eq_zero h'
 cases p;simp only at this;rw [this];rfl
theorem Ri{p tag:Str}(h:(p.length:Int)=0):full p tag=tag:=by unfold full;rw [if_pos (Ge h)]
theorem Rj{p tag:Str}(h:(p.length:Int)≠0):full p tag=Str.empty++p++":"++tag:=by
 unfold full;rw [if_neg (fun e=>h (by rw [e];rfl)),Str.empty_append]
section
variable{prog:Program}{w:World}{A:Around}{E:Value→Shared→Prop}{s:Shared}
theorem De{value slice:Expr}{l:Addr}{vs:List Value}{v:Value}{t:Tok}{Q:Value→Shared→Prop}(hl:s.heap.IsList l (vs++[v]).toArray)(h:Q v s)
  (hs:subscripted slice false (.ref l) (.int (-1) t)=operate [.ref l,.int (-1) t] (getItem (.ref l) (.int (-1) t)):=by with_unfolding_all rfl) :
  wpAny (model prog w) A (subscriptTail value slice (.ref l) (.int (-1) t)) Q E s:=by
 refine tail_any hl.typeIs slot_list_getitem.lookup (wpAny_getItem_list_neg hl (by decide) ?_ (by decide) ?_ h) hs
 ·simp only [List.size_toArray,List.length_append,List.length_cons,List.length_nil];lia
 ·have e:(-1+((vs++[v]).toArray.size:Int)).toNat=vs.length:=by simp only [List.size_toArray,List.length_append,List.length_cons,List.length_nil];lia
  rw [e,List.getElem?_toArray,List.getElem?_append_right (Nat.le_refl _)]
  simp
end
section
variable{prog:Program}{w:World}{A:Around}{s:Shared}{g:Heap}{L:Addr}{os:OsState}
noncomputable def Os(w:World)(A:Around)(s:Shared)(prog:Program)(g:Heap)(L:Addr)(os:OsState)(name:Str)(scope:Scope)(a:Addr)(cd:Value)(x1 x2:Str)(q1 q2 pos:Pos)(kk:Nat)(body:List Stmt)(R:Result→Shared→Prop)(m0:Str→Option Value)(B stk ga:Addr)(gn:Nat)(lvs:List (Addr × Array Value))(oG:Obj)(ps:List Pr)(own priv:List (Addr × Obj))(rem:List Value)(p' u':Option Value):Prop :=
 ∀ (J:List Pr→List (Addr × Obj)→Prop) (hh:A.handled=none) (zq:A.depth<recursionLimit) (hlim:g.NoLimit) (hG:Lp oG gn) (hga:ga=B+1) (hLB:L<B) (hstack:∀ (h:Heap) ps own,(∀ b o,g.get? b=some o→h.get? b=some o)→News g L h own→J ps own→Co B stk lvs h) (hown:∀ ps own,J ps own→∀ p∈own,p.1<B∨(p.1≠B∧Gs p.2=false)) (step:∀ (s1:Shared) (q:Pr) t1 t2 ps own rest,J (q::ps) own→Fr g L s1.heap (mm x1 x2 m0 (some (.str q.2 t2)) (some (.str q.1 t1)))→News g L s1.heap (own++rest)→(∀ p∈rest,B≤p.1)→s1.os=os→AllBare s1.gens →
   wpAny (model prog w) A (execs body (envOf name scope L a cd)) (fun f s3=>match f with
    | .next | .cont=>∃ own' p' u',J ps own'∧Fr g L s3.heap (mm x1 x2 m0 p' u')∧News g L s3.heap (own'++rest)∧s3.os=os∧s3.gens=s1.gens
    | .brk=>R (.ok .next) s3
    | .ret v=>R (.ok (.ret v)) s3) (notedBy (model prog w) A (envOf name scope L a cd) fun e s'=>R (.error e) s') s1) (done:∀ (s1:Shared) own p' u',J [] own→Fr g L s1.heap (mm x1 x2 m0 p' u')→News g L s1.heap own→s1.os=os→AllBare s1.gens→R (.ok .next) s1) (hJ:J ps own) (hF:Fr g L s.heap (mm x1 x2 m0 p' u')) (N:News g L s.heap ((ga,oG)::(own++priv))) (hps:All2 (Cg g) rem ps) (G:GenAt prog w A B stk lvs gn rem priv s.gens) (hos:s.os=os) (hb:AllBare s.gens) (hk:scope.kind=.function) (hl1:(envOf name scope L a cd).kindOf x1=some .local) (hl2:(envOf name scope L a cd).kindOf x2=some .local),codeAny (model prog w) A (.forLoop (.Tuple [.Name x1 q1,.Name x2 q2] kk pos) (.ref ga) body [] (envOf name scope L a cd)) R s
theorem Re:∀ a b c d e f g h i j k l m n o p q r s t u v w x y z a1 b1 c1 d1 e1 f1,Os a b c d e f g h i j k l m n o p q r s t u v w x y z a1 b1 c1 d1 e1 f1:=by
 refine Ab (Ao neW)<|Ab neI<|Ab neI<|Ab neI<|let_mvar% ?n:=(fun w A s prog g L os name scope a cd x1 x2 q1 q2 pos kk body R m0 B stk ga gn lvs oG ps own priv rem p' u'=>?_:∀ a b c d e f g h i j k l m n o p q r s t u v w x y z a1 b1 c1 d1 e1 f1,Os a b c d e f g h i j k l m n o p q r s t u v w x y z a1 b1 c1 d1 e1 f1);?n _ _ _ _ _ _ _ _ _ _ _ _ _ _ _ _ _ _ _ _ _ _ _ _ _ _ _ _ _ _ _ _
 intro J hh zq hlim hG hga hLB hstack hown step done hJ hF N hps G hos hb hk hl1 hl2
 refine codeAny_forLoop_any (fun k s1=>∃ rem ps own priv p' u',k=rem.length∧J ps own∧Fr g L s1.heap (mm x1 x2 m0 p' u')∧News g L s1.heap ((ga,oG)::(own++priv))∧All2 (Cg g) rem ps∧GenAt prog w A B stk lvs gn rem priv s1.gens∧s1.os=os∧AllBare s1.gens) ?_ rem.length ⟨rem,ps,own,priv,p',u',rfl,hJ,hF,N,hps,G,hos,hb⟩
 rintro k s1 ⟨rem,ps,own,priv,p',u',rfl,hJ,hF,N,hps,G,hos,hb⟩
 have Nown:News g L s1.heap own:=News.sub N fun p hp=>.tail _ (Ml _ hp)
 have hgen:s1.heap.IsGen ga gn:=hG.at (N _ (.head _)).1
 have hpriv:∀ p∈priv,s1.heap.get? p.1=some p.2:=fun p hp=>(N p (.tail _ (Mr _ hp))).1
 have hst:Co B stk lvs s1.heap:=hstack _ _ _ hF.keep Nown hJ
 have hgaB:ga<B∨(ga≠B∧Gs oG=false):=.inr ⟨by rw [hga];exact Nat.succ_ne_self B,by obtain⟨_,_,hc,_⟩:=hG;unfold Gs;rw [hc];rfl⟩
 cases hps with
 | nil =>
  refine gen_end hh (hlim.keeps hF.keep) zq hgen G hpriv hst hb fun s2 hs hos2 hb2=>?_
  dsimp only;refine Wp ?_;exact done s2 own p' u' hJ (Fr.same hF hs hLB) (News.same Nown hs (hown _ _ hJ)) (hos2.trans hos) hb2
 | @cons v q rem ps hv hps =>
  refine Xn hh (hlim.keeps hF.keep) zq hgen G hpriv hst hb fun s2 priv2 G2 hp2 hs hos2 hb2=>?_
  dsimp only;have F2:=Fr.same hF hs hLB
  have N2:News g L s2.heap ((ga,oG)::(own++priv2)):=fun p hp=>by
   rcases List.mem_cons.mp hp with rfl | hp
   ·exact News.same (News.sub N (news':=[(ga,oG)]) fun p hp=>by rw [List.mem_singleton.mp hp];exact .head _) hs (fun p hp=>by rw [List.mem_singleton.mp hp];exact hgaB) _ (.head _)
   ·exact News.app (News.same Nown hs (hown _ _ hJ)) (News.priv F2 hLB G2.2.1 hp2) p hp
  obtain⟨t,t1,t2,rfl,ht⟩:=hv;refine Wc (hG.at (N2 _ (.head _)).1) ?_;have ht2:IsTup s2.heap t #[.str q.1 t1,.str q.2 t2]:=let ⟨o,ho,r⟩:=ht;⟨o,F2.keep _ _ ho,r⟩
  refine Ke F2 N2 ht2 hh (fun h3 tk3 F3 N3=>?_) hk hl1 hl2
  rw [m2_eq] at F3
  have N3':News g L h3 (own++((ga,oG)::priv2)):=News.sub N3 fun p hp=>by
   rcases List.mem_append.mp hp with z | z
   ·exact .tail _ (Ml _ z)
   ·rcases List.mem_cons.mp z with rfl | z
    ·exact .head _
    ·exact .tail _ (Mr _ z)
  refine wpAny_mono (step { s2 with heap:=h3,toks:=tk3 } q t1 t2 ps own ((ga,oG)::priv2) hJ F3 N3' ?_ (hos2.trans hos) hb2) (fun f s4 h4=>?_) fun _ _ z=>z
  ·intro p hp
   rcases List.mem_cons.mp hp with rfl | hp
   ·rw [hga];exact Nat.le_succ _
   ·exact(G2.2.1 p hp).1
  ·cases f with
   | brk=>exact h4
   | ret v=>exact h4
   | _ =>
    obtain⟨own',p'',u'',hJ',F4,N4,hos4,hg4⟩:=h4;refine⟨rem.length,Nat.lt_succ_self _,rem,ps,own',priv2,p'',u'',rfl,hJ',F4,?_,hps,?_,hos4,?_⟩
    ·exact News.sub N4 fun p hp=>by
      rcases List.mem_cons.mp hp with rfl | hp
      ·exact Mr _ (.head _)
      ·rcases List.mem_append.mp hp with z | z
       ·exact Ml _ z
       ·exact Mr _ (.tail _ z)
    ·rw [hg4];exact G2
    ·rw [hg4];exact hb2
theorem Uo{name:Str}{scope:Scope}{a:Addr}{cd:Value}{x1 x2:Str}{q1 q2 pos:Pos}{kk:Nat}{body:List Stmt}{R:Result→Shared→Prop}{m0:Str→Option Value}
  {B stk ga:Addr} {gn:Nat} {lvs:List (Addr × Array Value)} {oG:Obj} (J:List Pr→List (Addr × Obj)→Prop)
  (hh:A.handled=none) (zq:A.depth<recursionLimit) (hlim:g.NoLimit) (hG:Lp oG gn) (hga:ga=B+1) (hLB:L<B)
  (hstack:∀ (h:Heap) ps own,(∀ b o,g.get? b=some o→h.get? b=some o)→News g L h own→J ps own→Co B stk lvs h)
  (hown:∀ ps own,J ps own→∀ p∈own,p.1<B∨(p.1≠B∧Gs p.2=false))
  (step:∀ (s1:Shared) (q:Pr) t1 t2 ps own rest,J (q::ps) own→Fr g L s1.heap (mm x1 x2 m0 (some (.str q.2 t2)) (some (.str q.1 t1)))→News g L s1.heap (own++rest)→(∀ p∈rest,B≤p.1)→s1.os=os→AllBare s1.gens →
   wpAny (model prog w) A (execs body (envOf name scope L a cd)) (fun f s3=>match f with
    | .next | .cont=>∃ own' p' u',J ps own'∧Fr g L s3.heap (mm x1 x2 m0 p' u')∧News g L s3.heap (own'++rest)∧s3.os=os∧s3.gens=s1.gens
    | .brk=>R (.ok .next) s3
    | .ret v=>R (.ok (.ret v)) s3) (notedBy (model prog w) A (envOf name scope L a cd) fun e s'=>R (.error e) s') s1)
  (done:∀ (s1:Shared) own p' u',J [] own→Fr g L s1.heap (mm x1 x2 m0 p' u')→News g L s1.heap own→s1.os=os→AllBare s1.gens→R (.ok .next) s1)
  {ps:List Pr} {own priv:List (Addr × Obj)} {rem:List Value} {p' u':Option Value} (hJ:J ps own) (hF:Fr g L s.heap (mm x1 x2 m0 p' u')) (N:News g L s.heap ((ga,oG)::(own++priv))) (hps:All2 (Cg g) rem ps) (G:GenAt prog w A B stk lvs gn rem priv s.gens) (hos:s.os=os) (hb:AllBare s.gens)
  (hk:scope.kind=.function:=by rfl) (hl1:(envOf name scope L a cd).kindOf x1=some .local:=by rfl) (hl2:(envOf name scope L a cd).kindOf x2=some .local:=by rfl) :
  codeAny (model prog w) A (.forLoop (.Tuple [.Name x1 q1,.Name x2 q2] kk pos) (.ref ga) body [] (envOf name scope L a cd)) R s:=Re w A s prog g L os name scope a cd x1 x2 q1 q2 pos kk body R m0 B stk ga gn lvs oG ps own priv rem p' u' J hh zq hlim hG hga hLB hstack hown step done hJ hF N hps G hos hb hk hl1 hl2
end
end Mine
namespace Mine
open PySem.Calls
noncomputable def Cp(c r x:Str):Str:=if (Builtin.Str.occurrences x c 0 x.length 1).isEmpty=true then x else Txt.replace x c r
theorem Ow(k:Str)(v:Value)(l:List (Str × Value)):(fun y=>List.lookup y ((k,v)::l))=(fun y=>if y=k then some v else List.lookup y l):=by
 funext y
 rw [List.lookup_cons]
 by_cases q:y=k
 ·subst q;simp
 ·rw [if_neg q]
  have:(y == k)=false:=by simpa using q
  rw [this]
theorem m1_eq{a:Str}{v p:Option Value}{m0:Str→Option Value}:(fun y=>if y=a then v else if y=a then p else m0 y)=(fun y=>if y=a then v else m0 y):=by
 funext y
 by_cases h1:y=a<;>simp [h1]
theorem Fd{c r x:Str}{n k:Nat}(hx:x.length≤n)(hr:r.length≤k):(Cp c r x).length≤n+(n+1) * k:=by
 unfold Cp
 have h1:(x.length+1) * r.length≤(n+1) * k:=Nat.mul_le_mul (by exact(Nl fun hn1=>fk [_,_] (.e V0 V1 (.e (.a (.s V1) K1) (.s V0) K0)) rfl hx hn1)) hr
 split
 ·exact(Nl fun hn1=>fk [_,_,_] (.e V0 V1 (.e (.a (.a V1 V2) K1) V0 K0)) rfl hx hn1)
 ·unfold Txt.replace
  split
  ·exact(Nl fun hn1=>fk [_,_,_] (.e V0 V1 (.e (.a (.a V1 V2) K1) V0 K0)) rfl hx hn1)
  ·have g1:=StrLaws.occ_length_le x c 0 x.length (x.length+1)
   have gy:(Builtin.Str.glued c (Builtin.Str.partsBetween x (Builtin.Str.occurrences x c 0 x.length (x.length+1)) c.length)).length=x.length:=by rw [StrLaws.glued_between_self]
   rw [size_glued,length_partsBetween,Nat.add_sub_cancel] at gy;rw [size_glued,length_partsBetween,Nat.add_sub_cancel];have g2:(Builtin.Str.occurrences x c 0 x.length (x.length+1)).length * r.length≤(x.length+1) * r.length:=Nat.mul_le_mul_right _ g1
   exact(Nl fun hn1=>fk [_,_,_,_,_,_,_] (.e V0 V1 (.e V2 V3 (.e (.a V4 V5) V0 (.e V6 V2 (.e (.a (.a V1 V3) K1) (.a V4 V6) K0))))) rfl hx h1 (El gy) g2 hn1)
section
variable{prog:Program}{w:World}{A:Around}{E:Value→Shared→Prop}{s:Shared}{h₀:Heap}{L:Addr}{m0:Str→Option Value}{news:List (Addr × Obj)}
theorem Cs{name:Str}{scope:Scope}{a:Addr}{cd:Value}{c r x:Str}{t:Tok}{k1 k2 k3:Nat}{p1 p2 p3 p4 p5 p6 p7 p8 p9 p10 p11:Pos}{Q:Flow→Shared→Prop}
  (hF:Fr h₀ L s.heap (fun y=>if y="text" then some (.str x t) else m0 y)) (N:News h₀ L s.heap news) (htk:0<s.toks) (hx:x.length≤1048576) (hr:r.length≤14) (hcr:(c == r)=false)
  (h:∀ h' t' k,Fr h₀ L h' (fun y=>if y="text" then some (.str (Cp c r x) t') else m0 y)→News h₀ L h' news→Q .next { s with heap:=h',toks:=k+1 })
  (hbase:attributeBase (.Name "text" p5) "replace" (envOf name scope L a cd) (eval (.Name "text" p5) (envOf name scope L a cd))=eval (.Name "text" p5) (envOf name scope L a cd):=by rfl) (hline:(p6.endLine == p9.line)=true:=by rfl)
  (hk:scope.kind=.function:=by rfl) (hl:(envOf name scope L a cd).kindOf "text"=some .local:=by rfl) :
  wpAny (model prog w) A (exec (.If (.Compare (.Constant (.str c) k1 p1) [.In] [.Name "text" p2] p3) [.Assign [.Name "text" p4] (.Call (.Attribute (.Name "text" p5) "replace" p6) [.Constant (.str c) k2 p7,.Constant (.str r) k3 p8] [] p9) p10] [] p11) (envOf name scope L a cd)) Q E s:=by
 refine wpAny_If (wpAny_isTrue_Compare1 (Calls.Constant_str (ld hF rfl (in_str (wpAny_truthy_bool ?_)) hk hl)));unfold Cp at h
 cases hc:(Builtin.Str.occurrences x c 0 x.length 1).isEmpty with
 | true =>
  rw [hc] at h;exact Wp (h s.heap t s.toks hF N)
 | false =>
  rw [hc] at h;rw [if_pos (show (!false)=true from rfl)];refine wpAny_execs_cons (wpAny_Assign_Name ?_)
  refine Call_method2 hbase rfl hline (ld hF rfl ⟨"str","str.replace",F.plainAttrs_str,F.slot_str_replace,F.type_str_replace,typeIs_str _ _ _,(fun _ e=>nomatch e),?_⟩ hk hl)
  refine Calls.callWith_builtin rfl (Calls.evalArgs_plain (Calls.spliced_cons (Calls.Constant_str (Calls.spliced_cons (Calls.Constant_str (Calls.spliced_nil ?_))))))
  refine SC.replaceW (by show s.toks+1≠0;exact(fun hn1=>fk [_] (.e (.s V0) K0 K0) rfl (El hn1))) (by show s.toks+1+1≠0;exact(fun hn1=>fk [_] (.e (.a (.s V0) K1) K0 K0) rfl (El hn1))) (by show s.toks+1≠s.toks+1+1;exact(fun hn1=>fk [_] (.e (.a (.s V0) K1) (.s V0) K0) rfl (Es hn1))) hcr hx hr fun t' k=>?_
  refine stN hF N (fun h' F' N'=>?_) hk hl
  rw [m1_eq] at F';exact Wp (h h' t' k F' N')
end
end Mine
namespace Mine
open PySem.Calls
noncomputable abbrev Aj(out:Addr):Obj:={ cls:=.type "builtin_function_or_method",data:=.fields #[.builtin "list.append",.ref out] }
theorem Uh:Manifest.signature? "list.append"=some ⟨.oneArg,"list.append","append",.self,[⟨"object",.posOnly,true⟩]⟩:=by kernel_rfl
theorem Gt:builtinKind "list.append"=some .method:=by kernel_rfl
theorem Rq:Bind.lastOf "list.append"="append":=by decide +kernel
theorem Og:Manifest.varargsMethods.contains "list.append"=false:=by decide +kernel
theorem Ll:isSubtype (.type "list") (.type "module")=pure false:=by rw [isSubtype_type];kernel_rfl
theorem Rg:(toString (Bind.lastOf "list")++toString "."++toString "append":String)="list.append":=by decide +kernel
theorem Qs(a v:Value):Bind.checkArgs "list.append" ⟨.oneArg,"list.append","append",.self,[⟨"object",.posOnly,true⟩]⟩ ⟨[a,v],[]⟩=pure ():=by kernel_rfl
theorem Yp:Manifest.signature? "str.join"=some ⟨.oneArg,"str.join","join",.self,[⟨"iterable",.posOnly,true⟩]⟩:=by kernel_rfl
theorem Vv:builtinKind "str.join"=some .method:=by kernel_rfl
theorem Vx:Bind.lastOf "str.join"="join":=by decide +kernel
theorem Te:Manifest.varargsMethods.contains "str.join"=false:=by decide +kernel
theorem Nu:isSubtype (.type "str") (.type "module")=pure false:=by rw [isSubtype_type];kernel_rfl
theorem Vq:(toString (Bind.lastOf "str")++toString "."++toString "join":String)="str.join":=by decide +kernel
theorem Ve(a v:Value):Bind.checkArgs "str.join" ⟨.oneArg,"str.join","join",.self,[⟨"iterable",.posOnly,true⟩]⟩ ⟨[a,v],[]⟩=pure ():=by kernel_rfl
section
variable{prog:Program}{w:World}{A:Around}{E:Value→Shared→Prop}{s:Shared}{h₀:Heap}{L:Addr}{m:Str→Option Value}{news news':List (Addr × Obj)}
noncomputable def Hl(w:World)(A:Around)(s:Shared)(prog:Program)(E:Value→Shared→Prop)(l:Addr)(its:Array Value)(v:Value)(Q:Unit→Shared→Prop):Prop :=
 ∀ (hl:s.heap.IsList l its) (h:Q () s),wpAny (model prog w) A (checkBoundCall "list.append" ⟨[.ref l,v],[]⟩) Q E s
theorem Qw:∀ {a b c d e f g h i},Hl a b c d e f g h i:=by
 refine @(Ab (Ao neW)<|@(Au neI<|let_mvar% ?n:=(fun w A s prog E l its v Q=>?_:∀ a b c d e f g h i,Hl a b c d e f g h i);?n _ _ _ _ _ _ _ _ _))
 intro hl h;unfold checkBoundCall;rw [Uh,Gt];dsimp only
 rw [if_neg (by decide)]
 refine Wb (wpAny_isInstance hl.typeIs Ll ?_);rw [Og,Rq]
 rw [if_neg (by decide)]
 obtain⟨o,ho,hc,n,hd⟩:=hl;refine Wb ?_;unfold isType;refine Wb (wpAny_loadPart ho ?_);rw [hd];refine Wp ?_;dsimp only
 rw [if_neg (by decide)]
 refine Wb (wpAny_typeOf (T:="list") ⟨o,ho,hc⟩ ?_);dsimp only;rw [Rg,Qs];exact Wp h
theorem Qv{wr out:Addr}{its:Array Value}{n:Nat}{v:Value}{Q:Value→Shared→Prop}(hw:s.heap.get? wr=some (Aj out))(ho:s.heap.get? out=some (listOf its n))(hsz:its.size≤sizeLine)
  (h:∀ h',Heap.SameBut out s.heap h'→h'.get? out=some (listOf (its.push v) (n+1))→Q .none { s with heap:=h' }) :
  wpAny (model prog w) A (call (.ref wr) [v]) Q E s:=by
 refine wpAny_call (codeAny_of_tree ?_)
 show wpAny _ _ (callAny (.ref wr) ⟨[v],[]⟩) _ _ _
 delta callAny;dsimp only
 refine Wb (wpAny_load hw ?_)
 show wpAny _ _ (checkBoundCall "list.append" ⟨[.ref out,v],[]⟩ >>= fun _=>again (.builtin "list.append" ⟨[.ref out,v],[]⟩)) _ _ _
 refine Wb (Qw ⟨_,ho,rfl,_,rfl⟩ (Wp ⟨Code.quiet_builtin _ (by decide +kernel),?_⟩))
 refine codeAny_builtin entry_list_append ?_
 show wpAny _ _ (updateSeq out (·.push v) >>= fun _=>ret .none) _ _ s
 refine Wb ?_;refine wpAny_updateSeq ho rfl (Wp (h _ (Heap.SameBut.update ..) ?_))
 rw [Heap.get?_update_self _ ho (by rw [mapSeq_push];rfl),mapSeq_push]
theorem Em{wr out:Addr}{its:Array Value}{n:Nat}{v:Value}{Q:Value→Shared→Prop}(hF:Fr h₀ L s.heap m)(N:News h₀ L s.heap news)(hw:(wr,Aj out)∈news)(U:Upd out (listOf its n) (listOf (its.push v) (n+1)) news news')(hsz:its.size≤sizeLine)
  (h:∀ h',Fr h₀ L h' m→News h₀ L h' news'→Q .none { s with heap:=h' }):wpAny (model prog w) A (call (.ref wr) [v]) Q E s:=by
 obtain⟨pre,post,rfl,rfl,a,b⟩:=U.split;have z:=N (out,listOf its n) (List.mem_append.mpr (.inr (.head _)))
 exact Qv (N _ hw).1 z.1 hsz fun h' hs ho'=>h h' (hF.change hs z.2.1 z.2.2) (news_set N a b hs ho')
noncomputable def Ex(w:World)(A:Around)(s:Shared)(prog:Program)(E:Value→Shared→Prop)(x:Str)(t:Tok)(v:Value)(Q:Unit→Shared→Prop):Prop :=
 ∀ (h:Q () s),wpAny (model prog w) A (checkBoundCall "str.join" ⟨[.str x t,v],[]⟩) Q E s
theorem Jv:∀ {a b c d e f g h i},Ex a b c d e f g h i:=by
 refine @(Ab (Ao neW)<|@(Au neI<|let_mvar% ?n:=(fun w A s prog E x t v Q=>?_:∀ a b c d e f g h i,Ex a b c d e f g h i);?n _ _ _ _ _ _ _ _ _))
 intro h;unfold checkBoundCall;rw [Yp,Vv];dsimp only
 rw [if_neg (by decide)]
 refine Wb (wpAny_isInstance (typeIs_str _ _ _) Nu ?_);rw [Te,Vx]
 rw [if_neg (by decide)]
 refine Wb ?_;unfold isType;refine Wb (Wp (Wp ?_))
 rw [if_neg (by decide)]
 refine Wb (wpAny_typeOf (T:="str") (typeIs_str _ _ _) ?_);dsimp only;rw [Vq,Ve];exact Wp h
theorem Vg{b l:Addr}{x:Str}{t:Tok}{ds:List (Str × Tok)}{Q:Value→Shared→Prop}(hb:s.heap.get? b=some { cls:=.type "builtin_function_or_method",data:=.fields #[.builtin "str.join",.str x t] })
  (hl:s.heap.IsList l (strValues ds).toArray) (hok:JoinOk x (ds.map (·.1))=true) (h:∀ t' k,Q (.str (Txt.join x (ds.map (·.1))) t') { s with toks:=k }) :
  wpAny (model prog w) A (call (.ref b) [.ref l]) Q E s:=by
 unfold JoinOk at hok;rw [Bool.not_eq_true'] at hok;refine wpAny_call (codeAny_of_tree ?_)
 show wpAny _ _ (callAny (.ref b) ⟨[.ref l],[]⟩) _ _ _
 unfold callAny;dsimp only;refine Wb (wpAny_load hb ?_)
 show wpAny _ _ (checkBoundCall "str.join" ⟨[.str x t,.ref l],[]⟩ >>= fun _=>again (.builtin "str.join" ⟨[.str x t,.ref l],[]⟩)) _ _ _
 refine Wb (Jv (Wp ⟨Code.quiet_builtin _ (by decide +kernel),?_⟩))
 refine codeAny_builtin F.entry_str_join ?_
 rw [Around.under_plainId (by decide +kernel)]
 refine meets_str_join_list x t l ds hok prog w A (wants Q E) s ⟨hl,post_join ds ⟨joinFit_length hok,?_⟩⟩;exact h
end
end Mine
namespace Mine
open PySem.Calls PySem.Builtin PySem.Builtin.List
theorem Bb{c:Prop}[Decidable c]{a b:Prop}(h1:c→a)(h2:¬ c→b):if c then a else b:=by
 by_cases h:c
 ·rw [if_pos h];exact h1 h
 ·rw [if_neg h];exact h2 h
noncomputable abbrev Su:Obj:={ cls:=.type "slice",data:=.fields #[.none,.none,.none] }
theorem Jy:typeLookup (.type "slice") "__index__"=pure none:=by rw [typeLookup_type,builtinLookup_eq_fast];kernel_rfl
section
variable{prog:Program}{w:World}{A:Around}{E:Value→Shared→Prop}{s:Shared}{h₀:Heap}{L:Addr}{m:Str→Option Value}{news:List (Addr × Obj)}
theorem letGo_{M:Model}{l:List Value}{Q:Unit→Shared→Prop}(h:Q () s):wpAny M A (letGo l) Q E s:=by
 induction l with
 | nil=>exact Wp h
 | cons a r ih=>unfold letGo;exact Wb (wpAny_holding (wpAny_point ih))
theorem Wx{M:Model}{l:Addr}{its:Array Value}{n:Nat}{f:Array Value→Array Value}{Q:Unit→Shared→Prop}(hl:s.heap.get? l=some (listOf its n))(hz:its.size≤sizeLine)(hf:f its=#[])
  (h:∀ h' n',Heap.SameBut l s.heap h'→h'.get? l=some (listOf #[] n')→Q () { s with heap:=h' }):wpAny M A (updateSeq l f) Q E s:=by
 have e:Obj.mapSeq f (listOf its n)=listOf #[] (if (f its).size == its.size then n else n+1):=by unfold Obj.mapSeq;simp only [hf]
 refine wpAny_updateSeq hl rfl (h _ (if (f its).size == its.size then n else n+1) (Heap.SameBut.update ..) ?_) hz (by rw [hf];exact Nat.zero_le _)
 rw [Heap.get?_update_self _ hl (by rw [e];rfl),e]
noncomputable def Om(w:World)(A:Around)(s:Shared)(prog:Program)(E:Value→Shared→Prop)(l sl:Addr)(its:Array Value)(n:Nat)(Q:Unit→Shared→Prop):Prop :=
 ∀ (hl:s.heap.get? l=some (listOf its n)) (hs:s.heap.get? sl=some Su) (hz:its.size≤sizeLine) (h:∀ h' n',Heap.SameBut l s.heap h'→h'.get? l=some (listOf #[] n')→Q () { s with heap:=h' }),wpAny (model prog w) A (delItem (.ref l) (.ref sl)) Q E s
theorem del_all:∀ {a b c d e f g h i j},Om a b c d e f g h i j:=by
 refine @(Ab (Ao neW)<|@(Gm neI<|let_mvar% ?n:=(fun w A s prog E l sl its n Q=>?_:∀ a b c d e f g h i j,Om a b c d e f g h i j);?n _ _ _ _ _ _ _ _ _ _))
 intro hl hs hz h
 refine wpAny_delItem_slot ⟨_,hl,rfl⟩ (by decide) F.slot_list_delitem ?_
 refine wpAny_call_entry F.slot_list_delitem ⟨_,hl,rfl⟩ F.entry_list_delitem ?_ (F.args_list_delitem_2 _ _);unfold Builtin.«list.__delitem__»;refine Wb (wpAny_of_eq (a:=(.ref l,[.ref sl])) rfl ?_);dsimp only;refine Wb ?_;unfold listSubscript?;refine Wb (wpAny_specialOf (T:="slice") ⟨_,hs,rfl⟩ Jy ?_);refine Wp ?_;dsimp only;refine Wb (wpAny_typeOf (T:="slice") ⟨_,hs,rfl⟩ ?_)
 rw [if_neg (by decide +kernel)]
 refine Wb ?_;unfold listSliceParts;dsimp only;refine Wb (wpAny_field hs rfl (x:=.none) rfl ?_)
 rw [if_pos (by decide)]
 refine Wb (Wp ?_)
 rw [if_neg (by decide)]
 refine Wb (wpAny_field hs rfl (x:=.none) rfl ?_);refine Wb (Wp ?_);refine Wb (wpAny_field hs rfl (x:=.none) rfl ?_);refine Wb (Wp (Wp ?_));refine Wb (m:=listItems _) (Wb (wpAny_seqItems hl rfl (Wp ?_)));refine Wb (wpAny_of_eq (a:=((0:Int),(its.size:Int),(1:Int))) rfl ?_);refine Wb (wpAny_rule (Wb ?_))
 refine Wx hl hz (congrArg List.toArray (List.filterMap_eq_nil_iff.mpr fun x hx=>if_pos ?_)) fun h' n' hsb ho=>?_
 ·have hlt:x.2<its.toList.length:=by
   obtain⟨a,i⟩:=x;have:=List.mem_zipIdx hx
   exact(Nt fun hn1=>fk [_,_] (.e (.s V0) (.a K0 V1) (.e V1 V0 K0)) rfl this.2.1 hn1)
  show (if (1:Int) > 0 then decide ((0:Int)≤(x.2:Int)) && decide ((x.2:Int)<(its.size:Int)) && (((x.2:Int) - 0) % 1 == 0) else _)=true
  rw [if_pos (by decide)]
  have:(x.2:Int)<(its.size:Int):=by
   rw [Array.length_toList] at hlt
   omega
  simp [this,Int.emod_one]
 ·exact Wb (letGo_ (Wp ⟨_,rfl,h h' n' hsb ho⟩))
noncomputable def Kh(w:World)(A:Around)(s:Shared)(prog:Program)(E:Value→Shared→Prop)(h₀:Heap)(L:Addr)(m:Str→Option Value)(news:List (Addr × Obj))(l:Addr)(its:Array Value)(n:Nat)(news':Nat→List (Addr × Obj))(Q:Unit→Shared→Prop):Prop :=
 ∀ (hF:Fr h₀ L s.heap m) (N:News h₀ L s.heap news) (U:∀ n',Upd l (listOf its n) (listOf #[] n') news (news' n')) (hz:its.size≤sizeLine) (h:∀ h' n',Fr h₀ L h' m→News h₀ L h' (news' n')→Q () { s with heap:=h' }),wpAny (model prog w) A (delItem (.ref l) (.ref s.heap.objs.size)) Q E { s with heap:=s.heap.push Su }
theorem Vk:∀ {w A s prog E h₀ L m news l its n news' Q},Kh w A s prog E h₀ L m news l its n news' Q:=by
 refine @(Ab (Ao neW)<|@(Dq neI<|let_mvar% ?n:=(fun w A s prog E h₀ L m news l its n news' Q=>?_:∀ a b c d e f g h i j k l m n,Kh a b c d e f g h i j k l m n);?n _ _ _ _ _ _ _ _ _ _ _ _ _ _))
 intro hF N U hz h;obtain⟨pre,post,e1,_,_,_⟩:=(U 0).split
 have z:=N (l,listOf its n) (by rw [e1];exact List.mem_append.mpr (.inr (.head _)))
 refine del_all (Heap.get?_push_of_some _ z.1) (Heap.get?_push_size _ rfl) hz fun h' n' hsb ho'=>?_
 obtain⟨pre,post,e1,e2,a,b⟩:=(U n').split;refine h h' n' (Fr.change (Fr.pushS hF _) hsb z.2.1 z.2.2) ?_;rw [e2];rw [e1] at N
 exact news_set (fun p hp=>⟨Heap.get?_push_of_some _ (N p hp).1,(N p hp).2⟩) a b hsb ho'
def BmP(q:Addr)(h:Heap):Prop:=∃ id self,h.get? q=some { cls:=.type "builtin_function_or_method",data:=.fields #[.builtin id,self] }
theorem Br{M:Model}{env:Env}{pos:Pos}{first:List Value}{Q:Value→Shared→Prop}{q:Addr}{e:Expr}{rest:List Expr}(h:wpAny M A (spliced (backTo pos (starEach (e::rest) env))) (fun vs s₁=>BmP q s₁.heap∧wpAny M A (call (.ref q) (first++vs)) Q E s₁) E s)
  (he:starEach (e::rest) env=(false,eval e env)::starEach rest env:=by rfl) (hplain:(backTo pos (starEach rest env)).any (·.1)=false:=by rfl) :
  wpAny M A (callWith pos (.ref q) first (backTo pos (starEach (e::rest) env)) []) Q E s:=by
 rw [he] at h ⊢
 refine callWith_of (P:=BmP q) (by show ((false || (backTo pos (starEach rest env)).any (·.1)) || false)=false;rw [hplain];rfl) (fun h X=>?_) (evalArgs_plain h)
 obtain⟨id,self,ho⟩:=X;exact⟨.machine,.inr (.inl rfl),(Looks.ld (part:=none) ho).andThen .now⟩
end
end Mine
namespace Mine
open PySem.Calls
theorem nnt:¬ (!true)=true:=by decide
theorem Fr.to{g:Heap}{L:Addr}{h:Heap}{m m':Str→Option Value}(F:Fr g L h m)(e:m=m'):Fr g L h m':=e ▸ F
theorem Ur{a:Str}{v v':Option Value}{m0:Str→Option Value}:(fun y=>if y=a then v else if y=a then v' else m0 y)=(fun y=>if y=a then v else m0 y):=by
 funext y
 by_cases h1:y=a
 ·simp [h1]
 ·simp [h1]
noncomputable def Bm(pv:Bool)(x:Str):Str:=match pv with | true=>x | false=>Txt.strip x
theorem Um(pv:Bool)(x:Str):(Bm pv x).length≤x.length:=by
 cases pv with
 | true=>exact Nat.le_refl _
 | false =>
  show (Txt.strip x).length≤x.length
  unfold Txt.strip Txt.stripBy
  split
  ·exact Nat.le_refl _
  ·exact le_strSub _ _ _
end Mine
namespace Mine
open PySem.Calls
theorem As{M:Model}{A:Around}{f:Value}{args:List Value}{Q:Value→Shared→Prop}{E:Value→Shared→Prop}{g:Heap}{L:Addr}{m:Str→Option Value}{news:List (Addr × Obj)}{s:Shared}{os:OsState}(own rest:List (Addr × Obj))(F:Fr g L s.heap m)(N:News g L s.heap news)(hos:s.os=os)(hb:AllBare s.gens)
  (h1:∀ p∈own,p∈news) (h2:∀ p∈rest,p∈news) (h3:∀ p∈rest,p.1∉own.map (·.1))
  (h:∀ g₂,Ok g₂ os own s→(∀ b o,g.get? b=some o→g₂.get? b=some o)→(∀ p∈rest,g₂.get? p.1=some p.2)→(∀ s' own',Ok g₂ os own' s'→Fr g L s'.heap m∧News g L s'.heap (own'++rest)∧s'.os=os∧AllBare s'.gens) →
   codeAny M A (.call f ⟨args,[]⟩) (fun r s'=>match r with | .ok (.ret v)=>Q v s' | .ok _=>False | .error e=>E e s') s):wpAny M A (call f args) Q E s:=by
 obtain⟨a,b,c,d⟩:=Nq (own:=own) (rest:=rest) F N hos hb h1 h2 h3;exact wpAny_call (h _ a b c d)
theorem He{x:Str}(h:((x.length:Int) != 0)=true):x≠Str.empty:=fun e=>by rw [e] at h;revert h;decide
theorem Hb{x:Str}(h:¬ ((x.length:Int) != 0)=true):x=Str.empty:=Ge (by simpa using h)
noncomputable def Fv(x:Str):Str:=Cp "\r" "&#xD;" (Cp ">" "&gt;" (Cp "<" "&lt;" (Cp "&" "&amp;" x)))
noncomputable def Ey(x:Str):Str:=Cp "\r" "&#xD;" (Cp "\n" "&#xA;" (Cp "\t" "&#x9;" (Cp "\"" "&quot;" (Cp "<" "&lt;" (Cp "&" "&amp;" x)))))
noncomputable def Bl(rs:Bool)(D:Str):List Str:=if rs=true∧D≠Str.empty then [Fv D] else []
theorem Md{rs:Bool}{D:Str}(h:D=Str.empty∨rs=false):Bl rs D=[]:=by
 unfold Bl;refine if_neg fun z=>?_
 rcases h with h | h
 ·exact z.2 h
 ·rw [h] at z;exact Bool.false_ne_true z.1
theorem Rd{rs:Bool}{D:Str}(h:D≠Str.empty)(hr:rs=true):Bl rs D=[Fv D]:=if_pos ⟨hr,h⟩
theorem Bp{rs pv:Bool}:Bl rs (Bm pv (Txt.join Str.empty (([]:List (Str × Tok)).map (·.1))))=[]:=by
 refine Md (.inl ?_)
 cases pv with
 | true=>rfl
 | false=>exact(by decide +kernel:Txt.strip (Txt.join Str.empty [])=Str.empty)
theorem Fj{n:Nat}(h:n≤sizeLine):(n:Int)<2 ^ 63:=by
 rw [sizeLine_eq] at h
 have:(2:Int) ^ 63=9223372036854775808:=by decide
 lia
theorem Dz(rs:Bool)(D:Str):(Bl rs D).length≤1:=by
 unfold Bl;split
 ·exact Nat.le_refl _
 ·exact Nat.zero_le _
theorem Sa{ol ol2:List (Str × Tok)}{l:List Str}(e:ol2.map (·.1)=ol.map (·.1)++l)(hl:l.length≤9)(ho:ol.length≤5000):(strValues ol2).toArray.size≤sizeLine:=by
 have h:=congrArg List.length e
 simp only [List.length_map,List.length_append] at h
 rw [sizeLine_eq]
 simp only [strValues,List.size_toArray,List.length_map]
 exact(Nl fun hn1=>fk [_,_,_] (.e V0 (.k 9) (.e V1 (.k 5000) (.e V2 (.a V1 V0) (.e (.s (.k 16777216)) V2 K0)))) rfl hl ho (El h) hn1)
theorem Rp(p:List Value)(y:Value):kl_last (p++[y])=some (p,y):=by
 induction p with
 | nil=>rfl
 | cons a p ih =>
  cases p with
  | nil=>rfl
  | cons b p=>simp only [List.cons_append,kl_last] at ih ⊢;rw [ih]
theorem Sf{prog:Program}{w:World}{A:Around}{E:Value→Shared→Prop}{s:Shared}{h₀:Heap}{L D:Addr}{m:Str→Option Value}{news news':List (Addr × Obj)}{p:List Value}{y:Value}{n:Nat}{Q:Value→Shared→Prop}(F:Fr h₀ L s.heap m)(N:News h₀ L s.heap news)(U:Upd D (listOf (p++[y]).toArray n) (listOf p.toArray (n+1)) news news')
  (hz:p.length+1≤sizeLine) (h:∀ h',Fr h₀ L h' m→News h₀ L h' news'→Q y { s with heap:=h' }):wpAny (model prog w) A (call (.builtin "list.pop") [.ref D]) Q E s :=
 kl_pop F N (Rp p y) U (by simp only [List.length_append,List.length_cons,List.length_nil];exact hz) h
theorem Sp{uri p:Str}:∀ {l:List Pr} {seen seen':List Str},scan uri l seen=(some p,seen')→(uri,p)∈l
 | [],_,_,h=>by simp [scan] at h
 | q::r,seen,_,h=>by
  unfold scan at h
  split at h
  ·rename_i c
   injection h with h1 h2
   injection h1 with h1
   rw [← h1,← c.1];exact .head _
  ·exact .tail _ (Sp h)
theorem Mc{uri p:Str}:∀ {l:List Pr},find uri l=some p→(uri,p)∈l
 | [],h=>by simp [find] at h
 | q::r,h=>by
  unfold find at h
  split at h
  ·rename_i c
   injection h with h1
   rw [← h1,← c];exact .head _
  ·exact .tail _ (Mc h)
theorem Rh{p tag:Str}(hp:p.length≤200)(ht:tag.length≤200):(full p tag).length≤500:=by
 unfold full
 split
 ·exact(Nl fun hn1=>fk [_] (.e V0 (.k 200) (.e (.s (.k 500)) V0 K0)) rfl ht hn1)
 ·rw [size_cat,size_cat];have:(Str.ofString ":").length=1:=rfl;exact(Nl fun hn1=>fk [_,_,_] (.e V0 (.k 200) (.e V1 (.k 200) (.e V2 K1 (.e (.s (.k 500)) (.a (.a V0 V2) V1) K0)))) rfl hp ht (El this) hn1)
noncomputable def Si(decl ns:List Pr)(uri tag txt:Str)(o:Option Pr):Prop :=
 ∀ (h:qn decl ns uri tag=some (txt,o)) (hd:∀ q∈decl,q.2.length≤200) (hn:∀ q∈ns,q.2.length≤200) (ht:tag.length≤200),txt.length≤500
theorem Yg:∀ {a b c d e f},Si a b c d e f:=by
 refine @(Dq neI<|let_mvar% ?n:=(fun decl ns uri tag txt o=>?_:∀ a b c d e f,Si a b c d e f);?n _ _ _ _ _ _)
 intro h hd hn ht;unfold qn at h
 split at h
 ·rename_i p _ e
  injection h with h;injection h with h _
  rw [← h];exact Rh (hd _ (Sp e)) ht
 ·split at h
  ·injection h with h;injection h with h _;rw [← h];exact(Nl fun hn1=>fk [_] (.e V0 (.k 200) (.e (.s (.k 500)) V0 K0)) rfl ht hn1)
  ·split at h
   ·rename_i p e
    injection h with h;injection h with h _
    rw [← h];exact Rh (hn _ (Mc e)) ht
   ·split at h
    ·injection h with h;injection h with h _;rw [← h];exact(Nl fun hn1=>fk [_] (.e V0 (.k 200) (.e (.s (.k 500)) V0 K0)) rfl ht hn1)
    ·cases h
theorem Av(ol:List (Str × Tok))(x:Str)(t:Tok):(strValues (ol++[(x,t)])).toArray=(strValues ol).toArray.push (.str x t):=by
 unfold strValues;simp
end Mine
namespace Mine

open_top hd11 for PySem.Challenge.rw_dn0283_11
end Mine
namespace Mine
open PySem.Calls
theorem Ie{g:Heap}{os:OsState}{own rest:List (Addr × Obj)}{s:Shared}(H:Ok g os own s)(r:∀ p∈rest,g.get? p.1=some p.2){a b:Addr}{o o':Obj}(ha:(a,o)∈own)(hb:(b,o')∈rest):a≠b:=fun e=>by
 have h1:=(H.own _ ha).2;have h2:=r _ hb;rw [e] at h1;rw [h1] at h2
 cases h2
section
variable{hs:Nat→Int}{tk:Nat→Tok}{c2 c3 c4 c5 c6 c7 c8 c13:Value}{wr da de ns pm pr:Addr}{rs rd:Bool}{ig:Int}{n:Nat}{h:Int}{k:Value}{b:Bool}
theorem put_rd:(putL "_root_done" h k (.bool b) (wd hs tk c2 c3 c4 c5 c6 c7 c8 c13 wr da de ns pm pr rs rd ig),putN "_root_done" (wd hs tk c2 c3 c4 c5 c6 c7 c8 c13 wr da de ns pm pr rs rd ig) n)=(wd hs tk c2 c3 c4 c5 c6 c7 c8 c13 wr da de ns pm pr rs b ig,n):=rfl
theorem put_rs:(putL "_root_seen" h k (.bool b) (wd hs tk c2 c3 c4 c5 c6 c7 c8 c13 wr da de ns pm pr rs rd ig),putN "_root_seen" (wd hs tk c2 c3 c4 c5 c6 c7 c8 c13 wr da de ns pm pr rs rd ig) n)=(wd hs tk c2 c3 c4 c5 c6 c7 c8 c13 wr da de ns pm pr b rd ig,n):=rfl
end
end Mine
namespace Mine
open PySem.Calls
section
variable{prog:Program}{w:World}{A:Around}{E:Value→Shared→Prop}{s:Shared}
theorem if_not'{α:Type}{M:Model}{c:Bool}{a b:Sem α}{Q:α→Shared→Prop}(hc:c=false)(h:wpAny M A b Q E s):wpAny M A (if c=true then a else b) Q E s:=by
 subst hc;exact h
theorem Rt:typeLookup (.type "list") "append"=pure (some (.builtin "list.append")):=by rw [typeLookup_type,builtinLookup_eq_fast];kernel_rfl
theorem Xv:typeLookup (.type "method_descriptor") "__get__"=pure (some (.builtin "method_descriptor.__get__")):=by rw [typeLookup_type,builtinLookup_eq_fast];kernel_rfl
theorem Xw:typeLookup (.type "method_descriptor") "__set__"=pure none:=by rw [typeLookup_type,builtinLookup_eq_fast];kernel_rfl
theorem Xu:typeLookup (.type "method_descriptor") "__delete__"=pure none:=by rw [typeLookup_type,builtinLookup_eq_fast];kernel_rfl
theorem Wj:Slot "method_descriptor" "__get__" "method_descriptor.__get__" :=
 .of (owner:="method_descriptor") (n:="__get__") (by rw [typeLookup_type,builtinLookup_eq_fast];kernel_rfl) (by decide +kernel) (by decide +kernel) (by decide +kernel)
  (by first | exact .inl (by decide +kernel) | exact .inr (by decide +kernel)) (by rw [isSubtype_type];kernel_rfl)
theorem Tt:entryFor table "method_descriptor.__get__"=some Builtin.«method_descriptor.__get__»:=entryFor_of_tree (by kernel_rfl)
theorem Vf(a b c:Value):argsOk "method_descriptor.__get__" ⟨[a,b,c],[]⟩:=by unfold argsOk;kernel_rfl
theorem Td:typeOf (.builtin "list.append")=pure (.type "method_descriptor"):=by show builtinType _=_;rw [builtinType_eq_fast];kernel_rfl
theorem sub_list_list:isSubtype (.type "list") (.type "list")=pure true:=by rw [isSubtype_type];kernel_rfl
theorem Yj{l:Addr}{P:PySem.Fin→Shared→Prop}(hT:s.TypeIs (.ref l) "list")(h:P (.done (.ret (.ref s.heap.objs.size))) { s with heap:=s.heap.push (Aj l) }) :
  wpAny (model prog w) A (Builtin.«method_descriptor.__get__» ⟨[.builtin "list.append",.ref l,.type "list"],[]⟩) P E s:=by
 unfold Builtin.«method_descriptor.__get__»
 refine Wb (wpAny_of_eq (a:=(.builtin "list.append",some (.ref l),some (.type "list"))) (by first | rfl | kernel_rfl) ?_)
 dsimp only
 rw [if_neg (by decide +kernel)]
 refine Wb ?_;refine Wb ?_
 refine wpAny_of_eq (a:=(Str.ofString "append",.type "list")) (by first | rfl | kernel_rfl) ?_
 dsimp only;refine Wb (wpAny_isInstance hT sub_list_list ?_);refine if_not' rfl ?_;exact Wp (Wb (wpAny_newObj_type (Wp h)))
noncomputable def Hk(w:World)(A:Around)(s:Shared)(prog:Program)(E:Value→Shared→Prop)(l:Addr)(its:Array Value)(n:Nat)(Q:Value→Shared→Prop):Prop :=
 ∀ (ho:s.heap.get? l=some (listOf its n)) (h:∀ tk,Q (.ref s.heap.objs.size) { s with heap:=s.heap.push (Aj l),toks:=tk }),wpAny (model prog w) A (getAttr (.ref l) "append" true) Q E s
theorem Qu:∀ {a b c d e f g h i},Hk a b c d e f g h i:=by
 refine @(Ab (Ao neW)<|@(Au neI<|let_mvar% ?n:=(fun w A s prog E l its n Q=>?_:∀ a b c d e f g h i,Hk a b c d e f g h i);?n _ _ _ _ _ _ _ _ _))
 intro ho h;obtain⟨hp,g,d,tk,os⟩:=s
 have hT:∀ tk',(⟨hp,g,d,tk',os⟩:Shared).TypeIs (.ref l) "list":=fun _=>⟨_,ho,rfl⟩
 have f3:=F.slot_list_getattribute.lookup;have f4:=F.slot_list_getattribute.bind (.ref l);have f5:=am_list_getattr_none;have f6:=Rt;unfold getAttr getAttrBy
 repeat (any_goals (first | assumption | exact hT _ | ((with_reducible show wpAny _ _ (call (.builtin "list.__getattribute__") _ _) _ _ _);refine wpAny_call_entry F.slot_list_getattribute (hT _) am_entry_list_getattribute ?_ (F.args_list_getattribute_2 _ _)) | wp_step))
 rw [Gt];have f7:=Xv;have f8:=Xw;have f9:=Xu
 repeat (any_goals (first | assumption | exact hT _ | ((with_reducible show wpAny _ _ (call (.builtin "method_descriptor.__get__") _ _) _ _ _);refine wpAny_call_entry Wj Td Tt (Yj (hT _) ⟨_,rfl,?_⟩) (Vf _ _ _)) | wp_step | rw [Gt]))
 refine⟨_,rfl,?_⟩
 repeat (any_goals (first | assumption | exact h _ | wp_step))
theorem Nz{h₀:Heap}{L:Addr}{m:Str→Option Value}{news:List (Addr × Obj)}{l:Addr}{its:Array Value}{n:Nat}{Q:Value→Shared→Prop}(F:Fr h₀ L s.heap m)(N:News h₀ L s.heap news)(hm:(l,listOf its n)∈news)
  (h:∀ x h' tk,Fr h₀ L h' m→News h₀ L h' ((x,Aj l)::news)→(∀ p∈news,p.1<x)→Q (.ref x) { s with heap:=h',toks:=tk }):wpAny (model prog w) A (getAttr (.ref l) "append" true) Q E s :=
 Qu (N _ hm).1 fun tk=>h _ _ tk (Fr.pushS F _) (News.push F N _) fun p hp=>Heap.lt_size (N p hp).1
end
end Mine
namespace Mine
open PySem.Calls
noncomputable abbrev Bg(P:Params)(l:List ((Str × Tok) × (Str × Tok))):List DictEntry:=l.map fun p=>⟨PyData.keyHash P p.1.1,.str p.1.1 p.1.2,.str p.2.1 p.2.2⟩
noncomputable abbrev Ff(l:List ((Str × Tok) × (Str × Tok))):List (Str × Value):=l.map fun p=>(p.1.1,.str p.2.1 p.2.2)
section
variable{prog:Program}{w:World}{A:Around}{E:Value→Shared→Prop}{s:Shared}{h₀:Heap}{L:Addr}{m:Str→Option Value}{news:List (Addr × Obj)}
theorem Sw:∀ l:List ((Str × Tok) × (Str × Tok)),Pairs (strKind prog w) (Bg w.params l) (Ff l)
 | []=>.nil
 | p::l=>.cons (strKind_is _ _ _ _) rfl (Sw l)
theorem Jm{l:List ((Str × Tok) × (Str × Tok))}{n:Nat}(hn:(l.map (·.1.1)).Nodup):(dictOf (Bg w.params l) n).IsDictOf (strKind prog w) (Ff l):=by
 refine⟨_,n,⟨rfl,rfl,rfl⟩,rfl,?_,Sw l,?_⟩
 ·intro e he
  simp only [List.mem_toArray,List.mem_map] at he
  obtain⟨p,_,rfl⟩:=he;exact⟨p.1.1,strKind_is _ _ _ _,rfl⟩
 ·rw [List.map_map];exact hn
theorem Jn{d:Addr}{l:List ((Str × Tok) × (Str × Tok))}{n:Nat}{pl:Sem Bool}{Q:Value × List Value→Shared→Prop}(hd:s.heap.get? d=some (dictOf (Bg w.params l) n))(h:Q (.builtin "dict.items",[.ref d]) s) :
  wpAny (model prog w) A (getMethod (.ref d) "items" pl) Q E s :=
 getMethod_builtin ⟨_,hd,rfl⟩ PySem.F.plainAttrs_dict PySem.F.slot_dict_items PySem.F.type_dict_items (fun a e=>by cases e;exact⟨_,hd,rfl⟩) h
theorem Sv{d:Addr}{l:List ((Str × Tok) × (Str × Tok))}{n:Nat}{Q:Value→Shared→Prop}(F:Fr h₀ L s.heap m)(N:News h₀ L s.heap news)(hd:s.heap.get? d=some (dictOf (Bg w.params l) n))(hn:(l.map (·.1.1)).Nodup)(lo:(d == sysModules)=false)
  (h:∀ (D:Addr) h',Fr h₀ L h' m→News h₀ L h' ((D,{ cls:=.type "dict_items",data:=.fields #[.ref d] })::news)→(∀ q∈news,q.1<D)→(∀ b o,s.heap.get? b=some o→h'.get? b=some o)→Q (.ref D) { s with heap:=h' }) :
  wpAny (model prog w) A (call (.builtin "dict.items") [.ref d]) Q E s:=by
 have hD:s.heap.DictOf (strKind prog w) d (Ff l):=Heap.dictOf_iff.mpr ⟨_,hd,Jm hn⟩
 exact call_meetsIn PySem.F.slot_dict_items hD.typeIs PySem.F.entry_dict_items (PySem.F.args_dict_items_1 _) (meets_dict_items (strKind prog w) d lo) ⟨⟨_,hD⟩,h _ _ (F.push _) (News.push F N _) (fun q hq=>Heap.lt_size (N q hq).1) (fun b o e=>Heap.get?_push_of_some _ e)⟩
theorem Vc{k:Str}{v:Value}(h:(strKind prog w).is k v=true):∃ t,v=.str k t:=by
 cases v<;>simp [PySem.strKind,Value.isStrOf] at h
 exact⟨_,by rw [h]⟩
abbrev Oh(q:Addr × Obj)(p:(Str × Tok) × (Str × Tok)):Prop:=∃ t,q.2=Ae #[.str p.1.1 t,.str p.2.1 p.2.2]
theorem tl_of{h:Heap}:∀ (as:List Addr) (l:List ((Str × Tok) × (Str × Tok))),as.length=l.length →
  (∀ (j:Nat) (a:Addr),as[j]?=some a→∃ key k x,(Ff l)[j]?=some (k,x)∧(strKind prog w).is k key=true∧h.get? a=some { cls:=.type "tuple",data:=.seq #[key,x] }) →
  ∃ tl:List (Addr × Obj),tl.map (·.1)=as∧All2 Oh tl l∧∀ q∈tl,h.get? q.1=some q.2
 | [],[],_,_=>⟨[],rfl,.nil,fun _ hq=>nomatch hq⟩
 | [],_::_,hl,_=>by simp at hl
 | _::_,[],hl,_=>by simp at hl
 | a::as,p::l,hl,hp=>by
  obtain⟨key,k,x,e1,e2,e3⟩:=hp 0 a rfl
  obtain⟨tl,f1,f2,f3⟩:=tl_of as l (by simpa using hl) fun j b hj=>by
   obtain⟨key',k',x',g1,g2,g3⟩:=hp (j+1) b (by simpa using hj)
   exact⟨key',k',x',by simpa using g1,g2,g3⟩
  obtain⟨t,rfl⟩:=Vc e2
  simp only [Ff,List.map_cons,List.getElem?_cons_zero,Option.some.injEq,Prod.mk.injEq] at e1
  obtain⟨rfl,rfl⟩:=e1
  exact⟨(a,_)::tl,by rw [List.map_cons,f1],.cons ⟨t,rfl⟩ f2,fun q hq=>by
   rcases List.mem_cons.mp hq with rfl | hq
   ·exact e3
   ·exact f3 q hq⟩
theorem ss_list{v d:Addr}{l:List ((Str × Tok) × (Str × Tok))}{n:Nat}{Q:Value→Shared→Prop}(hh:A.handled=none)(F:Fr h₀ L s.heap m)(N:News h₀ L s.heap news)(hd:s.heap.get? d=some (dictOf (Bg w.params l) n))(hn:(l.map (·.1.1)).Nodup)(hz:l.length≤sizeLine)
  (hv:(v,{ cls:=.type "dict_items",data:=.fields #[.ref d] })∈news)
  (h:∀ (B:Addr) tl c h' tk,All2 Oh tl l→(tl.map (·.1)).Pairwise (·<·)→(∀ q∈tl,B<q.1)→(∀ q∈news,q.1<B)→Fr h₀ L h' m→News h₀ L h' (tl++(B,listOf (tl.map fun q=>.ref q.1).toArray c)::news)→Q (.ref B) { s with heap:=h',toks:=tk }) :
  wpAny (model prog w) A (call (.type "list") [.ref v]) Q E s:=by
 obtain⟨ep,hat⟩:=KdkAt.of (Jm (prog:=prog) (w:=w) (n:=n) hn)
 refine kdx_call (knd:=strKind prog w) (kvs:=Ff l) (ep:=ep) hh ⟨_,(N _ hv).1,rfl,rfl⟩ (hat.dictAt hd) (by rw [List.length_map];exact hz) fun h' tk acc c as hk hS hl hG hacc=>?_
 obtain⟨tl,rfl,f2,f3⟩:=tl_of (h:=h') as l (by rw [hl,List.length_map]) hG.pairs
 have ea:acc=(tl.map fun q=>.ref q.1).toArray:=by rw [← Array.toArray_toList (xs:=acc),hacc,List.map_map];rfl
 subst ea
 refine h _ tl c h' tk f2 hG.rise (fun q hq=>hG.above _ (List.mem_map_of_mem hq)) (fun q hq=>Heap.lt_size (N q hq).1) (F.keeps hk) fun q hq=>?_
 rcases List.mem_append.mp hq with hq | hq
 ·exact⟨f3 q hq,kdx_fresh F (Nat.le_of_lt (hG.above _ (List.mem_map_of_mem hq)))⟩
 ·rcases List.mem_cons.mp hq with rfl | hq
  ·exact⟨hS,kdx_fresh F (Nat.le_refl _)⟩
  ·exact⟨hk _ _ (N q hq).1,(N q hq).2⟩
theorem All2.uncons{α β:Type}{P:α→β→Prop}{l:List α}{b:β}{r:List β}(h:All2 P l (b::r)):∃ a l',l=a::l'∧P a b∧All2 P l' r:=by
 cases h with | cons p q=>exact⟨_,_,rfl,p,q⟩
theorem All2.unnil{α β:Type}{P:α→β→Prop}{l:List α}(h:All2 P l ([]:List β)):l=[]:=by
 cases h;rfl
end
end Mine
namespace Mine
open PySem.Calls
theorem Tz(t:SetTable)(es:Array (Int × Value))(h:Int)(x:Value):(layNew t es h x).2.1.led=t.led:=by
 unfold layNew
 split
 ·dsimp only
  unfold SetTable.orStandIn
  split<;>rfl
 ·rfl
noncomputable def Jg(t t':SetTable)(hs:Array Int)(n:Nat)(od:Array Nat):Prop :=
 ∀ (h:t.relaid hs n=some (t',od)),t'.led=t.led∧t'.plain=t.plain
theorem My:∀ {a b c d e},Jg a b c d e:=by
 refine @(Et neI<|let_mvar% ?n:=(fun t t' hs n od=>?_:∀ a b c d e,Jg a b c d e);?n _ _ _ _ _)
 intro h;unfold SetTable.relaid SetTable.laid at h
 cases e:SetTable.layClean (SetTable.sizeAbove n - 1) hs with
 | none=>rw [e] at h;cases h
 | some ow=>rw [e] at h;cases h;exact⟨rfl,rfl⟩
theorem Qd(t:SetTable)(es:Array (Int × Value))(n:Nat):(relayAll t es n).2.1.led=t.led∧(t.plain=false→(relayAll t es n).2.1.plain=false):=by
 unfold relayAll
 split
 ·rename_i t' od e
  dsimp only
  split
  ·exact⟨(My e).1,fun h=>(My e).2.trans h⟩
  ·exact⟨rfl,fun _=>rfl⟩
 ·exact⟨rfl,fun _=>rfl⟩
noncomputable def unS:Value→Str × Tok
 | .str x t=>(x,t)
 | _=>(Str.empty,0)
theorem unS_str(l:List (Str × Tok)):(strValues l).map unS=l:=by
 unfold strValues;rw [List.map_map]
 conv=>rhs;rw [← List.map_id l]
 exact List.map_congr_left fun p _=>rfl
theorem Sd{vs:List Value}{l:List (Str × Tok)}(h:vs.Perm (strValues l)):∃ l1,vs=strValues l1∧l1.Perm l:=by
 refine⟨vs.map unS,?_,?_⟩
 ·unfold strValues;rw [List.map_map]
  conv=>lhs;rw [← List.map_id vs]
  refine List.map_congr_left fun v hv=>?_
  obtain⟨p,_,rfl⟩:=List.mem_map.mp (show v∈l.map fun p=>.str p.1 p.2 from h.mem_iff.mp hv)
  rfl
 ·have:=h.map unS
  rwa [unS_str] at this
theorem has_nil(j:Nat):SetTable.has #[] j=false:=by unfold SetTable.has;simp
def Kd(t:SetTable):Prop:=7≤t.mask∧t.dummies=#[]
theorem Qa(t:SetTable)(es:Array (Int × Value))(h:Int)(x:Value)(c:Kd t):Kd (layNew t es h x).2.1:=by
 unfold layNew
 split
 ·dsimp only
  unfold SetTable.orStandIn
  split
  ·refine⟨c.1,?_⟩
   show (if SetTable.has t.dummies _ then _ else t.dummies)=#[]
   rw [c.2,has_nil];rfl
  ·refine⟨?_,rfl⟩
   show 7≤4 * _+4
   unfold SetTable.insertAt
   simp only [Array.size_append,Array.size_push]
   exact(Nl fun hn1=>fk [_,_] (.e (.a (.a (.m 4 (.a (.s V0) V1)) (.k 4)) K1) (.k 7) K0) rfl hn1)
 ·refine⟨?_,rfl⟩
  show 7≤4 * _+4
  exact(Nl fun hn1=>fk [_] (.e (.a (.a (.m 4 (.s V0)) (.k 4)) K1) (.k 7) K0) rfl hn1)
theorem Qh(n:Nat):8≤SetTable.sizeAbove n:=by
 have go:∀ f k,8≤k→8≤SetTable.sizeAbove.go n f k:=by
  intro f
  induction f with
  | zero=>intro k hk;exact hk
  | succ f ih =>
   intro k hk;unfold SetTable.sizeAbove.go
   split
   ·exact ih _ (by exact(Nl fun hn1=>fk [_] (.c 2 (.k 8) V0 (.e (.a (.w V0 2) K1) (.k 8) K0)) rfl hk hn1))
   ·exact hk
 exact go 64 8 (Nat.le_refl _)
theorem Qc{t t':SetTable}{hs:Array Int}{n:Nat}{od:Array Nat}(h:t.relaid hs n=some (t',od)):Kd t':=by
 unfold SetTable.relaid SetTable.laid at h;have:=Qh n
 cases e:SetTable.layClean (SetTable.sizeAbove n - 1) hs with
 | none=>rw [e] at h;cases h
 | some ow=>rw [e] at h;cases h;exact⟨by show 7≤SetTable.sizeAbove n - 1;exact(Nl fun hn1=>fk [_,_] (.e (.k 8) V0 (.e (.s V1) (.k 7) (.e V0 (.s V1) K0))) rfl this hn1 Ln.sba),rfl⟩
theorem Mz(t:SetTable)(es:Array (Int × Value))(n:Nat)(hz:0<es.size):Kd (relayAll t es n).2.1:=by
 unfold relayAll
 split
 ·rename_i t' od e
  dsimp only
  split
  ·exact Qc e
  ·exact⟨by show 7≤4 * _+4;exact(Nl fun hn1=>fk [_] (.c 4 (.s K0) V0 (.e (.a (.a (.m 4 V0) (.k 4)) K1) (.k 7) K0)) rfl hz hn1),rfl⟩
 ·exact⟨by show 7≤4 * _+4;exact(Nl fun hn1=>fk [_] (.c 4 (.s K0) V0 (.e (.a (.a (.m 4 V0) (.k 4)) K1) (.k 7) K0)) rfl hz hn1),rfl⟩
def Er(prog:Program)(w:World)(o:Obj)(ks:List Str):Prop:=∃ es ep t l,o.ExactSet∧o.data=.set es ep t∧ElemsOf (strKind prog w) es.toList∧es.toList.map (·.2)=strValues l∧(l.map (·.1)).Perm ks∧t.fits es.size=true ∧
 t.led=(!w.params.followText "set-order")∧(ks≠[]→t.plain=false)∧Kd t
section
variable{prog:Program}{w:World}{A:Around}{E:Value→Shared→Prop}{s:Shared}{h₀:Heap}{L:Addr}{m:Str→Option Value}{news:List (Addr × Obj)}
theorem Er.size{es:Array (Int × Value)}{l:List (Str × Tok)}{ks:List Str}(h1:es.toList.map (·.2)=strValues l)(h2:(l.map (·.1)).Perm ks):es.size=ks.length:=by
 have:=congrArg List.length h1;rw [List.length_map,Array.length_toList] at this;rw [this];unfold strValues;rw [List.length_map,← h2.length_eq,List.length_map]
theorem Yx(led:Bool)(h:led=(!w.params.followText "set-order")):Er prog w { cls:=.type "set",dict:=none,data:=.set #[] 0 (.fresh 0 0 led) } [] :=
 ⟨#[],0,_,[],⟨rfl,rfl,rfl⟩,rfl,fun e he=>by simp at he,rfl,.rfl,by rfl,h,fun z=>absurd rfl z,Nat.le_refl _,rfl⟩
theorem Np{a:Addr}{o:Obj}{es es':Array (Int × Value)}{ep:Nat}{t t':SetTable}{Q:Unit→Shared→Prop}(ho:s.heap.get? a=some o)(hd:o.data=.set es ep t)(hz:es'.size<scanBound)
  (h:∀ h',Heap.SameBut a s.heap h'→h'.get? a=some { o with data:=.set es' (ep+1) t' }→Q () { s with heap:=h' }):wpAny (model prog w) A (storeSet a es' t') Q E s:=by
 refine wpAny_storeSet_of ho hd (h _ (Heap.SameBut.update ..) ?_) (fits_of_scanBound hz)
 have:=Heap.get?_update_self (Obj.putSet es' t') ho (by rw [putSet_of es' t' hd];rfl)
 rw [putSet_of es' t' hd] at this;exact this
noncomputable def La(w:World)(A:Around)(s:Shared)(prog:Program)(E:Value→Shared→Prop)(a:Addr)(o:Obj)(ks:List Str)(y:Str)(ty:Tok)(Q:Bool→Shared→Prop):Prop :=
 ∀ (ho:s.heap.get? a=some o) (hT:Er prog w o ks) (hy:y∉ks) (hz:ks.length<100) (h:∀ h' o',Heap.SameBut a s.heap h'→h'.get? a=some o'→Er prog w o' (y::ks)→Q true { s with heap:=h' }),wpAny (model prog w) A (setAddHashed a (.str y ty) ((strKind prog w).hash y)) Q E s
theorem Pk:∀ {w A s prog E a o ks y ty Q},La w A s prog E a o ks y ty Q:=by
 refine @(Ab (Ao neW)<|@(Ec neI<|let_mvar% ?n:=(fun w A s prog E a o ks y ty Q=>?_:∀ a b c d e f g h i j k,La a b c d e f g h i j k);?n _ _ _ _ _ _ _ _ _ _ _))
 intro ho hT hy hz h;obtain⟨es,ep,t,l,hex,hd,hel,hl,hp,hf,hled,hpl,hcl⟩:=hT;have hsz:es.size=ks.length:=Er.size hl hp;have hsb:scanBound=4096:=rfl
 have hb:es.size<scanBound:=by exact(Nt fun hn1=>fk [_,_,_] (.e (.s V0) (.k 100) (.e V1 V0 (.e (.k 4096) V2 (.e V2 V1 K0)))) rfl hz (El hsz) (Es hsb) hn1)
 have hkey:(strKind prog w).is y (.str y ty)=true:=by simp [PySem.strKind,Value.isStrOf]
 unfold setAddHashed setAddHashedIn;refine wpAny_holding (Wb (wpAny_setState_of ho hd hf ?_));dsimp only;rw [byScan_of (knd:=strKind prog w) rfl hb hel]
 simp only [↓reduceIte]
 unfold setAddByScan;refine Wb ?_;refine Wb (wpAny_rule ?_);refine Wb (wpAny_setScan_of hkey ho hd hf hel ?_)
 have hnf:List.findIdx? (fun e=>(strKind prog w).is y e.2) es.toList=none:=by
  refine List.findIdx?_eq_none_iff.mpr fun e he=>?_
  have hm:e.2∈strValues l:=by rw [← hl];exact List.mem_map_of_mem he
  obtain⟨p,hpm,e2⟩:=List.mem_map.mp hm
  have hne:p.1≠y:=fun z=>hy (hp.mem_iff.mp (z ▸ List.mem_map_of_mem hpm))
  rw [← e2]
  cases hc:(strKind prog w).is y (.str p.1 p.2) with
  | false=>rfl
  | true=>exact absurd ((strKind prog w).inj _ p.1 y (by simp [PySem.strKind,Value.isStrOf]) hc) hne
 rw [hnf];dsimp only;have hperm:=layNew_perm t es ((strKind prog w).hash y) (.str y ty);have hfits:=layNew_fits t es ((strKind prog w).hash y) (.str y ty);have hl1:=Tz t es ((strKind prog w).hash y) (.str y ty);have hc1:=Qa t es ((strKind prog w).hash y) (.str y ty) hcl
 generalize hL:layNew t es ((strKind prog w).hash y) (.str y ty)=LL at hperm hfits hl1 hc1 ⊢
 obtain⟨es1,t1,wasDummy,gave⟩:=LL;dsimp only at hperm hfits hl1 hc1 ⊢;rw [Array.toList_push] at hperm
 have hgw:∀ (b:Bool) {s₁:Shared} {Q':Unit→Shared→Prop},Q' () s₁→wpAny (model prog w) A (match b with | true=>rule "set.scan.the-table-gave-way" | false=>pure ()) Q' E s₁ :=
  fun b s₁ Q' hq=>by cases b<;>first | exact Wp hq | exact wpAny_rule hq
 have hel1:ElemsOf (strKind prog w) es1.toList:=(hel.push hkey rfl).perm hperm
 have hp1:(es1.toList.map (·.2)).Perm (strValues (l++[(y,ty)])):=by
  have:=hperm.map (·.2);rw [List.map_append,hl] at this;unfold strValues at this ⊢;rw [List.map_append];exact this
 have hsz1:es1.size=ks.length+1:=by rw [← Array.length_toList,hperm.length_eq,List.length_append,Array.length_toList,hsz];rfl
 have fin:∀ (es2:Array (Int × Value)) (t2:SetTable) (e2:Nat),es2.toList.Perm es1.toList→t2.fits es2.size=true→t2.led=t.led→t2.plain=false→Kd t2→Er prog w { o with data:=.set es2 e2 t2 } (y::ks):=by
  intro es2 t2 e2 hp2 hf2 hl2 hpl2 hc2;obtain⟨l2,hl2a,hl2b⟩:=Sd ((hp2.map (·.2)).trans hp1)
  refine⟨es2,e2,t2,l2,hex,rfl,hel1.perm hp2,hl2a,?_,hf2,hl2.trans hled,fun _=>hpl2,hc2⟩
  have:=hl2b.map (·.1);rw [List.map_append] at this;refine this.trans ?_;refine(List.perm_append_comm).trans ?_;exact hp.cons y
 have tail:∀ (t2:SetTable),t2.fits es1.size=true→t2.led=t.led→t2.plain=false→Kd t2→wpAny (model prog w) A (do
    storeSet a es1 t2
    if (!wasDummy && t2.tooFull)=true then do
      (match (relayAll t2 es1 (SetTable.grown es1.size)).2.2 with | true=>rule "set.scan.the-table-gave-way" | false=>pure ())
      storeSet a (relayAll t2 es1 (SetTable.grown es1.size)).1 (relayAll t2 es1 (SetTable.grown es1.size)).2.1
      pure (some true)
     else pure (some true)) (fun r s'=>wpAny (model prog w) A (match r with | some added=>pure added | none=>setAddHashedIn a (.str y ty) ((strKind prog w).hash y) 99999) Q E s') E s:=by
  intro t2 hf2 hl2 hpl2 hc2
  refine Wb (Np ho hd (by exact(Nt fun hn1=>fk [_,_,_] (.e (.s V0) (.k 100) (.e (.k 4096) V1 (.e V2 (.s V0) (.e V1 V2 K0)))) rfl hz (Es hsb) (El hsz1) hn1)) fun h1 hs1 ho1=>?_)
  split
  ·have hp2:=relayAll_perm t2 es1 (SetTable.grown es1.size)
   have hfr:=relayAll_fits t2 es1 (SetTable.grown es1.size);have hlr:=Qd t2 es1 (SetTable.grown es1.size);refine Wb (hgw _ ?_)
   have hsz2:(relayAll t2 es1 (SetTable.grown es1.size)).1.size=es1.size:=by rw [← Array.length_toList,hp2.length_eq,Array.length_toList]
   refine Wb (Np ho1 rfl (by rw [hsz2];exact(Nt fun hn1=>fk [_,_,_] (.e (.s V0) (.k 100) (.e (.k 4096) V1 (.e V2 (.s V0) (.e V1 V2 K0)))) rfl hz (Es hsb) (El hsz1) hn1)) fun h2 hs2 ho2=>?_)
   exact Wp (Wp (h h2 _ (hs1.trans hs2) ho2 (fin _ _ _ hp2 hfr (hlr.1.trans hl2) (hlr.2 hpl2) (Mz _ _ _ (by exact(Nt fun hn1=>fk [_,_] (.e (.s V0) V1 (.e V1 K0 K0)) rfl (Es hsz1) hn1))))))
  ·exact Wp (Wp (h h1 _ hs1 ho1 (fin _ _ _ .rfl hf2 hl2 hpl2 hc2)))
 refine Wb (hgw _ ?_);have hby:=hashByValue_scannable (x:=.str y ty) 8 rfl
 split
 ·rw [hby]
  refine Wb (Wp ?_);exact tail { t1 with plain:=false } (SetTable.fits_plain_off hfits) hl1 rfl hc1
 ·rename_i hpf
  refine Wb (Wp ?_)
  exact tail t1 hfits hl1 (by simpa using hpf) hc1
end
end Mine
namespace Mine
open PySem.Calls
section
variable{prog:Program}{w:World}{A:Around}{E:Value→Shared→Prop}{s:Shared}{h₀:Heap}{L:Addr}{m:Str→Option Value}{news:List (Addr × Obj)}
theorem sub_dict_set:isSubtype (.type "dict") (.type "set")=pure false:=by rw [isSubtype_type];kernel_rfl
theorem Lk:isSubtype (.type "dict") (.type "frozenset")=pure false:=by rw [isSubtype_type];kernel_rfl
theorem Vl:entryFor table "set.update.loop"=some Builtin.«set.update.loop»:=entryFor_of_tree (by kernel_rfl)
theorem Wf{t:SetTable}{n k:Nat}(c:Kd t)(hf:t.fits n=true)(hn:n≤1)(hk:k≤3):t.roomFor k=none:=by
 unfold SetTable.fits at hf
 simp only [Bool.and_eq_true,beq_iff_eq] at hf
 unfold SetTable.roomFor SetTable.fill;rw [c.2];have:=c.1
 simp only [Array.size_empty,Nat.add_zero]
 rw [if_neg]
 exact(fun hn1=>fk [_,_,_,_] (.c 5 V0 K1 (.c 5 V1 (.k 3) (.c 5 V2 V0 (.c 3 (.k 7) V3 (.e (.w V3 3) (.w (.a V2 V1) 5) K0))))) rfl hn hk (El hf.1) this hn1)
theorem Pl{a:Addr}{o:Obj}{ks:List Str}{y:Str}{ty:Tok}{Q:Bool→Shared→Prop}(ho:s.heap.get? a=some o)(hT:Er prog w o ks)(hy:y∉ks)(hz:ks.length<100)
  (h:∀ h' o' tk,Heap.SameBut a s.heap h'→h'.get? a=some o'→Er prog w o' (y::ks)→Q true { s with heap:=h',toks:=tk }) :
  wpAny (model prog w) A (setAdd a (.str y ty)) Q E s:=by
 unfold setAdd;refine wpAny_holding (Wb (wpAny_pyHash_str ?_))
 exact Pk (s:={ s with toks:=s.toks+1 }) ho hT hy hz fun h' o' a1 a2 a3=>h h' o' _ a1 a2 a3
theorem Vb{a d:Addr}{l:List ((Str × Tok) × (Str × Tok))}{n:Nat}{R:PUnit→Shared→Prop}(hne:a≠d)(hnd:(l.map (·.1.1)).Nodup)(ks0:List Str)(hdis:∀ p∈l,p.1.1∉ks0)(hz:ks0.length+l.length<100)
  (body:Nat→PUnit→Sem (ForInStep PUnit))
  (hb:∀ (i:Nat) (p:(Str × Tok) × (Str × Tok)) (s:Shared) (R':ForInStep PUnit→Shared→Prop),s.heap.get? d=some (dictOf (Bg w.params l) n)→l[i]?=some p →
   wpAny (model prog w) A (setAddHashed a (.str p.1.1 p.1.2) ((strKind prog w).hash p.1.1)) (fun _ s'=>s'.heap.get? d=some (dictOf (Bg w.params l) n)∧R' (.yield ⟨⟩) s') E s→wpAny (model prog w) A (body i ⟨⟩) R' E s) :
  ∀ (k i:Nat) (s:Shared) (o:Obj) (ks:List Str),i+k=l.length→s.heap.get? a=some o→Er prog w o ks→ks=((l.take i).map (·.1.1)).reverse++ks0→s.heap.get? d=some (dictOf (Bg w.params l) n) →
   (∀ h' o',Heap.SameBut a s.heap h'→h'.get? a=some o'→Er prog w o' ((l.map (·.1.1)).reverse++ks0)→R ⟨⟩ { s with heap:=h' }) →
   wpAny (model prog w) A (forIn (List.range' i k) PUnit.unit body) R E s
 | 0,i,s,o,ks,hk,ho,hT,e,hd,h=>by
  rw [List.range'_zero,List.forIn_nil];refine Wp ?_;subst e
  have:l.take i=l:=List.take_of_length_le (by exact(Nl fun hn1=>fk [_,_] (.e V0 (.a V1 K0) (.e (.s V1) V0 K0)) rfl (Es hk) hn1))
  rw [this] at hT
  have:=h s.heap o ⟨rfl,fun _ _=>rfl⟩ ho hT
  exact this
 | k+1,i,s,o,ks,hk,ho,hT,e,hd,h=>by
  rw [List.range'_succ,List.forIn_cons]
  have hi:i<l.length:=by exact(Nt fun hn1=>fk [_,_,_] (.e (.a V0 (.s V1)) V2 (.e V2 V0 K0)) rfl (El hk) hn1)
  have hp:l[i]?=some l[i]:=List.getElem?_eq_getElem hi
  have hnot:l[i].1.1∉ks:=by
   subst e;intro hm
   rcases List.mem_append.mp hm with hm | hm
   ·rw [List.mem_reverse] at hm
    obtain⟨q,hq,eq⟩:=List.mem_map.mp hm;obtain⟨j,hj,ej⟩:=List.mem_take_iff_getElem.mp hq
    have h1:(l.map (·.1.1))[j]'(by rw [List.length_map];exact(Nt fun hn1=>fk [_,_,_,_] (.e (.s V0) V1 (.e (.s V2) V3 (.e V3 V0 (.e V1 V2 K0)))) rfl hi hj (Nat.min_le_left _ _) hn1))=(l.map (·.1.1))[i]'(by rw [List.length_map];exact hi):=by
     rw [List.getElem_map,List.getElem_map,ej];exact eq
    have:=(List.getElem_inj hnd).mp h1;exact fk [_,_,_] (.e (.s V0) V1 (.e V2 V0 (.e V1 V2 K0))) rfl hj (Es this) (Nat.min_le_left _ _)
   ·exact hdis _ (List.getElem_mem hi) hm
  refine Wb (hb i l[i] s _ hd hp ?_)
  refine Pk ho hT hnot ?_ fun h' o' hs ho' hT'=>⟨?_,?_⟩
  ·subst e;simp only [List.length_append,List.length_reverse,List.length_map,List.length_take];exact(Nt fun hn1=>fk [_,_,_,_] (.e (.a (.a V0 V1) K1) (.k 100) (.e (.s V2) V1 (.e V3 V2 (.e (.k 100) (.a V3 V0) K0)))) rfl hz hi (Nat.min_le_left _ _) hn1)
  ·exact(hs.2 d (Ne.symm hne)).trans hd
  ·refine Vb hne hnd ks0 hdis hz body hb k (i+1) _ o' (l[i].1.1::ks) (by exact(Nat.le_antisymm (Nl fun hn2=>fk [_,_,_] (.e (.a V0 (.s V1)) V2 (.e (.s V2) (.a (.s V0) V1) K0)) rfl (El hk) hn2) (Nl fun hn3=>fk [_,_,_] (.e V0 (.a V1 (.s V2)) (.e (.a (.a (.s V1) V2) K1) V0 K0)) rfl (Es hk) hn3))) ho' hT' ?_ ((hs.2 d (Ne.symm hne)).trans hd) fun h2 o2 hs2 ho2 hT2=>?_
   ·subst e
    rw [List.take_add_one,hp,Option.toList_some,List.map_append,List.reverse_append]
    rfl
   ·exact h h2 o2 (hs.trans hs2) ho2 hT2
noncomputable def Ku(w:World)(A:Around)(s:Shared)(prog:Program)(E:Value→Shared→Prop)(a d:Addr)(o:Obj)(ks:List Str)(l:List ((Str × Tok) × (Str × Tok)))(n:Nat)(Q:Unit→Shared→Prop):Prop :=
 ∀ (hh:A.handled=none) (ho:s.heap.get? a=some o) (hT:Er prog w o ks) (hd:s.heap.get? d=some (dictOf (Bg w.params l) n)) (hne:a≠d) (hnd:(l.map (·.1.1)).Nodup) (hdis:∀ p∈l,p.1.1∉ks) (hk1:ks.length≤1) (hl:l.length≤3) (hsys:(d == sysModules)=false) (h:∀ h' o' tk,Heap.ExtBut a s.heap h'→h'.get? a=some o'→Er prog w o' ((l.map (·.1.1)).reverse++ks)→Q () { s with heap:=h',toks:=tk }),wpAny (model prog w) A (setDisplayStar a (.ref d)) Q E s
theorem Wm:∀ {w A s prog E a d o ks l n Q},Ku w A s prog E a d o ks l n Q:=by
 refine @(Ab (Ao neW)<|@(Ed neI<|let_mvar% ?n:=(fun w A s prog E a d o ks l n Q=>?_:∀ a b c d e f g h i j k l,Ku a b c d e f g h i j k l);?n _ _ _ _ _ _ _ _ _ _ _ _))
 intro hh ho hT hd hne hnd hdis hk1 hl hsys h;have hTd:s.TypeIs (.ref d) "dict":=⟨_,hd,rfl⟩;unfold setDisplayStar;refine Wb (wpAny_isInstance hTd sub_dict_set ?_);dsimp only;rw [if_neg Bool.false_ne_true];refine Wb (wpAny_isInstance hTd Lk ?_);refine Wb (wpAny_askSetting ?_);dsimp only;have hb:(model prog w).w.params.followText "set-display-star-reads-storage"=w.params.followText "set-display-star-reads-storage":=rfl;rw [hb]
 cases hby:w.params.followText "set-display-star-reads-storage" with
 | false =>
  rw [if_neg Bool.false_ne_true];dsimp only;rw [if_neg Bool.false_ne_true];refine Wb (wpAny_typeOf hTd ?_)
  rw [if_pos (by decide)]
  refine Wb (wpAny_rule ?_)
  rw [if_neg (by rw [hsys];decide)]
  refine Wb (wpAny_dictEpoch hd rfl ?_);refine Wb (wpAny_dictEntries hd rfl ?_);obtain⟨es,ep,t,lv,hex,hdt,hel,hlv,hp,hf,hled,hpl,hcl⟩:=id hT;have hsz:es.size=ks.length:=Er.size hlv hp;refine Wb ?_;unfold setRoomFor;refine Wb (wpAny_setState_of ho hdt hf ?_);dsimp only
  rw [Wf hcl (hsz ▸ hf) hk1 (by simpa using hl)]
  refine Wp ?_;refine Wb ?_;rw [Std.Legacy.Range.forIn_eq_forIn_range']
  have hrs:([:(List.toArray (Bg w.params l)).size]:Std.Legacy.Range).size=l.length:=by simp [Std.Legacy.Range.size]
  rw [hrs]
  refine Vb (n:=n) hne hnd ks hdis (by exact(Nt fun hn1=>fk [_,_] (.e V0 K1 (.e V1 (.k 3) (.e (.k 100) (.a V0 V1) K0))) rfl hk1 hl hn1)) _ (fun i p s' R' hd' hi hb'=>?_) l.length 0 s o ks (by exact(Nat.le_antisymm (Nl fun hn2=>fk [_] (.e (.s V0) (.a K0 V0) K0) rfl hn2) (Nl fun hn3=>fk [_] (.e (.a (.a K0 V0) K1) V0 K0) rfl hn3))) ho hT rfl hd fun h' o' hs ho' hT'=>Wp (h h' o' s.toks hs.extBut ho' hT')
  refine Wb (wpAny_dictEntries hd' rfl ?_)
  have he:(List.toArray (Bg w.params l))[i]?=some ⟨PyData.keyHash w.params p.1.1,.str p.1.1 p.1.2,.str p.2.1 p.2.2⟩:=by
   rw [List.getElem?_toArray,List.getElem?_map,hi];rfl
  rw [he];dsimp only
  refine Wb (wpAny_holding (Wb (wpAny_mono hb' (fun _ s'' h''=>Wp ?_) fun _ _ z=>z)))
  refine Wb (wpAny_dictEpoch h''.1 rfl ?_)
  rw [if_neg (by simp)]
  exact Wp h''.2
 | true =>
  rw [if_pos rfl];dsimp only
  have hzz3:=KdkAt.of (Jm (prog:=prog) (w:=w) (n:=n) hnd);revert hzz3;refine exi ?_;with_reducible refine let_mvar% ?zz1:=(fun ep=>?_:Fa _);Bo neI (tie:Tie _ (type_of% ?zz1)) (?zz1 _);intro hat
  have hD:=hat.dictAt hd;refine Wb (wpAny_pyIter_dict hsys hD ?_);have hI:s.heap.objs.size≠a:=Nat.ne_of_gt (Heap.lt_size ho);have hId:s.heap.objs.size≠d:=Nat.ne_of_gt (Heap.lt_size hd)
  refine Wb (wpAny_mono (Q:=fun v s'=>∃ h' o' tk,s'={ s with heap:=h',toks:=tk }∧Heap.ExtBut a s.heap h'∧h'.get? a=some o'∧Er prog w o' ((l.map (·.1.1)).reverse++ks)) (wpAny_runValue ?_) (fun v s' hv=>?_) fun _ _ z=>z)
  rotate_left
  ·revert hv;refine Lz ?_;with_reducible refine let_mvar% ?zz2:=(fun h' o' tk=>?_:Fa3 _);Am neI (Bu:Tie _ (type_of% ?zz2)) (?zz2 _ _ _);rintro⟨rfl,h1,h2,h3⟩
   exact Wp (h h' o' tk h1 h2 h3)
  refine codeAny_loop (Code.quiet_builtin _ (by decide +kernel)) (fun k s'=>∃ h' o' tk i,s'={ s with heap:=h',toks:=tk }∧i+k=l.length∧Heap.ExtBut a s.heap h'∧h'.get? a=some o'∧Er prog w o' (((l.take i).map (·.1.1)).reverse++ks) ∧
   h'.IsKeyIter s.heap.objs.size d i (Ff l).length ep) ?_ l.length ⟨_,o,s.toks,0,rfl,by exact(Nat.le_antisymm (Nl fun hn2=>fk [_] (.e (.s V0) (.a K0 V0) K0) rfl hn2) (Nl fun hn3=>fk [_] (.e (.a (.a K0 V0) K1) V0 K0) rfl hn3)),fun b o' _ e=>Heap.get?_push_of_some _ e,Heap.get?_push_of_some _ ho,hT,⟨_,Heap.get?_push_size _ rfl,rfl,rfl⟩⟩
  with_reducible refine let_mvar% ?zz3:=(fun k s'=>?_:Fa2 _);Al ⟨(default,{})⟩ (Bn:Tie _ (type_of% ?zz3)) (?zz3 _ _);rintro⟨h',o',tk,i,rfl,hik,hx,ho',hT',hit⟩
  rw [Xc Vl,Around.under_plainId (by decide +kernel)]
  have hd':h'.get? d=some (dictOf (Bg w.params l) n):=hx d _ (Ne.symm hne) hd;have hD':=hat.dictAt hd'
  show wpAny _ _ (pyNext (.ref s.heap.objs.size) >>= _) _ _ _
  cases k with
  | zero =>
   refine Wb (wpAny_pyNext_dict_end hh hit hD' ?_ fun h2 hx2=>?_)
   ·rw [List.getElem?_eq_none];rw [List.length_map];exact(Nl fun hn1=>fk [_,_] (.e V0 (.a V1 K0) (.e (.s V1) V0 K0)) rfl (Es hik) hn1)
   ·refine Wp ⟨h2,o',tk,rfl,fun b ob hb e=>?_,hx2 _ _ (Ne.symm hI) ho',?_⟩
    ·exact hx2 b ob (Nat.ne_of_lt (Heap.lt_size e)) (hx b ob hb e)
    ·have:l.take i=l:=List.take_of_length_le (by exact(Nl fun hn1=>fk [_,_] (.e V0 (.a V1 K0) (.e (.s V1) V0 K0)) rfl (Es hik) hn1))
     rw [this] at hT';exact hT'
  | succ k =>
   have hi:i<l.length:=by exact(Nt fun hn1=>fk [_,_,_] (.e (.a V0 (.s V1)) V2 (.e V2 V0 K0)) rfl (El hik) hn1)
   have hp:l[i]?=some l[i]:=List.getElem?_eq_getElem hi
   refine Wb (wpAny_pyNext_dict_item (k:=l[i].1.1) (v:=.str l[i].2.1 l[i].2.2) hit hD' ?_ fun key h2 hkey hit2 hs2=>?_)
   ·rw [List.getElem?_map,hp];rfl
   ·obtain⟨t,rfl⟩:=Vc hkey
    dsimp only
    have hnot:l[i].1.1∉((l.take i).map (·.1.1)).reverse++ks:=by
     intro hm
     rcases List.mem_append.mp hm with hm | hm
     ·rw [List.mem_reverse] at hm
      obtain⟨q,hq,eq⟩:=List.mem_map.mp hm;obtain⟨j,hj,ej⟩:=List.mem_take_iff_getElem.mp hq
      have h1:(l.map (·.1.1))[j]'(by rw [List.length_map];exact(Nt fun hn1=>fk [_,_,_,_] (.e (.s V0) V1 (.e (.s V2) V3 (.e V3 V0 (.e V1 V2 K0)))) rfl hi hj (Nat.min_le_left _ _) hn1))=(l.map (·.1.1))[i]'(by rw [List.length_map];exact hi):=by
       rw [List.getElem_map,List.getElem_map,ej];exact eq
      have:=(List.getElem_inj hnd).mp h1;exact fk [_,_,_] (.e (.s V0) V1 (.e V2 V0 (.e V1 V2 K0))) rfl hj (Es this) (Nat.min_le_left _ _)
     ·exact hdis _ (List.getElem_mem hi) hm
    refine Wb (wpAny_holding (Pl (s:={ s with heap:=h2,toks:=tk }) (hs2.extBut _ _ (Ne.symm hI) ho') hT' hnot (by simp only [List.length_append,List.length_reverse,List.length_map,List.length_take];exact(Nt fun hn1=>fk [_,_,_] (.e V0 K1 (.e V1 (.k 3) (.e V2 V1 (.e (.k 100) (.a V2 V0) K0)))) rfl hk1 hl (Nat.min_le_right _ _) hn1)) fun h3 o3 tk3 hs3 ho3 hT3=>?_))
    refine Wp ⟨rfl,k,Nat.lt_succ_self _,h3,o3,tk3,i+1,rfl,by exact(Nat.le_antisymm (Nl fun hn2=>fk [_,_,_] (.e (.a V0 (.s V1)) V2 (.e (.s V2) (.a (.s V0) V1) K0)) rfl (El hik) hn2) (Nl fun hn3=>fk [_,_,_] (.e V0 (.a V1 (.s V2)) (.e (.a (.a (.s V1) V2) K1) V0 K0)) rfl (Es hik) hn3)),fun b ob hb e=>?_,ho3,?_,?_⟩
    ·exact hs3.extBut b ob hb (hs2.extBut b ob (Nat.ne_of_lt (Heap.lt_size e)) (hx b ob hb e))
    ·rw [List.take_add_one,hp,Option.toList_some,List.map_append,List.reverse_append];exact hT3
    ·obtain⟨oi,hoi,r⟩:=hit2
     exact⟨oi,hs3.extBut _ _ hI hoi,r⟩
theorem Ya{Q:Value→Shared→Prop}(h:∀ o,Er prog w o []→Q (.ref s.heap.objs.size) { s with heap:=s.heap.push o }):wpAny (model prog w) A (newSet (.type "set")) Q E s:=by
 unfold newSet setsByText;refine Wb (Wb (wpAny_askSetting (Wp ?_)));dsimp only
 simp only [newObj]
 exact Wb (wpAny_alloc (Wp (h _ (Yx _ rfl))))
theorem Dh{h h':Heap}{a:Addr}(F:Fr h₀ L h m)(hx:Heap.ExtBut a h h')(hL:L≠a)(ha:h₀.get? a=none):Fr h₀ L h' m:=by
 obtain⟨o,es,ep,e,r⟩:=F.ns
 exact⟨⟨o,es,ep,hx _ _ hL e,r⟩,fun b o e=>hx b o (fun q=>by rw [q,ha] at e;cases e) (F.keep b o e),F.above⟩
noncomputable def Nd(w:World)(A:Around)(s:Shared)(prog:Program)(E:Value→Shared→Prop)(h₀:Heap)(L:Addr)(m:Str→Option Value)(news:List (Addr × Obj))(K:Frag)(env:Env)(e1 e2:PySem.Expr)(pos ps:Pos)(d:Addr)(n:Nat)(tag:Str)(tt:Tok)(l:List ((Str × Tok) × (Str × Tok)))(Q:Value→Shared→Prop):Prop :=
 ∀ (hh:A.handled=none) (F:Fr h₀ L s.heap m) (N:News h₀ L s.heap news) (X:K.In h₀) (hc:kdsCode K env.code=true) (he1:∀ (s':Shared) (Q':Value→Shared→Prop),Fr h₀ L s'.heap m→Q' (.str tag tt) s'→wpAny (model prog w) A (eval e1 env) Q' E s') (he2:∀ (s':Shared) (Q':Value→Shared→Prop),Fr h₀ L s'.heap m→Q' (.ref d) s'→wpAny (model prog w) A (eval e2 env) Q' E s') (hd:s.heap.get? d=some (dictOf (Bg w.params l) n)) (hnd:(l.map (·.1.1)).Nodup) (hdis:∀ p∈l,p.1.1≠tag) (hl:l.length≤3) (hsys:(d == sysModules)=false) (h:∀ (D:Addr) o h' tk,Fr h₀ L h' m→News h₀ L h' ((D,o)::news)→(∀ p∈news,p.1<D)→Er prog w o ((l.map (·.1.1)).reverse++[tag])→Q (.ref D) { s with heap:=h',toks:=tk }) (hs1:starEach [e1,.Starred e2 ps] env=[(false,eval e1 env),(true,eval e2 env)]),wpAny (model prog w) A (eval (.Set [e1,.Starred e2 ps] 0 pos) env) Q E s
theorem Qg:∀ a b c d e f g h i j k l m n o p q r s t u,Nd a b c d e f g h i j k l m n o p q r s t u:=by
 refine Ab (Ao neW)<|Ab neI<|Et neI<|let_mvar% ?n:=(fun w A s prog E h₀ L m news K env e1 e2 pos ps d n tag tt l Q=>?_:∀ a b c d e f g h i j k l m n o p q r s t u,Nd a b c d e f g h i j k l m n o p q r s t u);?n _ _ _ _ _ _ _ _ _ _ _ _ _ _ _ _ _ _ _ _ _
 intro hh F N X hc he1 he2 hd hnd hdis hl hsys h hs1;rw [arm_eval_Set];refine Wb (wpAny_standAt ?_)
 refine Wb (kds_main (X.keeps F.keep) hc fun b=>?_)
 rw [hs1];unfold setDisplay;dsimp only;have hrd:displayRoad 0 [e1,.Starred e2 ps]=.oneByOne:=rfl
 rw [hrd,if_neg (by decide)]
 refine Wb (Ya fun o hT=>?_)
 dsimp only
 have hD0:(s.heap.push o).get? s.heap.objs.size=some o:=Heap.get?_push_size _ (by obtain⟨es,ep,t,l0,he,hd0,_⟩:=hT;cases o;simp only at hd0;subst hd0;rfl)
 have F1:=F.push (o:=o);refine Wb (wpAny_holding ?_)
 show wpAny _ _ (evalAll [do let v ← eval e1 env;standAt pos;pure v] >>= _) _ _ _
 unfold evalAll;refine Wb (Wb (Wb (he1 _ _ F1 (Wb (wpAny_standAt (Wp ?_))))));refine Wb (wpAny_holding (Wp (Wp ?_)));refine Wb (wpAny_holding ?_);rw [List.forIn_cons]
 refine Wb (Wb (Wb (Pl (s:={ s with heap:=s.heap.push o }) hD0 hT (fun z=>nomatch z) (by decide) fun h1 o1 tk1 hs1' ho1 hT1=>?_)))
 refine Wp ?_;dsimp only;rw [List.forIn_nil];refine Wp ?_
 rw [if_neg (by decide)]
 refine Wp ?_
 show wpAny _ _ (forIn [(true,(do let v ← eval e2 env;standAt pos;pure v:Sem Value))] PUnit.unit _ >>= _) _ _ _
 rw [List.forIn_cons];have hLD:L≠s.heap.objs.size:=Nat.ne_of_lt F.ns.lt;have hD₀:h₀.get? s.heap.objs.size=none:=Heap.get?_none_of_le (Nat.le_trans F.above (Nat.le_of_lt F.ns.lt));have F2:=Dh F1 hs1'.extBut hLD hD₀;have hdD:d≠s.heap.objs.size:=Nat.ne_of_lt (Heap.lt_size hd);have hd1:h1.get? d=some (dictOf (Bg w.params l) n):=hs1'.extBut _ _ hdD (Heap.get?_push_of_some _ hd);refine Wb (Wb (Wb (Wb (he2 _ _ F2 (Wb (wpAny_standAt (Wp ?_)))))));dsimp only;rw [if_pos rfl]
 refine Wb (wpAny_holding (Wm (s:={ s with heap:=h1,toks:=tk1 }) hh ho1 hT1 hd1 (Ne.symm hdD) hnd (fun p hp z=>hdis p hp (List.mem_singleton.mp z)) (Nat.le_refl _) hl hsys fun h2 o2 tk2 hx2 ho2 hT2=>?_))
 refine Wp ?_;dsimp only;rw [List.forIn_nil];refine Wp (Wp (Wp ?_))
 refine h _ o2 h2 tk2 (Dh F2 hx2 hLD hD₀) (fun p hp=>?_) (fun p hp=>Heap.lt_size (N p hp).1) hT2
 rcases List.mem_cons.mp hp with rfl | hp
 ·exact⟨ho2,Ne.symm hLD,hD₀⟩
 ·have hlt:=Nat.ne_of_lt (Heap.lt_size (N p hp).1)
  exact⟨hx2 _ _ hlt (hs1'.extBut _ _ hlt (Heap.get?_push_of_some _ (N p hp).1)),(N p hp).2⟩
theorem Yl{K:Frag}{env:Env}{e1 e2:PySem.Expr}{pos ps:Pos}{d:Addr}{n:Nat}{tag:Str}{tt:Tok}{l:List ((Str × Tok) × (Str × Tok))}{Q:Value→Shared→Prop}(hh:A.handled=none)(F:Fr h₀ L s.heap m)(N:News h₀ L s.heap news)(X:K.In h₀)(hc:kdsCode K env.code=true)
  (he1:∀ (s':Shared) (Q':Value→Shared→Prop),Fr h₀ L s'.heap m→Q' (.str tag tt) s'→wpAny (model prog w) A (eval e1 env) Q' E s')
  (he2:∀ (s':Shared) (Q':Value→Shared→Prop),Fr h₀ L s'.heap m→Q' (.ref d) s'→wpAny (model prog w) A (eval e2 env) Q' E s')
  (hd:s.heap.get? d=some (dictOf (Bg w.params l) n)) (hnd:(l.map (·.1.1)).Nodup) (hdis:∀ p∈l,p.1.1≠tag) (hl:l.length≤3) (hsys:(d == sysModules)=false)
  (h:∀ (D:Addr) o h' tk,Fr h₀ L h' m→News h₀ L h' ((D,o)::news)→(∀ p∈news,p.1<D)→Er prog w o ((l.map (·.1.1)).reverse++[tag])→Q (.ref D) { s with heap:=h',toks:=tk })
  (hs1:starEach [e1,.Starred e2 ps] env=[(false,eval e1 env),(true,eval e2 env)]:=by rfl) :
  wpAny (model prog w) A (eval (.Set [e1,.Starred e2 ps] 0 pos) env) Q E s:=Qg w A s prog E h₀ L m news K env e1 e2 pos ps d n tag tt l Q hh F N X hc he1 he2 hd hnd hdis hl hsys h hs1
end
end Mine
namespace Mine
open PySem.Calls
theorem Hz{α:Type}:∀ {l:List α} {i:Nat} (h:i<l.length),(l[i]::l.eraseIdx i).Perm l
 | [],_,h=>absurd h (Nat.not_lt_zero _)
 | x::l,0,_=>.rfl
 | x::l,i+1,h=>by
  have hi:i<l.length:=by simpa using h
  show (l[i]::x::l.eraseIdx i).Perm (x::l)
  exact(List.Perm.swap ..).trans ((Hz hi).cons x)
theorem Uv{α:Type}(next:Nat→Nat):∀ (f k:Nat) (left:List α) (out:Array α),left.length=f→(pickOrder.go next f k left out).toList.Perm (out.toList++left)
 | 0,k,left,out,h=>by
  unfold pickOrder.go;rw [List.eq_nil_of_length_eq_zero h,List.append_nil]
 | f+1,k,left,out,h=>by
  unfold pickOrder.go
  have hlt:next k % left.length<left.length:=Nat.mod_lt _ (by exact(Nt fun hn1=>fk [_,_] (.e (.s V0) V1 (.e V1 K0 K0)) rfl (Es h) hn1))
  rw [List.getElem?_eq_getElem hlt];dsimp only
  refine(Uv next f (k+1) _ _ (by rw [List.length_eraseIdx_of_lt hlt];exact(Nat.le_antisymm (Nl fun hn2=>fk [_,_,_] (.e V0 (.s V1) (.e (.s V1) V2 (.e (.s V2) V0 K0))) rfl (El h) hn2 (Nat.le_of_eq (Nat.sub_add_cancel (Nl fun hn3=>fk [_,_] (.e (.s V0) V1 (.e (.s V1) K1 K0)) rfl hlt hn3)))) (Nl fun hn4=>fk [_,_,_] (.e (.s V0) V1 (.e (.s V2) V0 (.e V1 (.s V2) K0))) rfl (Es h) hn4 Ln.sba)))).trans ?_
  rw [Array.toList_push,List.append_assoc];refine List.Perm.append_left _ ?_;exact Hz hlt
theorem Wd{α:Type}(next:Nat→Nat)(xs:Array α):(pickOrder next xs).toList.Perm xs.toList:=by
 have:=Uv next xs.size 0 xs.toList #[] (by simp)
 simpa [pickOrder] using this
section
variable{prog:Program}{w:World}{A:Around}{E:Value→Shared→Prop}{s:Shared}{h₀:Heap}{L:Addr}{m:Str→Option Value}{news:List (Addr × Obj)}
theorem To{M:Model}{src:Source}{n:Nat}{Q:Nat→Shared→Prop}(hn:n≠0)(h:∀ i,i<n→Q i { s with drawn:=s.drawn.bump src }):wpAny M A (choose src n) Q E s :=
 fun Γ p _=>by
  have:Q (M.w.draws src (s.drawn.get src) % n) { s with drawn:=s.drawn.bump src }:=h _ (Nat.mod_lt _ (Nat.pos_of_ne_zero hn));exact⟨hn,this⟩
theorem On{M:Model}{α:Type}:∀ (n:Nat) (xs:List α) (s:Shared) (Q:List α→Shared→Prop),xs.length=n→(∀ ys d,ys.Perm xs→Q ys { s with drawn:=d })→wpAny M A (drawOrder n xs) Q E s
 | 0,xs,s,Q,hl,h=>by
  rw [List.eq_nil_of_length_eq_zero hl] at h ⊢;unfold drawOrder;exact Wp (h [] s.drawn .rfl)
 | n+1,[],_,_,hl,_=>by simp at hl
 | n+1,x::xs,s,Q,hl,h=>by
  unfold drawOrder
  refine Wb (To (by simp) fun i hi=>?_)
  rw [List.getElem?_eq_getElem hi];dsimp only
  refine Wb (On n _ _ _ (by rw [List.length_eraseIdx_of_lt hi];simp at hl ⊢;exact(Nat.le_antisymm (El hl) (Es hl))) fun ys d hp=>Wp ?_)
  exact h _ d ((hp.cons _).trans (Hz hi))
theorem Ci:Slot "set_iterator" "__next__" "set_iterator.__next__" :=
 .of (owner:="set_iterator") (n:="__next__") (by rw [typeLookup_type,builtinLookup_eq_fast];kernel_rfl) (by decide +kernel) (by decide +kernel) (by decide +kernel)
  (by first | exact .inl (by decide +kernel) | exact .inr (by decide +kernel)) (by rw [isSubtype_type];kernel_rfl)
theorem Hn:entryFor table "set_iterator.__next__"=some Builtin.«set_iterator.__next__»:=entryFor_of_tree (by kernel_rfl)
theorem Ik(a:Value):argsOk "set_iterator.__next__" ⟨[a],[]⟩:=by unfold argsOk;kernel_rfl
theorem Oc:entryFor table "set.__iter__"=some Builtin.«frozenset.__iter__» :=
 entryFor_alias (id':="frozenset.__iter__") (by kernel_rfl) rfl (by decide +kernel) (by kernel_rfl)
theorem Pq(a:Value):argsOk "set.__iter__" ⟨[a],[]⟩:=by unfold argsOk;kernel_rfl
theorem Sr(a:Addr):setDrawn a=(do let (es,_,t) ← setState a;let byText ← setsByText;return !byText && (!t.plain && decide (es.size > 1))):=rfl
theorem Nc(a:Addr):setWalk a=(do
 let (es,epoch,t) ← setState a
 if ← setsByText then return pickOrder ((← ask).params.setOrder a epoch) es
 if (!t.plain && decide (es.size > 1)) then return (← drawOrder es.size es.toList).toArray
 let _ ← (if !t.led && decide (es.size > 1) then unsupported "set:maker-not-led" else pure ():Sem Unit)
 return es):=rfl
theorem Gc(a:Addr)(slot given epochThen:Nat):setNext a slot given epochThen=(do
 let (es,epoch,t) ← setState a
 if ← setsByText then
  if epoch != epochThen then unsupported "set_iterator.__next__:elements-changed"
  return ((← setWalk a)[given]?).map fun e=>(e.2,slot)
 if (!t.plain && decide (es.size > 1)) then unsupported "set_iterator.__next__:the-table-is-plain-no-more"
 let _ ← (if !t.led && !es.isEmpty then unsupported "set:maker-not-led" else pure ():Sem Unit)
 let i:=SetTable.below t.place slot
 return match es[i]?,t.place[i]? with
  | some (_,x),some j=>some (x,j+1)
  | _,_=>none):=rfl
noncomputable abbrev Nf(f:Value)(i:Nat)(a:Addr)(n ep:Nat):Obj:={ cls:=.type "set_iterator",data:=.fields #[f,.int i 0,.ref a,.int n 0,.int ep 0] }
noncomputable def SIt(w:World)(h:Heap)(it a:Addr)(vs:List Value)(i:Nat):Prop :=
 ∃ o es ep t,h.get? a=some o∧o.data=.set es ep t∧t.fits es.size=true∧it≠a ∧
  ((w.params.followText "set-order"=true∧vs=(pickOrder (w.params.setOrder a ep) es).toList.map (·.2)∧h.get? it=some (Nf (.int 0 0) i a es.size ep)) ∨
  (∃ (tp:Addr) (pl:List Nat),tp≠it∧(∀ p∈pl,p<es.size)∧vs=pl.map (fun p=>(es.getD p (0,.none)).2)∧h.get? tp=some { cls:=.type "tuple",data:=.seq (pl.map fun(i:Nat)=>.int i 0).toArray }∧h.get? it=some (Nf (.ref tp) i a es.size ep)) ∨
  (w.params.followText "set-order"=false∧t.led=true∧∃ e j,es=#[e]∧t.place=#[j]∧vs=[e.2]∧((i=0∧h.get? it=some (Nf (.int 0 0) 0 a es.size ep))∨(i=1∧h.get? it=some (Nf (.int ((j+1:Nat):Int) 0) 1 a es.size ep)))))
theorem SIt.type{it a:Addr}{vs:List Value}{i:Nat}(h:SIt w s.heap it a vs i):s.TypeIs (.ref it) "set_iterator":=by
 obtain⟨o,es,ep,t,_,_,_,_,⟨_,_,h⟩ | ⟨_,_,_,_,_,_,h⟩ | ⟨_,_,_,_,_,_,_,⟨_,h⟩ | ⟨_,h⟩⟩⟩:=h<;>exact⟨_,h,rfl⟩
theorem Ce{b:Bool}{Q:Bool→Shared→Prop}(hb:w.params.followText "set-order"=b)(h:Q b s):wpAny (model prog w) A setsByText Q E s:=by
 unfold setsByText;subst hb;exact Wb (wpAny_askSetting (Wp h))
theorem Ti(j:Nat):SetTable.below #[j] 0=0:=by
 simp [SetTable.below,SetTable.below.go]
theorem Tj(j:Nat):SetTable.below #[j] (j+1)=1:=by
 simp [SetTable.below,SetTable.below.go]
noncomputable def Ng(w:World)(A:Around)(s:Shared)(prog:Program)(E:Value→Shared→Prop)(it a:Addr)(vs:List Value)(i:Nat)(x:Value)(Q:Option Value→Shared→Prop):Prop :=
 ∀ (hit:SIt w s.heap it a vs i) (hx:vs[i]?=some x) (hQ:∀ h',SIt w h' it a vs (i+1)→Heap.SameBut it s.heap h'→Q (some x) { s with heap:=h' }),wpAny (model prog w) A (pyNext (.ref it)) Q E s
theorem Yq:∀ {w A s prog E it a vs i x Q},Ng w A s prog E it a vs i x Q:=by
 refine @(Ab (Ao neW)<|@(Ec neI<|let_mvar% ?n:=(fun w A s prog E it a vs i x Q=>?_:∀ a b c d e f g h i j k,Ng a b c d e f g h i j k);?n _ _ _ _ _ _ _ _ _ _ _))
 intro hit hx hQ;have hT:=hit.type;unfold pyNext;refine Wb (wpAny_attempt (wpAny_callSpecial?_slot (name:="__next__") hT Ci (wpAny_call_entry Ci hT Hn ?_ (Ik _))));unfold Builtin.«set_iterator.__next__»;refine Wb (wpAny_of_eq (a:=(.ref it,[])) rfl ?_)
 obtain⟨o,es,ep,t,ho,hd,hf,hne,⟨hby,hvs,hi⟩ | ⟨tp,pl,hnp,hpl,hvs,htp,hi⟩ | ⟨hby,hled,e,j,hes,hpl,hvs,⟨hi0,hi⟩ | ⟨hi0,hi⟩⟩⟩:=hit
 ·refine Wb (wpAny_fieldsOf hi rfl ?_)
  dsimp only;refine Wb (wpAny_setEntries_of ho hd hf ?_)
  rw [if_neg (by simp)]
  try dsimp only
  rw [Gc];refine Wb (Wb (wpAny_setState_of ho hd hf ?_));dsimp only;refine Wb (Ce hby ?_)
  rw [if_pos rfl,if_neg (by simp)]
  rw [Nc];refine Wb (Wb (wpAny_setState_of ho hd hf ?_));dsimp only;refine Wb (Ce hby ?_);rw [if_pos rfl];refine Wb (wpAny_askSetting (Wp (Wp ?_)))
  have hw:((pickOrder ((model prog w).w.params.setOrder a ep) es)[((i:Nat):Int).toNat]?).map (fun e=>(e.2,((0:Int).toNat)))=some (x,0):=by
   have h1:(pickOrder (w.params.setOrder a ep) es).toList[i]?=((pickOrder ((model prog w).w.params.setOrder a ep) es)[((i:Nat):Int).toNat]?):=by
    rw [Int.toNat_natCast,Array.getElem?_toList];rfl
   rw [hvs,List.getElem?_map] at hx;rw [← h1]
   cases hq:(pickOrder (w.params.setOrder a ep) es).toList[i]? with
   | none=>rw [hq] at hx;cases hx
   | some e=>rw [hq] at hx;simp only [Option.map_some,Option.some.injEq] at hx ⊢;rw [hx];rfl
  rw [hw];dsimp only
  refine Wb (wpAny_setField_rec hi (by simp) fun h1 he1 hs1=>?_)
  refine Wb (wpAny_setField_rec (s:={ s with heap:=h1 }) he1 (by simp) fun h2 he2 hs2=>?_)
  refine Wp ⟨_,rfl,Wp (hQ h2 ⟨o,es,ep,t,?_,hd,hf,hne,.inl ⟨hby,hvs,?_⟩⟩ (hs1.trans hs2))⟩
  ·exact(hs2.2 _ (Ne.symm hne)).trans ((hs1.2 _ (Ne.symm hne)).trans ho)
  ·rw [he2];simp [rawInt]
 ·refine Wb (wpAny_fieldsOf hi rfl ?_)
  dsimp only;refine Wb (wpAny_setEntries_of ho hd hf ?_)
  rw [if_neg (by simp)]
  try dsimp only
  refine Wb (wpAny_seqItems htp rfl ?_);dsimp only
  have hp:∃ p,pl[i]?=some p∧(es.getD p (0,.none)).2=x:=by
   rw [hvs,List.getElem?_map] at hx
   cases hq:pl[i]? with
   | none=>rw [hq] at hx;cases hx
   | some p=>rw [hq] at hx;simp only [Option.map_some,Option.some.injEq] at hx;exact⟨p,rfl,hx⟩
  obtain⟨p,hp1,hp2⟩:=hp;have hlt:p<es.size:=hpl p (List.mem_of_getElem? hp1)
  have hpi:((pl.map fun(i:Nat)=>Value.int i 0).toArray)[((i:Nat):Int).toNat]?=some (.int p 0):=by
   rw [Int.toNat_natCast,List.getElem?_toArray,List.getElem?_map,hp1];rfl
  rw [hpi];dsimp only;unfold setNextDrawn;refine Wb (Wb (wpAny_setState_of ho hd hf ?_));dsimp only
  rw [if_neg (by simp)]
  have hes:es[((p:Nat):Int).toNat]?=some (es.getD p (0,.none)):=by
   rw [Int.toNat_natCast];simp [Array.getD,hlt]
  rw [hes];dsimp only;rw [hp2];refine Wp ?_
  refine Wb (wpAny_setField_rec hi (by simp) fun h1 he1 hs1=>?_)
  refine Wp ⟨_,rfl,Wp (hQ h1 ⟨o,es,ep,t,?_,hd,hf,hne,.inr (.inl ⟨tp,pl,hnp,hpl,hvs,?_,?_⟩)⟩ hs1)⟩
  ·exact(hs1.2 _ (Ne.symm hne)).trans ho
  ·exact(hs1.2 _ hnp).trans htp
  ·rw [he1];simp [rawInt]
 ·subst hi0
  refine Wb (wpAny_fieldsOf hi rfl ?_);dsimp only;refine Wb (wpAny_setEntries_of ho hd hf ?_)
  rw [if_neg (by simp)]
  try dsimp only
  rw [Gc];refine Wb (Wb (wpAny_setState_of ho hd hf ?_));dsimp only;refine Wb (Ce hby ?_);rw [if_neg Bool.false_ne_true];rw [hes,hled,hpl]
  rw [if_neg (by simp)]
  refine Wb (Wp ?_);rw [show ((0:Int).toNat)=0 from rfl,Ti];refine Wp ?_
  simp only [List.getElem?_toArray,List.getElem?_cons_zero]
  rw [hvs] at hx
  simp only [List.getElem?_cons_zero,Option.some.injEq] at hx
  rw [hx]
  refine Wb (wpAny_setField_rec hi (by simp) fun h1 he1 hs1=>?_)
  refine Wb (wpAny_setField_rec (s:={ s with heap:=h1 }) he1 (by simp) fun h2 he2 hs2=>?_)
  refine Wp ⟨_,rfl,Wp (hQ h2 ⟨o,es,ep,t,?_,hd,hf,hne,.inr (.inr ⟨hby,hled,e,j,hes,hpl,hvs,.inr ⟨rfl,?_⟩⟩)⟩ (hs1.trans hs2))⟩
  ·exact(hs2.2 _ (Ne.symm hne)).trans ((hs1.2 _ (Ne.symm hne)).trans ho)
  ·rw [he2];simp [rawInt]
 ·subst hi0
  rw [hvs] at hx
  cases hx
noncomputable def Kv(w:World)(A:Around)(s1:Shared)(prog:Program)(E:Value→Shared→Prop)(it:Addr)(Q:Option Value→Shared→Prop):Prop :=
 ∀ (hh:A.handled=none) (hQ:∀ h',(∀ b o,s1.heap.get? b=some o→h'.get? b=some o)→Q none { s1 with heap:=h' }),wpAny (model prog w) A.in1 (newExc (.type "StopIteration") [] >>= fun e=>raiseNew e)
   (fun fin s'=>∃ v,fin=PySem.Fin.done (.ret v)∧wpAny (model prog w) A (pure (some v)) Q E s') (fun e s'=>wpAny (model prog w) A (do if ← isInstance e (.type "StopIteration") then pure none else throw e) Q E s') s1
theorem Ka:∀ {w A s1 prog E it Q},Kv w A s1 prog E it Q:=by
 refine @(Eu (Ao neW)<|let_mvar% ?n:=(fun w A s1 prog E it Q=>?_:∀ a b c d e f g,Kv a b c d e f g);?n _ _ _ _ _ _ _)
 intro hh hQ;refine Wb ?_
 simp only [newExc,newTuple]
 refine Wb (wpAny_newObj_type ?_ (by size_fits))
 refine Wb (m:=firstArgMember _ _) (wpAny_of_eq (a:=.none) (by first | rfl | (simp only [firstArgMember];rfl)) ?_)
 refine wpAny_newObj_type ?_ (by size_fits)
 unfold raiseNew;(try dsimp only);refine Wb (wpAny_handled ?_);rw [show A.in1.handled=none from hh];refine Wb (Wp (wpAny_throw ?_));refine Wb (wpAny_isInstance (T:="StopIteration") (b:=true) ⟨_,Heap.get?_push_size _ rfl,rfl⟩ isSubtype_stop ?_)
 exact Wp (hQ _ fun b o e=>Heap.get?_push_of_some _ (Heap.get?_push_of_some _ e))
noncomputable def Pe(w:World)(A:Around)(s:Shared)(prog:Program)(E:Value→Shared→Prop)(it a:Addr)(vs:List Value)(i:Nat)(Q:Option Value→Shared→Prop):Prop :=
 ∀ (hh:A.handled=none) (hit:SIt w s.heap it a vs i) (hx:vs[i]?=none) (hQ:∀ h',Heap.ExtBut it s.heap h'→Q none { s with heap:=h' }),wpAny (model prog w) A (pyNext (.ref it)) Q E s
theorem sit_end:∀ {w A s prog E it a vs i Q},Pe w A s prog E it a vs i Q:=by
 refine @(Ab (Ao neW)<|@(Gm neI<|let_mvar% ?n:=(fun w A s prog E it a vs i Q=>?_:∀ a b c d e f g h i j,Pe a b c d e f g h i j);?n _ _ _ _ _ _ _ _ _ _))
 intro hh hit hx hQ;have hT:=hit.type;unfold pyNext;refine Wb (wpAny_attempt (wpAny_callSpecial?_slot (name:="__next__") hT Ci (wpAny_call_entry Ci hT Hn ?_ (Ik _))));unfold Builtin.«set_iterator.__next__»;refine Wb (wpAny_of_eq (a:=(.ref it,[])) rfl ?_)
 obtain⟨o,es,ep,t,ho,hd,hf,hne,⟨hby,hvs,hi⟩ | ⟨tp,pl,hnp,hpl,hvs,htp,hi⟩ | ⟨hby,hled,e,j,hes,hpl,hvs,⟨hi0,hi⟩ | ⟨hi0,hi⟩⟩⟩:=hit
 ·refine Wb (wpAny_fieldsOf hi rfl ?_)
  dsimp only;refine Wb (wpAny_setEntries_of ho hd hf ?_)
  rw [if_neg (by simp)]
  try dsimp only
  rw [Gc];refine Wb (Wb (wpAny_setState_of ho hd hf ?_));dsimp only;refine Wb (Ce hby ?_)
  rw [if_pos rfl,if_neg (by simp)]
  rw [Nc];refine Wb (Wb (wpAny_setState_of ho hd hf ?_));dsimp only;refine Wb (Ce hby ?_);rw [if_pos rfl];refine Wb (wpAny_askSetting (Wp (Wp ?_)))
  have hw:(pickOrder ((model prog w).w.params.setOrder a ep) es)[((i:Nat):Int).toNat]?=none:=by
   have h1:(pickOrder (w.params.setOrder a ep) es).toList[i]?=((pickOrder ((model prog w).w.params.setOrder a ep) es)[((i:Nat):Int).toNat]?):=by
    rw [Int.toNat_natCast,Array.getElem?_toList];rfl
   rw [hvs,List.getElem?_map,Option.map_eq_none_iff] at hx;rw [← h1];exact hx
  rw [hw]
  simp only [Option.map_none]
  refine Wb (wpAny_setField_rec hi (by simp) fun h1 he1 hs1=>?_)
  exact Ka (it:=it) (s1:={ s with heap:=h1 }) hh fun h2 hk=>hQ h2 fun b o hb e=>hk b o (hs1.extBut b o hb e)
 ·refine Wb (wpAny_fieldsOf hi rfl ?_)
  dsimp only;refine Wb (wpAny_setEntries_of ho hd hf ?_)
  rw [if_neg (by simp)]
  try dsimp only
  refine Wb (wpAny_seqItems htp rfl ?_);dsimp only
  have hpi:((pl.map fun(i:Nat)=>Value.int i 0).toArray)[((i:Nat):Int).toNat]?=none:=by
   rw [hvs,List.getElem?_map,Option.map_eq_none_iff] at hx;rw [Int.toNat_natCast,List.getElem?_toArray,List.getElem?_map,hx];rfl
  rw [hpi];dsimp only
  refine Wb (wpAny_setField_rec hi (by simp) fun h1 he1 hs1=>?_)
  refine Wb (wpAny_setField_rec (s:={ s with heap:=h1 }) he1 (by simp) fun h2 he2 hs2=>?_)
  exact Ka (it:=it) (s1:={ s with heap:=h2 }) hh fun h3 hk=>hQ h3 fun b o hb e=>hk b o (hs2.extBut b o hb (hs1.extBut b o hb e))
 ·subst hi0
  rw [hvs] at hx
  cases hx
 ·subst hi0
  refine Wb (wpAny_fieldsOf hi rfl ?_);dsimp only;refine Wb (wpAny_setEntries_of ho hd hf ?_)
  rw [if_neg (by simp)]
  try dsimp only
  rw [Gc];refine Wb (Wb (wpAny_setState_of ho hd hf ?_));dsimp only;refine Wb (Ce hby ?_);rw [if_neg Bool.false_ne_true];rw [hes,hled,hpl]
  rw [if_neg (by simp)]
  refine Wb (Wp ?_);rw [Int.toNat_natCast,Tj];refine Wp ?_
  simp only [List.getElem?_toArray,List.getElem?_cons_succ,List.getElem?_nil]
  refine Wb (wpAny_setField_rec hi (by simp) fun h1 he1 hs1=>?_)
  exact Ka (it:=it) (s1:={ s with heap:=h1 }) hh fun h2 hk=>hQ h2 fun b o hb e=>hk b o (hs1.extBut b o hb e)
end
end Mine
namespace Mine
open PySem.Calls
section
variable{prog:Program}{w:World}{A:Around}{E:Value→Shared→Prop}{s:Shared}{h₀:Heap}{L:Addr}{m:Str→Option Value}{news:List (Addr × Obj)}
theorem Tv{α:Type}(xs:Array α)(d:α):(List.range xs.size).map (fun i=>xs.getD i d)=xs.toList:=by
 refine List.ext_getElem (by simp) fun i h1 h2=>?_
 have:i<xs.size:=by simpa using h1
 simp [Array.getD,this]
noncomputable def Lb(w:World)(prog:Program)(o:Obj)(ks:List Str):Prop :=
 ∀ (hT:Er prog w o ks),∃ es ep t,o.data=.set es ep t∧t.fits es.size=true∧t.led=(!w.params.followText "set-order")∧(ks≠[]→t.plain=false)∧es.size=ks.length ∧
  ∀ vs:List Value,vs.Perm (es.toList.map (·.2))→∃ l,vs=strValues l∧(l.map (·.1)).Perm ks
theorem Ww:∀ {a b c d},Lb a b c d:=by
 refine @(Au neW<|@(Ec neI<|let_mvar% ?n:=(fun w prog o ks=>?_:∀ a b c d,Lb a b c d);?n _ _ _ _))
 intro hT;obtain⟨es,ep,t,l,hex,hd,hel,hl,hp,hf,hled,hpl,hcl⟩:=hT
 refine⟨es,ep,t,hd,hf,hled,hpl,Er.size hl hp,fun vs hv=>?_⟩
 rw [hl] at hv;obtain⟨l1,e1,p1⟩:=Sd hv;exact⟨l1,e1,(p1.map (·.1)).trans hp⟩
noncomputable def Mm(w:World)(A:Around)(s:Shared)(prog:Program)(E:Value→Shared→Prop)(a:Addr)(o:Obj)(ks:List Str)(Q:Value→Shared→Prop):Prop :=
 ∀ (ho:s.heap.get? a=some o) (hc:o.cls=.type "set") (hT:Er prog w o ks) (hne:ks≠[]) (hz:ks.length<60) (h:∀ (I:Addr) l h' d,(l.map (·.1)).Perm ks→SIt w h' I a (strValues l) 0→s.heap.objs.size≤I→(∀ b o,s.heap.get? b=some o→h'.get? b=some o)→h'.objs.size=I+1→Q (.ref I) { s with heap:=h',drawn:=d }),wpAny (model prog w) A (pyIter (.ref a)) Q E s
theorem Xs:∀ {w A s prog E a o ks Q},Mm w A s prog E a o ks Q:=by
 refine @(Ab (Ao neW)<|@(Au neI<|let_mvar% ?n:=(fun w A s prog E a o ks Q=>?_:∀ a b c d e f g h i,Mm a b c d e f g h i);?n _ _ _ _ _ _ _ _ _))
 intro ho hc hT hne hz h;obtain⟨es,ep,t,hd,hf,hled,hpl,hsz,hperm⟩:=Ww hT;have hTy:s.TypeIs (.ref a) "set":=⟨o,ho,hc⟩;have hlt:=Heap.lt_size ho;refine wpAny_pyIter_slot hTy F.slot_set_iter (wpAny_call_entry F.slot_set_iter hTy Oc ?_ (Pq _));unfold Builtin.«frozenset.__iter__»;refine Wb (m:=Builtin.Frozenset.slot0 _ _) (wpAny_of_eq (a:=a) rfl ?_);refine Wb (m:=Builtin.Frozenset.sizeOf _) (Wb (wpAny_setEntries_of ho hd hf (Wp ?_)));rw [Sr];refine Wb (Wb (wpAny_setState_of ho hd hf ?_));dsimp only
 cases hby:w.params.followText "set-order" with
 | true =>
  refine Wb (Ce hby (Wp ?_))
  simp only [Bool.not_true,Bool.false_and,Bool.false_eq_true,if_false]
  refine Wb (Wp ?_);refine Wb (wpAny_setEpoch_of ho hd hf ?_);refine Wb (wpAny_newObj_type (Wp ⟨_,rfl,"set_iterator",_,⟨_,Heap.get?_push_size _ rfl,rfl⟩,Ci.lookup,?_⟩));obtain⟨l,e,p⟩:=hperm _ ((Wd (w.params.setOrder a ep) es).map (·.2))
  refine h _ l _ s.drawn p ⟨o,es,ep,t,Heap.get?_push_of_some _ ho,hd,hf,Nat.ne_of_gt hlt,.inl ⟨hby,e.symm,?_⟩⟩ (Nat.le_refl _) (fun b o e=>Heap.get?_push_of_some _ e) (Heap.size_push ..)
  rw [Heap.get?_push_size _ rfl];simp [rawInt]
 | false =>
  refine Wb (Ce hby (Wp ?_));rw [hpl hne]
  simp only [Bool.not_false,Bool.true_and,decide_eq_true_eq]
  by_cases h1:es.size > 1
  ·rw [if_pos h1]
   refine Wb (On es.size (List.range es.size) _ _ List.length_range fun pl d hp=>?_)
   refine Wb (wpAny_newTuple ?_ (by rw [List.length_map,hp.length_eq,List.length_range,sizeLine_eq];exact(Nl fun hn1=>fk [_,_] (.e (.s V0) (.k 60) (.e V1 V0 (.e (.s (.k 16777216)) V1 K0))) rfl hz (El hsz) hn1)))
   refine Wb (wpAny_setEpoch_of (s:={ s with heap:=s.heap.push _,drawn:=d }) (Heap.get?_push_of_some _ ho) hd hf ?_);refine Wb (wpAny_newObj_type (Wp ⟨_,rfl,"set_iterator",_,⟨_,Heap.get?_push_size _ rfl,rfl⟩,Ci.lookup,?_⟩))
   obtain⟨l,e,p⟩:=hperm (pl.map fun p=>(es.getD p (0,.none)).2) (by
    have:=(hp.map fun p=>(es.getD p (0,.none))).map (·.2)
    rw [Tv,List.map_map] at this;exact this)
   refine h _ l _ d p ⟨o,es,ep,t,Heap.get?_push_of_some _ (Heap.get?_push_of_some _ ho),hd,hf,?_,.inr (.inl ⟨s.heap.objs.size,pl,?_,fun q hq=>?_,e.symm,?_,?_⟩)⟩ ?_ (fun b o e=>Heap.get?_push_of_some _ (Heap.get?_push_of_some _ e)) (Heap.size_push ..)
   ·show (s.heap.push _).objs.size≠a
    rw [Heap.size_push];exact Nat.ne_of_gt (Nat.lt_succ_of_lt hlt)
   ·show s.heap.objs.size≠(s.heap.push _).objs.size
    rw [Heap.size_push];exact Nat.ne_of_lt (Nat.lt_succ_self _)
   ·exact List.mem_range.mp (hp.mem_iff.mp hq)
   ·exact Heap.get?_push_of_some _ (by rw [Heap.get?_push_size _ rfl];simp [rawInt])
   ·rw [Heap.get?_push_size _ rfl];simp [rawInt]
   ·rw [Heap.size_push];exact(Nl fun hn1=>fk [_] (.e (.a (.s V0) K1) V0 K0) rfl hn1)
  ·rw [if_neg h1]
   refine Wb (Wp ?_);refine Wb (wpAny_setEpoch_of ho hd hf ?_);refine Wb (wpAny_newObj_type (Wp ⟨_,rfl,"set_iterator",_,⟨_,Heap.get?_push_size _ rfl,rfl⟩,Ci.lookup,?_⟩))
   have hes1:es.size=1:=by
    have:ks.length≠0:=fun z=>hne (List.eq_nil_of_length_eq_zero z)
    lia
   obtain⟨e,he⟩:∃ e,es=#[e]:=Array.size_eq_one_iff.mp hes1
   obtain⟨j,hj⟩:∃ j,t.place=#[j]:=by
    unfold SetTable.fits at hf
    simp only [Bool.and_eq_true,beq_iff_eq] at hf
    have h2:=hf.1;rw [hes1] at h2;exact Array.size_eq_one_iff.mp h2
   obtain⟨l,e',p⟩:=hperm [e.2] (by rw [he];exact .rfl)
   refine h _ l _ s.drawn p ⟨o,es,ep,t,Heap.get?_push_of_some _ ho,hd,hf,Nat.ne_of_gt hlt,.inr (.inr ⟨hby,by rw [hled,hby];rfl,e,j,he,hj,e'.symm,.inl ⟨rfl,?_⟩⟩)⟩ (Nat.le_refl _) (fun b o e=>Heap.get?_push_of_some _ e) (Heap.size_push ..)
   rw [Heap.get?_push_size _ rfl];simp [rawInt]
theorem SIt.but{h h':Heap}{it a c:Addr}{vs:List Value}{i:Nat}{its:Array Value}{n:Nat}(x:SIt w h it a vs i)(hc:h.get? c=some (listOf its n))(hk:Heap.ExtBut c h h'):SIt w h' it a vs i:=by
 obtain⟨o,es,ep,t,ho,hd,hf,hne,r⟩:=x
 have n1:a≠c:=fun q=>by rw [q,hc] at ho;cases ho;cases hd
 have n2:∀ {f k},h.get? it=some (Nf f k a es.size ep)→it≠c:=fun e q=>by rw [q,hc] at e;exact absurd (congrArg Obj.cls (Option.some.inj e)) (by simp)
 refine⟨o,es,ep,t,hk _ _ n1 ho,hd,hf,hne,?_⟩
 rcases r with ⟨hby,hvs,hi⟩ | ⟨tp,pl,hnp,hpl,hvs,htp,hi⟩ | ⟨hby,hled,e,j,hes,hpl,hvs,hi⟩
 ·exact .inl ⟨hby,hvs,hk _ _ (n2 hi) hi⟩
 ·refine .inr (.inl ⟨tp,pl,hnp,hpl,hvs,hk _ _ (fun q=>?_) htp,hk _ _ (n2 hi) hi⟩)
  rw [q,hc] at htp;exact absurd (congrArg Obj.cls (Option.some.inj htp)) (by simp)
 ·exact .inr (.inr ⟨hby,hled,e,j,hes,hpl,hvs,hi.imp (fun z=>⟨z.1,hk _ _ (n2 z.2) z.2⟩) fun z=>⟨z.1,hk _ _ (n2 z.2) z.2⟩⟩)
noncomputable def Mh(w:World)(A:Around)(s:Shared)(prog:Program)(E:Value→Shared→Prop)(a:Addr)(Q:Bool→Shared→Prop):Prop :=
 ∀ (hT:s.TypeIs (.ref a) "set") (h:Q false s),wpAny (model prog w) A (Builtin.List.listLengthHint (.ref a)) Q E s
theorem Xq:∀ {w A s prog E a Q},Mh w A s prog E a Q:=by
 refine @(Eu (Ao neW)<|let_mvar% ?n:=(fun w A s prog E a Q=>?_:∀ a b c d e f g,Mh a b c d e f g);?n _ _ _ _ _ _ _)
 intro hT h;unfold Builtin.List.listLengthHint;refine Wb (wpAny_specialOf hT PySem.F.slot_set_len.lookup ?_)
 generalize hid:("set.__len__":String)=id0
 wp_delta
 rw [show splitId id0=some ("set","__len__") from by subst hid;decide +kernel]
 subst hid
 refine Wb (wpAny_isInstance (T:="set") (b:=true) hT (by rw [isSubtype_type];kernel_rfl) ?_)
 refine wpAny_ite_split (fun hab=>absurd hab (by decide)) (fun _=>?_)
 refine wpAny_ite_split (fun _=>?_) (fun hab=>absurd (by decide +kernel) hab)
 refine Wb (wpAny_typeOf hT ?_);exact Wp h
noncomputable def Ma(w:World)(A:Around)(s:Shared)(prog:Program)(S I a:Addr)(vs:List Value)(R:Result→Shared→Prop)(base:Heap):Prop :=
 ∀ (hh:A.handled=none) (hz:vs.length≤60) (hR:∀ s':Shared,(∃ h' tk n,s'={ s with heap:=h',toks:=tk }∧(∀ b o,b≠S→b≠I→base.get? b=some o→h'.get? b=some o)∧h'.get? S=some (listOf vs.toArray n))→R (.ok (.ret (.ref S))) s'),∀ (k i:Nat) (h:Heap) (tk n:Nat),i+k=vs.length→SIt w h I a vs i→h.get? S=some (listOf (vs.take i).toArray n)→(∀ b o,b≠S→b≠I→base.get? b=some o→h.get? b=some o) →
  codeAny (model prog w) A (.builtin "list.extend.loop" ⟨[.ref S,.ref I,.ref S],[]⟩) R { s with heap:=h,toks:=tk }
theorem Xi:∀ {w A s prog S I a vs R base},Ma w A s prog S I a vs R base:=by
 refine @(Ab (Ao neW)<|@(Gm neI<|let_mvar% ?n:=(fun w A s prog S I a vs R base=>?_:∀ a b c d e f g h i j,Ma a b c d e f g h i j);?n _ _ _ _ _ _ _ _ _ _))
 intro hh hz hR;intro k
 induction k with
 | zero =>
  intro i h tk n hik hit hS hb;refine codeAny_builtin F.entry_extend_loop ?_;rw [Around.under_plainId F.plain_extend_loop]
  show wpAny _ _ (pyNext (.ref I) >>= _) _ _ _
  have hIS:S≠I:=fun q=>by
   obtain⟨o,es,ep,t,ho,hd,hf,hne,⟨_,_,e⟩ | ⟨_,_,_,_,_,_,e⟩ | ⟨_,_,_,_,_,_,_,⟨_,e⟩ | ⟨_,e⟩⟩⟩:=hit<;>(rw [← q,hS] at e;exact absurd (congrArg Obj.cls (Option.some.inj e)) (by simp))
  refine Wb (sit_end (A:=A.in1) hh hit (List.getElem?_eq_none (by exact(Nl fun hn1=>fk [_,_] (.e V0 (.a V1 K0) (.e (.s V1) V0 K0)) rfl (Es hik) hn1))) fun h2 hx=>?_)
  refine Wp (hR _ ⟨h2,tk,n,rfl,fun b o h1 h3 e=>hx _ _ h3 (hb b o h1 h3 e),?_⟩)
  rw [hx _ _ hIS hS,List.take_of_length_le (by exact(Nl fun hn1=>fk [_,_] (.e V0 (.a V1 K0) (.e (.s V1) V0 K0)) rfl (Es hik) hn1))]
 | succ k ih =>
  intro i h tk n hik hit hS hb;refine codeAny_builtin F.entry_extend_loop ?_;rw [Around.under_plainId F.plain_extend_loop]
  show wpAny _ _ (pyNext (.ref I) >>= _) _ _ _
  have hIS:S≠I:=fun q=>by
   obtain⟨o,es,ep,t,ho,hd,hf,hne,⟨_,_,e⟩ | ⟨_,_,_,_,_,_,e⟩ | ⟨_,_,_,_,_,_,_,⟨_,e⟩ | ⟨_,e⟩⟩⟩:=hit<;>(rw [← q,hS] at e;exact absurd (congrArg Obj.cls (Option.some.inj e)) (by simp))
  have hi:i<vs.length:=by exact(Nt fun hn1=>fk [_,_,_] (.e (.a V0 (.s V1)) V2 (.e V2 V0 K0)) rfl (El hik) hn1)
  refine Wb (Yq (A:=A.in1) hit (List.getElem?_eq_getElem hi) fun h2 hit2 hs2=>?_)
  dsimp only;have hS2:=(hs2.2 _ hIS).trans hS
  refine Wb (listUpdate_at (s:={ s with heap:=h2,toks:=tk }) hS2 rfl ?_ (by rw [List.size_toArray,sizeLine_eq];simp;exact(Nl fun hn1=>fk [_,_] (.e V0 (.k 60) (.e V1 V0 (.e (.s (.k 16777216)) V1 K0))) rfl hz (Nat.min_le_right _ _) hn1)) (by rw [Array.size_push,List.size_toArray,sizeLine_eq];simp;exact(Nl fun hn1=>fk [_,_] (.e V0 (.k 60) (.e V1 V0 (.e (.s (.k 16777216)) V1 K0))) rfl hz (Nat.min_le_right _ _) hn1)))
  refine Wp ⟨plainId_quiet F.plain_extend_loop _,?_⟩
  have e3:(h2.update S (Obj.mapSeq (·.push vs[i]))).get? S=some (listOf (vs.take (i+1)).toArray (n+1)):=by
   rw [Heap.get?_update_self _ hS2 (by rw [mapSeq_push];rfl),mapSeq_push,List.take_add_one,List.getElem?_eq_getElem hi]
   simp
  exact ih (i+1) _ tk (n+1) (by exact(Nat.le_antisymm (Nl fun hn2=>fk [_,_,_] (.e (.a V0 (.s V1)) V2 (.e (.s V2) (.a (.s V0) V1) K0)) rfl (El hik) hn2) (Nl fun hn3=>fk [_,_,_] (.e V0 (.a V1 (.s V2)) (.e (.a (.a (.s V1) V2) K1) V0 K0)) rfl (Es hik) hn3))) (hit2.but hS2 (Heap.SameBut.update ..).extBut) e3 fun b o h1 h3 e=>(Heap.SameBut.update ..).extBut _ _ h1 (hs2.extBut _ _ h3 (hb b o h1 h3 e))
noncomputable def Hm(w:World)(A:Around)(s:Shared)(prog:Program)(E:Value→Shared→Prop)(a:Addr)(o:Obj)(ks:List Str)(Q:List Value→Shared→Prop):Prop :=
 ∀ (hh:A.handled=none) (ho:s.heap.get? a=some o) (hc:o.cls=.type "set") (hT:Er prog w o ks) (hne:ks≠[]) (hz:ks.length<60) (h:∀ l h' d tk,(l.map (·.1)).Perm ks→(∀ b o,s.heap.get? b=some o→h'.get? b=some o)→Q (strValues l) { s with heap:=h',drawn:=d,toks:=tk }),wpAny (model prog w) A (collect (.ref a)) Q E s
theorem Qx:∀ {w A s prog E a o ks Q},Hm w A s prog E a o ks Q:=by
 refine @(Ab (Ao neW)<|@(Au neI<|let_mvar% ?n:=(fun w A s prog E a o ks Q=>?_:∀ a b c d e f g h i,Hm a b c d e f g h i);?n _ _ _ _ _ _ _ _ _))
 intro hh ho hc hT hne hz h;have hlt:=Heap.lt_size ho;unfold collect;refine Wb (wpAny_runValue (codeAny_builtin entry_proto_collect' ?_))
 show wpAny _ _ (do again (.builtin "list.__iadd__" ⟨[← newList [],.ref a],[]⟩)) _ _ s
 refine Wb (wpAny_newList (Wp ⟨Code.quiet_builtin _ (by decide +kernel),codeAny_builtin entry_list_iadd' ?_⟩))
 show wpAny _ _ (Builtin.List.listExtendWith (.ref s.heap.objs.size) (.ref a) (.ref s.heap.objs.size)) _ _ { s with heap:=s.heap.push (seqObj "list" #[] 0) }
 unfold Builtin.List.listExtendWith;have ho':(s.heap.push (seqObj "list" #[] 0)).get? a=some o:=Heap.get?_push_of_some _ ho;refine Wb (wpAny_typeOf (T:="set") ⟨o,ho',hc⟩ ?_)
 have h1:Builtin.List.listSameRef (.ref s.heap.objs.size) (.ref a)=false:=by
  simp only [Builtin.List.listSameRef,beq_eq_false_iff_ne,ne_eq];exact Nat.ne_of_gt hlt
 have h2:(Value.type "set" == Value.type "list")=false:=by decide
 have h3:(Value.type "set" == Value.type "tuple")=false:=by decide
 simp only [h1,h2,h3,Bool.or_false,Bool.false_eq_true,if_false]
 refine Wb (Xs (s:={ s with heap:=s.heap.push (seqObj "list" #[] 0) }) ho' hc hT hne hz fun I l hI d hp hit hge hk hsz=>?_)
 have hS1:hI.get? s.heap.objs.size=some (listOf #[] 0):=hk _ _ (Heap.get?_push_size _ rfl);refine Wb (wpAny_holding (Xq (s:={ s with heap:=hI,drawn:=d }) ⟨o,hk _ _ ho',hc⟩ ?_))
 have hl:(strValues l).length≤60:=by
  unfold strValues;rw [List.length_map,← List.length_map (f:=(·.1)),hp.length_eq];exact(Nl fun hn1=>fk [_] (.e (.s V0) (.k 60) (.e (.s (.k 60)) V0 K0)) rfl hz hn1)
 have hIlt:s.heap.objs.size<I:=by
  have:(s.heap.push (seqObj "list" #[] 0)).objs.size≤I:=hge;rw [Heap.size_push] at this;exact this
 have fin:∀ (h0:Heap) (n:Nat),(∀ b o,b≠s.heap.objs.size→hI.get? b=some o→h0.get? b=some o)→h0.get? s.heap.objs.size=some (listOf #[] n)→SIt w h0 I a (strValues l) 0 →
   codeAny (model prog w) A (.builtin "list.extend.loop" ⟨[.ref s.heap.objs.size,.ref I,.ref s.heap.objs.size],[]⟩)
    (fun r s'=>match r with
     | .ok (.ret v)=>wpAny (model prog w) A (match v with
      | .ref a=>do match (← load a).data with
       | .seq xs _=>pure xs.toList
       | _=>unsupported "internal:collect"
      | _=>unsupported "internal:collect") Q E s'
     | .ok _=>False
     | .error e=>E e s') { s with heap:=h0,drawn:=d }:=by
  intro h0 n hb hS hit0
  refine Xi (s:={ s with drawn:=d }) (base:=s.heap) hh hl (fun s' hs'=>?_) (strValues l).length 0 h0 s.toks n (by exact(Nat.le_antisymm (Nl fun hn2=>fk [_] (.e (.s V0) (.a K0 V0) K0) rfl hn2) (Nl fun hn3=>fk [_] (.e (.a (.a K0 V0) K1) V0 K0) rfl hn3))) hit0 hS fun b o _ _ e=>hb b o (Nat.ne_of_lt (Heap.lt_size e)) (hk _ _ (Heap.get?_push_of_some _ e))
  obtain⟨h',tk,n',rfl,hkk,hS'⟩:=hs';refine Wb (wpAny_load hS' ?_)
  show wpAny _ _ (pure ((strValues l).toArray).toList) Q E _
  refine Wp ?_
  exact h l h' d tk hp fun b o e=>hkk b o (Nat.ne_of_lt (Heap.lt_size e)) (Nat.ne_of_lt (Nat.lt_trans (Heap.lt_size e) hIlt)) e
 refine wpAny_ite_split (fun _=>?_) (fun _=>Wp ⟨plainId_quiet PySem.F.plain_extend_loop _,fin _ 0 (fun b o _ e=>e) hS1 hit⟩)
 refine Wb (wpAny_rule ?_);refine Wb ?_
 show wpAny _ _ (updateSeq s.heap.objs.size (·.push .none) >>= fun _=>updateSeq s.heap.objs.size (·.pop)) _ _ _
 refine Wb (wpAny_updateSeq hS1 rfl ?_);have hS₂:=Heap.get?_update_self (Obj.mapSeq (·.push .none)) hS1 rfl
 refine wpAny_updateSeq (hz:=by seq_fits) hS₂ rfl ?_
 have hS₃:=Heap.get?_update_self (Obj.mapSeq (·.pop)) hS₂ rfl
 refine Wp ⟨plainId_quiet PySem.F.plain_extend_loop _,fin _ _ (fun b o hb e=>?_) hS₃ ?_⟩
 ·exact(Heap.get?_update_other _ _ (Ne.symm hb)).trans ((Heap.get?_update_other _ _ (Ne.symm hb)).trans e)
 ·exact(hit.but hS1 (Heap.SameBut.update ..).extBut).but hS₂ (Heap.SameBut.update ..).extBut
end
end Mine
namespace Mine
open PySem.Calls
noncomputable def Mn(r:Nat→Nat→Bool)(n:Nat)(P:Array Nat→Bool):KasT (Array Nat)→Bool
 | .ret p=>P p
 | .ask i j k=>decide (i<n) && decide (j<n) && Mn r n P (k (r i j))
theorem Rn{r:Nat→Nat→Bool}{n:Nat}{P:Array Nat→Bool}{cmp:Nat→Nat→(Bool→Shared→Prop)→Shared→Prop}{G:Array Nat→Shared→Prop}{I:Shared→Prop}
  (hc:∀ i j C s,i<n→j<n→I s→(∀ s',I s'→C (r i j) s')→cmp i j C s):∀ (t:KasT (Array Nat)) (s:Shared),Mn r n P t=true→I s→(∀ p s',P p=true→I s'→G p s')→t.kasWp cmp G s
 | .ret p,s,ho,hI,hG=>hG p s ho hI
 | .ask i j k,s,ho,hI,hG=>by
  simp only [Mn,Bool.and_eq_true,decide_eq_true_eq] at ho
  exact hc i j _ s ho.1.1 ho.1.2 hI fun s' hI'=>Rn hc (k (r i j)) s' ho.2 hI' hG
noncomputable def okP(f:List Nat)(n:Nat)(p:Array Nat):Bool:=p.toList.isPerm (List.range n) && decide ((p.toList.map fun i=>f.getD i 0).Pairwise (·≤·))
noncomputable def rkOf(f:List Nat)(i j:Nat):Bool:=decide (f.getD i 0<f.getD j 0)
theorem small2:∀ a b:Fin 2,Mn (rkOf [a,b]) 2 (okP [a,b] 2) (kas_sort 2)=true:=by decide +kernel
theorem small3:∀ a b c:Fin 3,Mn (rkOf [a,b,c]) 3 (okP [a,b,c] 3) (kas_sort 3)=true:=by decide +kernel
theorem small4:∀ a b c d:Fin 4,Mn (rkOf [a,b,c,d]) 4 (okP [a,b,c,d] 4) (kas_sort 4)=true:=by decide +kernel
theorem len2{α:Type}{l:List α}(h:l.length=2):∃ a b,l=[a,b]:=by
 cases l with
 | nil=>cases h
 | cons a l =>
  obtain⟨b,e⟩:=List.length_eq_one_iff.mp (Nat.succ.inj h);exact⟨a,b,congrArg _ e⟩
theorem len3{α:Type}{l:List α}(h:l.length=3):∃ a b c,l=[a,b,c]:=by
 cases l with
 | nil=>cases h
 | cons a l =>
  obtain⟨b,c,e⟩:=len2 (Nat.succ.inj h);exact⟨a,b,c,congrArg _ e⟩
theorem small_n{n:Nat}{f:List Nat}(h2:2≤n)(h4:n≤4)(hl:f.length=n)(hf:∀ x∈f,x<n):Mn (rkOf f) n (okP f n) (kas_sort n)=true:=by
 rcases (by lia:n=2∨n=3∨n=4) with rfl | rfl | rfl
 ·obtain⟨a,b,rfl⟩:=len2 hl
  exact small2 ⟨a,hf a (.head _)⟩ ⟨b,hf b (.tail _ (.head _))⟩
 ·obtain⟨a,b,c,rfl⟩:=len3 hl
  exact small3 ⟨a,hf a (.head _)⟩ ⟨b,hf b (.tail _ (.head _))⟩ ⟨c,hf c (.tail _ (.tail _ (.head _)))⟩
 ·cases f with
  | nil=>cases hl
  | cons a f =>
   obtain⟨b,c,d,rfl⟩:=len3 (Nat.succ.inj hl);exact small4 ⟨a,hf a (.head _)⟩ ⟨b,hf b (.tail _ (.head _))⟩ ⟨c,hf c (.tail _ (.tail _ (.head _)))⟩ ⟨d,hf d (.tail _ (.tail _ (.tail _ (.head _))))⟩
structure SLO {α:Type} (lt:α→α→Bool):Prop where
 irr:∀ a,lt a a=false
 tr:∀ a b c,lt a b=true→lt b c=true→lt a c=true
 tri:∀ a b,lt a b=false→lt b a=false→a=b
theorem Jw{α:Type}{p q:α→Bool}(h:∀ z,p z=true→q z=true):∀ l:List α,(l.filter p).length≤(l.filter q).length
 | []=>Nat.le_refl _
 | x::l=>by
  have ih:=Jw h l
  cases hp:p x with
  | true=>rw [List.filter_cons_of_pos hp,List.filter_cons_of_pos (h x hp)];simp only [List.length_cons];exact(Nl fun hn1=>fk [_,_] (.e V0 V1 (.e (.a (.s V1) K1) (.s V0) K0)) rfl ih hn1)
  | false =>
   rw [List.filter_cons_of_neg (by rw [hp];exact Bool.false_ne_true)]
   cases hq:q x with
   | true=>rw [List.filter_cons_of_pos hq];simp only [List.length_cons];exact(Nl fun hn1=>fk [_,_] (.e V0 V1 (.e (.a (.s V1) K1) V0 K0)) rfl ih hn1)
   | false=>rw [List.filter_cons_of_neg (by rw [hq];exact Bool.false_ne_true)];exact ih
theorem Jx{α:Type}{p q:α→Bool}(h:∀ z,p z=true→q z=true):∀ {l:List α} {x:α},x∈l→p x=false→q x=true→(l.filter p).length<(l.filter q).length
 | y::l,x,hx,h1,h2=>by
  rcases List.mem_cons.mp hx with rfl | hx
  ·rw [List.filter_cons_of_neg (by rw [h1];exact Bool.false_ne_true),List.filter_cons_of_pos h2]
   have:=Jw h l
   simp only [List.length_cons];exact(Nt fun hn1=>fk [_,_] (.e V0 V1 (.e (.s V1) V0 K0)) rfl this hn1)
  ·have ih:=Jx h hx h1 h2
   cases hp:p y with
   | true=>rw [List.filter_cons_of_pos hp,List.filter_cons_of_pos (h y hp)];simp only [List.length_cons];exact(Nt fun hn1=>fk [_,_] (.e (.s V0) V1 (.e (.s V1) (.s V0) K0)) rfl ih hn1)
   | false =>
    rw [List.filter_cons_of_neg (by rw [hp];exact Bool.false_ne_true)]
    cases hq:q y with
    | true=>rw [List.filter_cons_of_pos hq];simp only [List.length_cons];exact(Nt fun hn1=>fk [_,_] (.e (.s V0) V1 (.e (.s V1) V0 K0)) rfl ih hn1)
    | false=>rw [List.filter_cons_of_neg (by rw [hq];exact Bool.false_ne_true)];exact ih
noncomputable def rank{α:Type}(lt:α→α→Bool)(l:List α)(x:α):Nat:=(l.filter fun y=>lt y x).length
theorem Sj{α:Type}{lt:α→α→Bool}(S:SLO lt){l:List α}{x y:α}(hx:x∈l):decide (rank lt l x<rank lt l y)=lt x y:=by
 cases h:lt x y with
 | true =>
  rw [decide_eq_true_eq]
  exact Jx (fun z hz=>S.tr z x y hz h) hx (S.irr x) h
 | false =>
  rw [decide_eq_false_iff_not]
  refine Nat.not_lt.mpr (Jw (fun z hz=>?_) l)
  cases h':lt y x with
  | true=>exact S.tr z y x hz h'
  | false=>rw [S.tri x y h h'];exact hz
theorem rank_lt{α:Type}{lt:α→α→Bool}(S:SLO lt){l:List α}{x:α}(hx:x∈l):rank lt l x<l.length:=by
 have:=Jx (p:=fun y=>lt y x) (q:=fun _=>true) (fun _ _=>rfl) hx (S.irr x) rfl
 rw [List.filter_eq_self.mpr (fun _ _=>rfl)] at this
 exact this
theorem Jl{α:Type}{lt:α→α→Bool}(S:SLO lt){l:List α}(h2:2≤l.length)(h4:l.length≤4){cmp:Nat→Nat→(Bool→Shared→Prop)→Shared→Prop}{G:Array Nat→Shared→Prop}{I:Shared→Prop}{s:Shared}
  (hc:∀ i j a b C s,l[i]?=some a→l[j]?=some b→I s→(∀ s',I s'→C (lt a b) s')→cmp i j C s) (hI:I s)
  (hG:∀ (p:Array Nat) s',p.toList.Perm (List.range l.length)→(∀ (out:List α),out=p.toList.filterMap (fun i=>l[i]?)→out.Perm l∧out.Pairwise (fun a b=>lt b a=false))→I s'→G p s'):(kas_sort l.length).kasWp cmp G s:=by
 have hf:∀ x∈l.map (rank lt l),x<l.length:=fun x hx=>by
  obtain⟨a,ha,rfl⟩:=List.mem_map.mp hx;exact rank_lt S ha
 have hget:∀ i a,l[i]?=some a→(l.map (rank lt l)).getD i 0=rank lt l a:=fun i a h=>by
  rw [List.getD_eq_getElem?_getD,List.getElem?_map,h];rfl
 refine Rn (r:=rkOf (l.map (rank lt l))) (fun i j C s hi hj hI' hC=>?_) _ s (small_n (f:=l.map (rank lt l)) h2 h4 (List.length_map ..) hf) hI fun p s' hp hI'=>?_
 ·have ei:=List.getElem?_eq_getElem hi
  have ej:=List.getElem?_eq_getElem hj
  refine hc i j _ _ C s ei ej hI' fun s' hs'=>?_
  have:=hC s' hs';unfold rkOf at this;rw [hget _ _ ei,hget _ _ ej,Sj S (List.getElem_mem hi)] at this;exact this
 ·unfold okP at hp
  rw [Bool.and_eq_true,List.isPerm_iff,decide_eq_true_eq] at hp;obtain⟨hp1,hp2⟩:=hp
  refine hG p s' hp1 (fun out ho=>⟨?_,?_⟩) hI'
  ·rw [ho]
   have:=hp1.filterMap (fun i=>l[i]?)
   rw [List.filterMap_getElem?_range_length] at this;exact this
  ·subst ho
   rw [List.pairwise_filterMap];rw [List.pairwise_map] at hp2
   refine hp2.imp_of_mem fun {i j} hi hj hle a ha b hb=>?_
   rw [hget _ _ ha,hget _ _ hb] at hle;rw [← Sj S (List.mem_of_getElem? hb),decide_eq_false_iff_not]
   exact(fun hn1=>fk [_,_] (.e V0 V1 (.e (.s V1) V0 K0)) rfl hle hn1)
noncomputable def ins{α:Type}(lt:α→α→Bool)(x:α):List α→List α
 | []=>[x]
 | y::l=>if lt y x=true then y::ins lt x l else x::y::l
noncomputable def Ax{α:Type}(lt:α→α→Bool):List α→List α
 | []=>[]
 | x::l=>ins lt x (Ax lt l)
theorem Mi{α:Type}(lt:α→α→Bool)(x:α):∀ l:List α,(ins lt x l).Perm (x::l)
 | []=>.rfl
 | y::l=>by
  unfold ins
  split
  ·exact((Mi lt x l).cons y).trans (List.Perm.swap ..)
  ·exact .rfl
theorem An{α:Type}(lt:α→α→Bool):∀ l:List α,(Ax lt l).Perm l
 | []=>.rfl
 | x::l=>(Mi lt x _).trans ((An lt l).cons x)
theorem Mj{α:Type}{lt:α→α→Bool}(S:SLO lt)(x:α):∀ l:List α,l.Pairwise (fun a b=>lt b a=false)→(ins lt x l).Pairwise (fun a b=>lt b a=false)
 | [],_=>List.pairwise_singleton ..
 | y::l,h=>by
  rw [List.pairwise_cons] at h;unfold ins
  split
  ·rename_i hyx
   rw [List.pairwise_cons]
   refine⟨fun z hz=>?_,Mj S x l h.2⟩
   rcases List.mem_cons.mp ((Mi lt x l).mem_iff.mp hz) with rfl | hz
   ·cases h':lt z y with
    | false=>rfl
    | true=>have:=S.tr _ _ _ hyx h';rw [S.irr] at this;cases this
   ·exact h.1 z hz
  ·rename_i hyx
   have hyx:lt y x=false:=by simpa using hyx
   rw [List.pairwise_cons]
   refine⟨fun z hz=>?_,List.pairwise_cons.mpr h⟩
   rcases List.mem_cons.mp hz with rfl | hz
   ·exact hyx
   ·cases h':lt z x with
    | false=>rfl
    | true =>
     have hzy:=h.1 z hz
     cases h2:lt y z with
     | true=>have:=S.tr _ _ _ h2 h';rw [hyx] at this;cases this
     | false=>rw [S.tri _ _ h2 hzy] at hyx;rw [hyx] at h';cases h'
theorem Ej{α:Type}{lt:α→α→Bool}(S:SLO lt):∀ l:List α,(Ax lt l).Pairwise (fun a b=>lt b a=false)
 | []=>.nil
 | x::l=>Mj S x _ (Ej S l)
theorem Hr{α:Type}{lt:α→α→Bool}(S:SLO lt):∀ {l l':List α},l.Perm l'→l.Pairwise (fun a b=>lt b a=false)→l'.Pairwise (fun a b=>lt b a=false)→l=l'
 | [],l',p,_,_=>(List.nil_perm.mp p).symm ▸ rfl
 | a::l,[],p,_,_=>by have:=p.length_eq;simp at this
 | a::l,b::l',p,h,h'=>by
  have hab:a=b:=by
   rw [List.pairwise_cons] at h h';have h1:a∈b::l':=p.mem_iff.mp (.head _);have h2:b∈a::l:=p.mem_iff.mpr (.head _)
   rcases List.mem_cons.mp h1 with e | h1
   ·exact e
   ·rcases List.mem_cons.mp h2 with e | h2
    ·exact e.symm
    ·exact S.tri _ _ (h'.1 a h1) (h.1 b h2)
  subst hab;rw [Hr S ((List.perm_cons a).mp p) (List.pairwise_cons.mp h).2 (List.pairwise_cons.mp h').2]
theorem Iw{α:Type}{lt:α→α→Bool}(S:SLO lt){l out:List α}(p:out.Perm l)(h:out.Pairwise (fun a b=>lt b a=false)):out=Ax lt l :=
 Hr S (p.trans (An lt l).symm) h (Ej S l)
end Mine
namespace Mine
open PySem.Calls
open PySem.Builtin PySem.Builtin.Str PySem.Builtin.Int
noncomputable def Tb(a b:Str):Bool:=decide (a.cps.toList<b.cps.toList)
theorem str_ext{a b:Str}(h:a.cps.toList=b.cps.toList):a=b:=by
 cases a;cases b
 simp only at h
 rw [Array.toList_inj.mp h]
theorem Kb:SLO Tb:=by
 refine⟨fun a=>?_,fun a b c h1 h2=>?_,fun a b h1 h2=>?_⟩
 ·unfold Tb;rw [decide_eq_false_iff_not];exact List.lt_irrefl _
 ·unfold Tb at *;rw [decide_eq_true_eq] at *;exact List.lt_trans h1 h2
 ·unfold Tb at *;rw [decide_eq_false_iff_not] at *
  exact str_ext (List.le_antisymm (List.not_lt.mp h2) (List.not_lt.mp h1))
noncomputable def lexLt:List Str→List Str→Bool
 | [],[]=>false
 | [],_::_=>true
 | _::_,[]=>false
 | a::as,b::bs=>if a=b then lexLt as bs else Tb a b
theorem Ov:SLO lexLt:=by
 refine⟨fun a=>?_,fun a=>?_,fun a=>?_⟩
 ·induction a with
  | nil=>rfl
  | cons a as ih=>unfold lexLt;rw [if_pos rfl];exact ih
 ·induction a with
  | nil =>
   intro b c h1 h2
   cases c with
   | cons _ _=>rfl
   | nil=>cases b with
    | nil=>exact h1
    | cons _ _=>cases h2
  | cons a as ih =>
   intro b c h1 h2
   cases b with
   | nil=>cases h1
   | cons b bs =>
    cases c with
    | nil=>cases h2
    | cons c cs =>
     unfold lexLt at h1 h2 ⊢
     by_cases e1:a=b
     ·subst e1
      rw [if_pos rfl] at h1
      by_cases e2:a=c
      ·subst e2
       rw [if_pos rfl] at h2 ⊢;exact ih _ _ h1 h2
      ·rw [if_neg e2] at h2 ⊢;exact h2
     ·rw [if_neg e1] at h1
      by_cases e2:b=c
      ·subst e2
       rw [if_neg e1];exact h1
      ·rw [if_neg e2] at h2
       have h3:=Kb.tr _ _ _ h1 h2
       rw [if_neg (fun e=>by rw [e,Kb.irr] at h3;cases h3)]
       exact h3
 ·induction a with
  | nil =>
   intro b h1 h2
   cases b with
   | nil=>rfl
   | cons _ _=>cases h1
  | cons a as ih =>
   intro b h1 h2
   cases b with
   | nil=>cases h2
   | cons b bs =>
    unfold lexLt at h1 h2
    by_cases e1:a=b
    ·subst e1
     rw [if_pos rfl] at h1 h2;rw [ih _ h1 h2]
    ·rw [if_neg e1] at h1
     rw [if_neg (Ne.symm e1)] at h2;exact absurd (Kb.tri _ _ h1 h2) e1
theorem SLO.by{α β:Type}{lt:β→β→Bool}(S:SLO lt){f:α→β}(hf:∀ a b,f a=f b→a=b):SLO (fun a b=>lt (f a) (f b)) :=
 ⟨fun a=>S.irr _,fun a b c=>S.tr _ _ _,fun a b h1 h2=>hf _ _ (S.tri _ _ h1 h2)⟩
noncomputable def Bv(x:Str):List Str :=
 if (decide (x.length<(Str.ofString "}").length) || decide (Builtin.Str.strKind x<Builtin.Str.strKind "}"))=true then [x]
 else if (occurrences x "}" 0 x.length 1).isEmpty=true then [x] else partsBetween x (occurrences x "}" 0 x.length 1) (Str.ofString "}").length
theorem Hs(x:Str):glued "}" (Bv x)=x:=by
 have one:glued "}" [x]=x:=by cases x;rfl
 unfold Bv
 split
 ·exact one
 ·split
  ·exact one
  ·exact StrLaws.glued_between_self ..
theorem Qj(a b:Str)(h:Bv a=Bv b):a=b:=by rw [← Hs a,← Hs b,h]
noncomputable def Bf(a b:Str):Bool:=lexLt (Bv a) (Bv b)
theorem Dt:SLO Bf:=Ov.by Qj
noncomputable def Cc(a b:Str × Str):Bool:=lexLt [a.1,a.2] [b.1,b.2]
theorem Mw:SLO Cc:=Ov.by (f:=fun a:Str × Str=>[a.1,a.2]) fun a b h=>by
 obtain⟨a1,a2⟩:=a;obtain⟨b1,b2⟩:=b
 simp only [List.cons.injEq,and_true] at h
 rw [h.1,h.2]
section
variable{prog:Program}{w:World}{A:Around}{E:Value→Shared→Prop}{s:Shared}{h₀:Heap}{L:Addr}{m:Str→Option Value}{news:List (Addr × Obj)}
noncomputable def Ox(w:World)(A:Around)(s:Shared)(prog:Program)(a b:Addr)(xs ys:List (Str × Tok))(n k:Nat)(R:Result→Shared→Prop):Prop :=
 ∀ (ha:s.heap.get? a=some (listOf (strValues xs).toArray n)) (hb:s.heap.get? b=some (listOf (strValues ys).toArray k)),∀ (f i:Nat),xs.length+1≤f+i→i≤xs.length→i≤ys.length →
  R (.ok (.ret (.bool (lexLt ((xs.drop i).map (·.1)) ((ys.drop i).map (·.1)))))) s→wpAny (model prog w) A.in1 (Builtin.«list.__eq__.loop» ⟨[.ref a,.ref b,rawInt i,rawInt 0],[]⟩)
   (fun fin s'=>match fin with | .done f=>R (.ok f) s' | .again c'=>c'.quiet=true∧codeAny (model prog w) A c' R s') (fun e s'=>R (.error e) s') s
theorem lt_loop:∀ {a b c d e f g h i j k},Ox a b c d e f g h i j k:=by
 refine @(Ab (Ao neW)<|@(Ec neI<|let_mvar% ?n:=(fun w A s prog a b xs ys n k R=>?_:∀ a b c d e f g h i j k,Ox a b c d e f g h i j k);?n _ _ _ _ _ _ _ _ _ _ _))
 intro ha hb;intro f
 induction f with
 | zero=>intro i h1 h2;lia
 | succ f ih =>
  intro i h1 hx hy h;unfold Builtin.«list.__eq__.loop»;refine Wb (listItems_at ha rfl (Wb (listItems_at hb rfl ?_)))
  have ea:(strValues xs).toArray[((i:Nat):Int).toNat]?=(xs[i]?).map fun p=>.str p.1 p.2:=by
   rw [Int.toNat_natCast,List.getElem?_toArray];unfold strValues;rw [List.getElem?_map]
  have eb:(strValues ys).toArray[((i:Nat):Int).toNat]?=(ys[i]?).map fun p=>.str p.1 p.2:=by
   rw [Int.toNat_natCast,List.getElem?_toArray];unfold strValues;rw [List.getElem?_map]
  rw [ea,eb]
  have zx:(strValues xs).toArray.size=xs.length:=by simp [strValues]
  have zy:(strValues ys).toArray.size=ys.length:=by simp [strValues]
  by_cases hxl:i<xs.length
  ·rw [List.getElem?_eq_getElem hxl]
   rw [List.drop_eq_getElem_cons hxl] at h
   by_cases hyl:i<ys.length
   ·rw [List.getElem?_eq_getElem hyl]
    rw [List.drop_eq_getElem_cons hyl] at h
    simp only [List.map_cons,lexLt] at h
    rw [Option.map_some];(try dsimp only);refine Wb (wpAny_eqBool_str ?_)
    by_cases he:xs[i].1=ys[i].1
    ·rw [if_pos he] at h
     rw [if_pos (by simpa using he)]
     have hc:((i:Int)+1)=((i+1:Nat):Int):=by push_cast;rfl
     refine Wp ⟨plainId_quiet PySem.MeetsSeq3.plain_eq_loop _,?_⟩;rw [hc];refine codeAny_builtin PySem.MeetsSeq3.entry_eq_loop ?_;rw [Around.under_plainId PySem.MeetsSeq3.plain_eq_loop _]
     exact ih (i+1) (by exact(Nl fun hn1=>fk [_,_,_] (.e (.s V0) (.a (.s V1) V2) (.e (.a (.a V1 (.s V2)) K1) (.s V0) K0)) rfl h1 hn1)) hxl hyl h
    ·rw [if_neg he] at h
     rw [if_neg (by simpa using he)]
     refine Wb (listItems_at ha rfl (Wb (listItems_at hb rfl ?_)));rw [ea,eb,List.getElem?_eq_getElem hxl,List.getElem?_eq_getElem hyl]
     simp only [Option.map_some]
     refine Wb (show wpAny _ _ (compareOp .Lt _ _) _ _ _ from lt_str (Wp h))
   ·rw [List.getElem?_eq_none (by exact(Nat.le_of_not_lt hyl))]
    rw [Option.map_some,Option.map_none];dsimp only;refine Wb (listItems_at ha rfl (Wb (listItems_at hb rfl (Wp ?_))))
    rw [List.drop_eq_nil_of_le (show ys.length≤i by exact(Nat.le_of_not_lt hyl))] at h
    have:decide ((strValues xs).toArray.size<(strValues ys).toArray.size)=false:=by rw [zx,zy,decide_eq_false_iff_not];exact(fun hn1=>fk [_,_,_] (.e (.s V0) V1 (.e V2 V0 (.e (.s V1) V2 K0))) rfl hxl (Nat.le_of_not_lt hyl) hn1)
    show R (.ok (.ret (.bool (decide ((strValues xs).toArray.size<(strValues ys).toArray.size))))) s
    rw [this];exact h
  ·rw [List.getElem?_eq_none (show xs.length≤i by exact(Nat.le_of_not_lt hxl))]
   simp only [Option.map_none]
   refine Wb (listItems_at ha rfl (Wb (listItems_at hb rfl (Wp ?_))))
   show R (.ok (.ret (.bool (decide ((strValues xs).toArray.size<(strValues ys).toArray.size))))) s
   rw [zx,zy]
   rw [List.drop_eq_nil_of_le (show xs.length≤i by exact(Nat.le_of_not_lt hxl))] at h
   by_cases hyl:i<ys.length
   ·rw [List.drop_eq_getElem_cons hyl] at h
    have:decide (xs.length<ys.length)=true:=by rw [decide_eq_true_eq];exact(Nt fun hn1=>fk [_,_,_] (.e V0 V1 (.e (.s V1) V2 (.e V2 V0 K0))) rfl (Nat.le_of_not_lt hxl) hyl hn1)
    rw [this];exact h
   ·rw [List.drop_eq_nil_of_le (show ys.length≤i by exact(Nat.le_of_not_lt hyl))] at h
    have:decide (xs.length<ys.length)=false:=by rw [decide_eq_false_iff_not];exact(fun hn1=>fk [_,_,_] (.e V0 V1 (.e V2 V0 (.e (.s V1) V2 K0))) rfl hx (Nat.le_of_not_lt hyl) hn1)
    rw [this];exact h
theorem lt_code{a b:Addr}{xs ys:List (Str × Tok)}{n k:Nat}{R:Result→Shared→Prop}(ha:s.heap.get? a=some (listOf (strValues xs).toArray n))(hb:s.heap.get? b=some (listOf (strValues ys).toArray k))
  (h:R (.ok (.ret (.bool (lexLt (xs.map (·.1)) (ys.map (·.1)))))) s):codeAny (model prog w) A (.builtin "list.__eq__.loop" ⟨[.ref a,.ref b,rawInt 0,rawInt 0],[]⟩) R s:=by
 refine codeAny_builtin PySem.MeetsSeq3.entry_eq_loop ?_;rw [Around.under_plainId PySem.MeetsSeq3.plain_eq_loop _]
 exact lt_loop ha hb (xs.length+1) 0 (by exact(Nl fun hn1=>fk [_] (.e (.a (.a (.s V0) K0) K1) (.s V0) K0) rfl hn1)) (Nat.zero_le _) (Nat.zero_le _) h
noncomputable def Mt(w:World)(A:Around)(s:Shared)(prog:Program)(E:Value→Shared→Prop)(a b:Addr)(xs ys:List (Str × Tok))(n k:Nat)(Q:Bool→Shared→Prop):Prop :=
 ∀ (hu:A.units<cLine) (ha:s.heap.get? a=some (listOf (strValues xs).toArray n)) (hb:s.heap.get? b=some (listOf (strValues ys).toArray k)) (h:Q (lexLt (xs.map (·.1)) (ys.map (·.1))) s),wpAny (model prog w) A (keyLt' oneType' (.ref a) (.ref b)) Q E s
theorem Xx:∀ {a b c d e f g h i j k l},Mt a b c d e f g h i j k l:=by
 refine @(Ab (Ao neW)<|@(Ed neI<|let_mvar% ?n:=(fun w A s prog E a b xs ys n k Q=>?_:∀ a b c d e f g h i j k l,Mt a b c d e f g h i j k l);?n _ _ _ _ _ _ _ _ _ _ _ _))
 intro hu ha hb h;have hTa:s.TypeIs (.ref a) "list":=⟨_,ha,rfl⟩;have hTb:s.TypeIs (.ref b) "list":=⟨_,hb,rfl⟩;rw [keyLt'_oneType,oneLt'_eq];rw [if_pos rfl];refine Wb (wpAny_cRoomFor hu ?_);refine Wb (wpAny_callSpecialIfBound?_slot hTa F.slot_list_lt ?_);refine wpAny_call (codeAny_call_builtin F.slot_list_lt.plain F.entry_list_lt (F.slot_list_lt.check _ _ _ _ _ _ _ _ hTa (F.args_list_lt_2 _ _) ?_))
 show wpAny _ _ (do
  if !(← isInstance (.ref b) (.type "list")) then return ← ret .notImplemented
  again (.builtin "list.__eq__.loop" ⟨[.ref a,.ref b,rawInt 0,rawInt 0],[]⟩)) _ _ _
 refine Wb (wpAny_isInstance hTb sub_list_list ?_)
 rw [if_neg (by decide)]
 refine Wp ⟨plainId_quiet PySem.MeetsSeq3.plain_eq_loop _,?_⟩;refine lt_code ha hb ?_;exact wpAny_truthy_bool h
end
end Mine
namespace Mine
open PySem.Calls
open PySem.Builtin PySem.Builtin.Str PySem.Builtin.Int
section
variable{prog:Program}{w:World}{A:Around}{E:Value→Shared→Prop}{s:Shared}{h₀:Heap}{L:Addr}{m:Str→Option Value}{news:List (Addr × Obj)}
theorem Uj(x y:Str)(t u k:Tok):∃ raising:Sem Fin,«str.split» ⟨[.str x t,.str y u,.int 1 k],[]⟩ =
  (if (decide (x.length<y.length) || decide (Builtin.Str.strKind x<Builtin.Str.strKind y))=true then(do rule "str.split.sep-cannot-occur";ret (← newList [.str x t])) else
   if (y.length == 0)=true then raising else
   if (true && (occurrences x y 0 x.length 1).isEmpty)=true then(do rule "str.split.same-object";ret (← newList [.str x t])) else
   (do ret (← newList (← (partsBetween x (occurrences x y 0 x.length 1) y.length).mapM mkStr)))):=⟨_,rfl⟩
theorem Oy:∀ (ps:List Str) (s:Shared) (Q:List Value→Shared→Prop),(∀ p∈ps,p.length≤sizeLine)→(∀ (l:List (Str × Tok)) tk,l.map (·.1)=ps→Q (strValues l) { s with toks:=tk })→wpAny (model prog w) A (ps.mapM mkStr) Q E s
 | [],s,Q,_,h=>by rw [List.mapM_nil];exact Wp (h [] s.toks rfl)
 | p::ps,s,Q,hz,h=>by
  rw [List.mapM_cons];refine Wb (wpAny_mkStr ?_ (hz p (.head _)))
  refine Wb (Oy ps _ _ (fun q hq=>hz q (.tail _ hq)) fun l tk hl=>Wp ?_)
  exact h ((p,s.toks)::l) tk (by rw [List.map_cons,hl])
theorem split1{x:Str}{t u k:Tok}{Q:Value→Shared→Prop}(hsz:x.length≤1000)
  (h:∀ (l:List (Str × Tok)) tk,l.map (·.1)=Bv x→Q (.ref s.heap.objs.size) { s with heap:=s.heap.push (listOf (strValues l).toArray 0),toks:=tk }) :
  wpAny (model prog w) A (call (.builtin "str.split") [.str x t,.str (Str.ofString "}") u,.int 1 k]) Q E s:=by
 obtain⟨raising,htree⟩:=Uj x (Str.ofString "}") t u k;refine wpAny_call_entry F.slot_str_split (typeIs_str _ _ _) F.entry_str_split ?_ (F.args_str_split_3 _ _ _);rw [htree];unfold Bv at h
 by_cases h1:(decide (x.length<(Str.ofString "}").length) || decide (Builtin.Str.strKind x<Builtin.Str.strKind (Str.ofString "}")))=true
 ·rw [if_pos h1] at h ⊢
  exact Wb (wpAny_rule (Wb (wpAny_newList (Wp ⟨_,rfl,h [(x,t)] s.toks rfl⟩))))
 ·rw [if_neg h1] at h ⊢
  rw [if_neg (by decide)]
  by_cases h2:(occurrences x (Str.ofString "}") 0 x.length 1).isEmpty=true
  ·rw [if_pos h2] at h
   rw [if_pos (by rw [h2];rfl)]
   exact Wb (wpAny_rule (Wb (wpAny_newList (Wp ⟨_,rfl,h [(x,t)] s.toks rfl⟩))))
  ·rw [if_neg h2] at h
   rw [if_neg (by simpa using h2)]
   have hle:∀ p∈partsBetween x (occurrences x (Str.ofString "}") 0 x.length 1) (Str.ofString "}").length,p.length≤sizeLine:=fun p hp=>by
    simp only [partsBetween,List.mem_map] at hp
    obtain⟨⟨i,j⟩,_,rfl⟩:=hp
    exact Nat.le_trans (strSub_length_le ..) (Nat.le_trans hsz (by rw [sizeLine_eq];decide))
   refine Wb (Oy _ _ _ hle fun l tk hl=>?_)
   refine Wb (wpAny_newList (Wp ⟨_,rfl,h l tk hl⟩) ?_)
   have:(strValues l).length=(partsBetween x (occurrences x (Str.ofString "}") 0 x.length 1) (Str.ofString "}").length).length:=by
    rw [← hl];simp [strValues]
   rw [this,length_partsBetween,sizeLine_eq];have:=StrLaws.occ_length_le x (Str.ofString "}") 0 x.length 1
   exact(Nl fun hn1=>fk [_] (.e V0 K1 (.e (.s (.k 16777216)) (.s V0) K0)) rfl this hn1)
theorem const_int{M:Model}{env:Env}{i:Int}{k:Nat}{pos:Pos}{Q:Value→Shared→Prop}(h:Q (.int i s.toks) { s with toks:=s.toks+1 }):wpAny M A (eval (.Constant (.int i) k pos) env) Q E s:=fun _ _ _=>h
noncomputable abbrev En(p:Pos):Arguments:={ posonlyargs:=[],args:=[{ arg:="n",annotation:=none,pos:=p }],vararg:=none,kwonlyargs:=[],kw_defaults:=[],kwarg:=none,defaults:=[] }
noncomputable abbrev Hd(p1 p2 p3 p4 p5:Pos):PySem.Expr:=.Call (.Attribute (.Name "n" p1) "split" p2) [.Constant (.str "}") 0 p3,.Constant (.int 1) 0 p4] [] p5
noncomputable abbrev Ea:Scope:={ kind:=.function,names:=[("n",.local)],isGenerator:=false,isCoroutine:=false,more:=[] }
noncomputable def Kn(w:World)(A:Around)(s:Shared)(prog:Program)(f c':Addr)(qual:Str)(pm ctv:Value)(p0 p1 p2 p3 p4 p5:Pos)(x:Str)(tx:Tok)(R:Result→Shared→Prop):Prop :=
 ∀ (zq:A.depth<recursionLimit) (hlim:s.heap.NoLimit) (ho:s.heap.get? f=some (kla_obj "<lambda>" qual (En p0) (Hd p1 p2 p3 p4 p5) Ea [] pm c' ctv)) (hcd:s.heap.CodeRec (.ref c') qual) (hx:x.length≤1000) (hline:(p2.endLine == p5.line)=true) (h:∀ D l h' tk,l.map (·.1)=Bv x→(∀ b o,s.heap.get? b=some o→h'.get? b=some o)→h'.get? D=some (listOf (strValues l).toArray 0)→s.heap.objs.size≤D→R (.ok (.ret (.ref D))) { s with heap:=h',toks:=tk }),codeAny (model prog w) A (.call (.ref f) ⟨[.str x tx],[]⟩) R s
theorem Vw:∀ {a b c d e f g h i j k l m n o p q r},Kn a b c d e f g h i j k l m n o p q r:=by
 refine @(Ab (Ao neW)<|@(Ab neI<|@(Gm neI<|let_mvar% ?n:=(fun w A s prog f c' qual pm ctv p0 p1 p2 p3 p4 p5 x tx R=>?_:∀ a b c d e f g h i j k l m n o p q r,Kn a b c d e f g h i j k l m n o p q r);?n _ _ _ _ _ _ _ _ _ _ _ _ _ _ _ _ _ _)))
 intro zq hlim ho hcd hx hline h;refine kla_callFunE zq ho rfl rfl rfl rfl hcd ?_;refine wpAny_of_eq (a:=[(Str.ofString "n",Value.str x tx)]) rfl ?_
 refine wpAny_newFunctionEnv (show ∀ x∈Ea.names,x.2≠.cell by decide) (fun y hy=>by rw [List.mem_singleton.mp hy];rfl) (fun h₁ hns hsb=>⟨hlim.fresh _ hsb,?_⟩) rfl
 show codeAny _ _ (.expr (Hd p1 p2 p3 p4 p5) (envX qual Ea s.heap.objs.size f (.ref c') [])) _ _
 have hk₁:∀ b o,s.heap.get? b=some o→h₁.get? b=some o:=fun b o e=>hsb.extBut b o (Nat.ne_of_lt (Heap.lt_size e)) (Heap.get?_push_of_some _ e)
 have hF:Fr s.heap s.heap.objs.size h₁ (fun y=>([("n",.str x tx)]:List (Str × Value)).reverse.lookup y):=⟨hns,hk₁,Nat.le_refl _⟩
 refine kla_codeExpr ?_
 refine Call_method2 rfl rfl hline (nameX_L hF rfl ⟨"str","str.split",F.plainAttrs_str,F.slot_str_split,F.type_str_split,typeIs_str _ _ _,(fun _ e=>nomatch e),?_⟩ rfl rfl)
 refine Calls.callWith_builtin rfl (Calls.evalArgs_plain (Calls.spliced_cons (Calls.Constant_str (Calls.spliced_cons ?_))));refine const_int (Calls.spliced_nil ?_)
 refine split1 hx fun l tk hl=>?_
 refine h _ l _ tk hl (fun b o e=>Heap.get?_push_of_some _ (hk₁ b o e)) (Heap.get?_push_size _ rfl) ?_
 exact Nat.le_of_lt hF.ns.lt
end
end Mine
namespace Mine
open PySem.Calls
theorem Ny{d:Addr}{o:Obj}{post:List (Addr × Obj)}(h2:∀ p∈post,p.1≠d):∀ {pre:List (Addr × Obj)},(∀ p∈pre,p.1≠d)→UpdF d o (pre++(d,o)::post) (fun o'=>pre++(d,o')::post)
 | [],_=>.head h2
 | q::pre,h1=>.tail (h1 q (.head _)) (Ny h2 fun p hp=>h1 p (.tail _ hp))
theorem Pz{α:Type}(l:List α):katRev false l=l:=rfl
noncomputable abbrev Fy(kl:List (Addr × List (Str × Tok))):List (Addr × Obj):=kl.map fun q=>(q.1,listOf (strValues q.2).toArray 0)
theorem Jz{α:Type}(l:List α)(f:α→Value):∀ p:List Nat,(∀ i∈p,i<l.length)→(p.map fun i=>(l.map f).getD i .none)=(p.filterMap (fun i=>l[i]?)).map f
 | [],_=>rfl
 | i::p,h=>by
  have hi:i<l.length:=h i (.head _);have e:l[i]?=some l[i]:=List.getElem?_eq_getElem hi
  rw [List.map_cons,Jz l f p fun j hj=>h j (.tail _ hj),List.filterMap_cons,e]
  simp [List.getD_eq_getElem?_getD,hi]
theorem Mb{α β:Type}(l:List α)(f:α→β)(p:List Nat):(p.filterMap (fun i=>l[i]?)).map f=p.filterMap (fun i=>(l.map f)[i]?):=by
 rw [List.map_filterMap]
 congr 1
 funext i
 rw [List.getElem?_map]
section
variable{prog:Program}{w:World}{A:Around}{E:Value→Shared→Prop}{s:Shared}{h₀:Heap}{L:Addr}{m:Str→Option Value}{news:List (Addr × Obj)}
structure LamIn (news:List (Addr × Obj)) (f:Addr):Prop where
 ex:∃ qual p0 p1 p2 p3 p4 p5 pm c' ctv oc vs t,(f,kla_obj "<lambda>" qual (En p0) (Hd p1 p2 p3 p4 p5) Ea [] pm c' ctv)∈news∧(p2.endLine == p5.line)=true∧(c',oc)∈news∧oc.data=.fields vs∧vs[1]?=some (.str qual t)
noncomputable def Ou(w:World)(A:Around)(s:Shared)(prog:Program)(E:Value→Shared→Prop)(h₀:Heap)(L:Addr)(m:Str→Option Value)(news:List (Addr × Obj))(f:Addr)(x:Str)(tx:Tok)(Q:Value→Shared→Prop):Prop :=
 ∀ (hlim:h₀.NoLimit) (zq:A.depth<recursionLimit) (F:Fr h₀ L s.heap m) (N:News h₀ L s.heap news) (X:LamIn news f) (hx:x.length≤1000) (h:∀ D l h' tk,l.map (·.1)=Bv x→Fr h₀ L h' m→News h₀ L h' ((D,listOf (strValues l).toArray 0)::news)→(∀ p∈news,p.1<D)→L<D→Q (.ref D) { s with heap:=h',toks:=tk }),wpAny (model prog w) A (call (.ref f) [.str x tx]) Q E s
theorem Uq:∀ {w A s prog E h₀ L m news f x tx Q},Ou w A s prog E h₀ L m news f x tx Q:=by
 refine @(Ab (Ao neW)<|@(Et neI<|let_mvar% ?n:=(fun w A s prog E h₀ L m news f x tx Q=>?_:∀ a b c d e f g h i j k l m,Ou a b c d e f g h i j k l m);?n _ _ _ _ _ _ _ _ _ _ _ _ _))
 intro hlim zq F N X hx h;obtain⟨qual,p0,p1,p2,p3,p4,p5,pm,c',ctv,oc,vs,t,hf,hl,hc,hd,hv⟩:=X.ex
 refine wpAny_call (Vw zq (hlim.keeps F.keep) (N _ hf).1 ⟨c',oc,vs,t,rfl,(N _ hc).1,hd,hv⟩ hx hl fun D l h' tk e hk hD hge=>?_)
 have hLD:L<D:=Nat.lt_of_lt_of_le F.ns.lt hge
 refine h D l h' tk e (F.keeps hk) (fun p hp=>?_) (fun p hp=>Nat.lt_of_lt_of_le (Heap.lt_size (N p hp).1) hge) hLD
 rcases List.mem_cons.mp hp with rfl | hp
 ·exact⟨hD,Nat.ne_of_gt hLD,Heap.get?_none_of_le (Nat.le_trans F.above (Nat.le_of_lt hLD))⟩
 ·exact⟨hk _ _ (N p hp).1,(N p hp).2⟩
theorem Ro{f kS D:Addr}{e1:Nat}{Fin:List Value→Nat→Shared→Prop}(hlim:h₀.NoLimit)(zq:A.depth<recursionLimit)(X:LamIn news f)(hDk:D≠kS)(hnk:∀ p∈news,p.1≠kS)(l:List (Str × Tok))(hx:∀ p∈l,p.1.length≤1000)
  (fin:∀ kl e (s':Shared),s'.gens=s.gens→s'.os=s.os→s'.drawn=s.drawn→kl.map (fun q=>q.2.map (·.1))=l.map (fun p=>Bv p.1)→(∀ q∈kl,kS<q.1)→Fr h₀ L s'.heap m→News h₀ L s'.heap (Fy kl++(kS,seqObj "list" (kl.map fun q=>.ref q.1).toArray e)::(D,seqObj "list" #[] e1)::news)→Fin (kl.map fun q=>.ref q.1) e s') :
  ∀ (r l1:List (Str × Tok)) (kl:List (Addr × List (Str × Tok))) (e:Nat) (s':Shared),l=l1++r→s'.gens=s.gens→s'.os=s.os→s'.drawn=s.drawn→kl.map (fun q=>q.2.map (·.1))=l1.map (fun p=>Bv p.1)→(∀ q∈kl,kS<q.1)→Fr h₀ L s'.heap m →
   News h₀ L s'.heap (Fy kl++(kS,seqObj "list" (kl.map fun q=>.ref q.1).toArray e)::(D,seqObj "list" #[] e1)::news)→KatKeys prog w A h₀ L m kS (.ref f) Fin (strValues r) (kl.map fun q=>.ref q.1) e s'
 | [],l1,kl,e,s',hl,g1,g2,g3,hk,hlt,F,N=>by
  rw [List.append_nil] at hl;subst hl;exact KatKeys.nil (fin kl e s' g1 g2 g3 hk hlt F N)
 | (x,tx)::r,l1,kl,e,s',hl,g1,g2,g3,hk,hlt,F,N=>by
  refine KatKeys.cons ?_
  have X':LamIn (Fy kl++(kS,seqObj "list" (kl.map fun q=>.ref q.1).toArray e)::(D,seqObj "list" #[] e1)::news) f:=by
   obtain⟨qual,p0,p1,p2,p3,p4,p5,pm,c',ctv,oc,vs,t,hf,r1,hc,r2⟩:=X.ex;exact⟨qual,p0,p1,p2,p3,p4,p5,pm,c',ctv,oc,vs,t,Mr _ (.tail _ (.tail _ hf)),r1,Mr _ (.tail _ (.tail _ hc)),r2⟩
  refine Uq hlim zq F N X' (hx (x,tx) (by rw [hl];simp)) fun D' lk h' tk ek F' N' hltD _=>?_
  have hkD:kS<D':=hltD (kS,_) (Mr _ (.head _))
  have hne:∀ p∈(D',listOf (strValues lk).toArray 0)::Fy kl,p.1≠kS:=fun p hp=>by
   rcases List.mem_cons.mp hp with rfl | hp
   ·exact Nat.ne_of_gt hkD
   ·obtain⟨q,hq,rfl⟩:=List.mem_map.mp hp
    exact Nat.ne_of_gt (hlt q hq)
  have hpost:∀ p∈(D,seqObj "list" #[] e1)::news,p.1≠kS:=fun p hp=>by
   rcases List.mem_cons.mp hp with rfl | hp
   ·exact hDk
   ·exact hnk p hp
  refine KatBack.intro F' N' (Ny (pre:=(D',listOf (strValues lk).toArray 0)::Fy kl) hpost hne) fun h2 c2 F2 N2=>?_
  have e2:(kl.map fun q=>Value.ref q.1)++[Value.ref D']=(kl++[(D',lk)]).map fun q=>Value.ref q.1:=by rw [List.map_append];rfl
  rw [e2] at N2 ⊢
  refine Ro hlim zq X hDk hnk l hx fin r (l1++[(x,tx)]) (kl++[(D',lk)]) c2 _ (by rw [hl,List.append_assoc];rfl) g1 g2 g3 ?_ ?_ F2 ?_
  ·rw [List.map_append,List.map_append,hk];simp [ek]
  ·intro q hq
   rcases List.mem_append.mp hq with hq | hq
   ·exact hlt q hq
   ·rw [List.mem_singleton.mp hq];exact hkD
  ·intro p hp
   refine N2 p ?_
   rcases List.mem_append.mp hp with hp | hp
   ·unfold Fy at hp
    rw [List.map_append] at hp
    rcases List.mem_append.mp hp with hp | hp
    ·exact Ml _ (.tail _ hp)
    ·rw [List.mem_singleton.mp hp];exact Ml _ (.head _)
   ·exact Mr _ hp
noncomputable def Iy(w:World)(A:Around)(s:Shared)(prog:Program)(E:Value→Shared→Prop)(h₀:Heap)(L:Addr)(m:Str→Option Value)(news:List (Addr × Obj))(f D:Addr)(n:Nat)(l:List (Str × Tok))(P:PySem.Fin→Shared→Prop):Prop :=
 ∀ (hlim:h₀.NoLimit) (zq:A.depth<recursionLimit) (hu:A.units<cLine) (F:Fr h₀ L s.heap m) (N:News h₀ L s.heap news) (X:LamIn news f) (ho:s.heap.get? D=some (seqObj "list" (strValues l).toArray n)) (hDL:D≠L) (hD0:h₀.get? D=none) (hnD:∀ p∈news,p.1≠D) (h2:2≤l.length) (h4:l.length≤4) (hx:∀ p∈l,p.1.length≤1000) (h:∀ (out:List (Str × Tok)) c (s':Shared),s'.gens=s.gens→s'.os=s.os→out.map (·.1)=Ax Bf (l.map (·.1))→Fr h₀ L s'.heap m→News h₀ L s'.heap ((D,listOf (strValues out).toArray c)::news)→P (.done (.ret .none)) s'),wpAny (model prog w) A (ksk_tree D (.ref f) false) P E s
theorem Tx:∀ {w A s prog E h₀ L m news f D n l P},Iy w A s prog E h₀ L m news f D n l P:=by
 refine @(Ab (Ao neW)<|@(Dq neI<|let_mvar% ?n:=(fun w A s prog E h₀ L m news f D n l P=>?_:∀ a b c d e f g h i j k l m n,Iy a b c d e f g h i j k l m n);?n _ _ _ _ _ _ _ _ _ _ _ _ _ _))
 intro hlim zq hu F N X ho hDL hD0 hnD h2 h4 hx h
 have hvl:(strValues l).length=l.length:=by simp [strValues]
 refine kat_keyed (vs:=strValues l) F N ho hDL hD0 hnD (by rw [hvl];exact h2) (by rw [hvl];exact(Nt fun hn1=>fk [_] (.e V0 (.k 4) (.e (.k 64) V0 K0)) rfl h4 hn1)) fun kS e1 h' F' N' hlt hltn=>?_
 have hDk:D≠kS:=Nat.ne_of_lt hlt
 have hnk:∀ p∈news,p.1≠kS:=fun p hp=>Nat.ne_of_lt (hltn p hp)
 refine Ro (s:={ s with heap:=h' }) (D:=D) (e1:=e1) hlim zq X hDk hnk l hx (fun kl e s' g1 g2 g3 hk hgt F2 N2=>?_) l [] [] 0 _ rfl rfl rfl rfl rfl (fun _ z=>nomatch z) F' N'
 have hkl:kl.length=l.length:=by have:=congrArg List.length hk;simpa using this
 refine kas_kind (vs:=kl.map fun q=>.ref q.1) (T:=.type "list") (by rw [List.length_map,hkl];exact h2) (fun v hv=>?_) (by decide) (by decide) ?_
 ·obtain⟨q,hq,rfl⟩:=List.mem_map.mp hv
  have hq':=N2 (q.1,listOf (strValues q.2).toArray 0) (Ml _ (List.mem_map_of_mem hq));exact(Looks.ld hq'.1).andThen .now
 rw [hvl];have hlm:(l.map (·.1)).length=l.length:=List.length_map ..;rw [← hlm]
 refine Jl Dt (l:=l.map (·.1)) (I:=fun s''=>s''=s') (by rw [hlm];exact h2) (by rw [hlm];exact h4) (fun i j a b C s'' hi hj hI hC=>?_) rfl fun p s'' hp hout hI=>?_
 ·subst hI
  have get:∀ i a,(l.map (·.1))[i]?=some a→∃ q,q∈kl∧(katRev false (kl.map fun q=>Value.ref q.1)).getD i Value.none=.ref q.1∧q.2.map (·.1)=Bv a:=by
   intro i a hi
   have hil:i<l.length:=by
    rcases Nat.lt_or_ge i l.length with z | z
    ·exact z
    ·rw [List.getElem?_eq_none (by rw [hlm];exact z)] at hi;cases hi
   have hik:i<kl.length:=by exact(Nt fun hn1=>fk [_,_,_] (.e V0 V1 (.e (.s V2) V0 (.e V1 V2 K0))) rfl (Es hkl) hil hn1)
   refine⟨kl[i],List.getElem_mem hik,?_,?_⟩
   ·rw [Pz,List.getD_eq_getElem?_getD,List.getElem?_map,List.getElem?_eq_getElem hik];rfl
   ·have h1:(kl.map (fun q=>q.2.map (·.1)))[i]?=(l.map (fun p=>Bv p.1))[i]?:=by rw [hk]
    rw [List.getElem?_map,List.getElem?_map,List.getElem?_eq_getElem hik,List.getElem?_eq_getElem hil] at h1;rw [List.getElem?_map,List.getElem?_eq_getElem hil] at hi
    simp only [Option.map_some,Option.some.injEq] at h1 hi
    rw [h1,hi]
  obtain⟨q1,m1,e1',k1⟩:=get i a hi;obtain⟨q2,m2,e2',k2⟩:=get j b hj;unfold kas_ask;rw [e1',e2'];refine Xx hu (N2 (q1.1,listOf (strValues q1.2).toArray 0) (Ml _ (List.mem_map_of_mem m1))).1 (N2 (q2.1,listOf (strValues q2.2).toArray 0) (Ml _ (List.mem_map_of_mem m2))).1 ?_;rw [k1,k2];exact hC _ rfl
 ·subst hI
  have hne:∀ p∈Fy kl,p.1≠kS:=fun p hp=>by
   obtain⟨q,hq,rfl⟩:=List.mem_map.mp hp;exact Nat.ne_of_gt (hgt q hq)
  have hpost:∀ p∈(D,seqObj "list" #[] e1)::news,p.1≠kS:=fun p hp=>by
   rcases List.mem_cons.mp hp with rfl | hp
   ·exact hDk
   ·exact hnk p hp
  refine KatFin.intro F2 N2 (Ny hpost hne) fun h3 c3 F3 N3=>?_
  have N3':News h₀ L h3 ((D,seqObj "list" #[] e1)::news):=fun p hp=>N3 p (Mr _ (.tail _ hp))
  refine KasFin.intro F3 N3' (.head hnD) fun h5 c5 F5 N5=>?_
  have hin:∀ i∈p.toList,i<l.length:=fun i hi=>by
   have:=hp.mem_iff.mp hi;rw [hlm] at this;exact List.mem_range.mp this
  have ev:(p.toList.map fun i=>(strValues l).getD i .none)=strValues (p.toList.filterMap fun i=>l[i]?):=Jz l (fun p=>.str p.1 p.2) p.toList hin
  have N5':News h₀ L h5 ((D,listOf (strValues (p.toList.filterMap fun i=>l[i]?)).toArray c5)::news):=by
   rw [← ev];exact N5
  obtain⟨o1,o2⟩:=hout _ rfl
  refine h (p.toList.filterMap fun i=>l[i]?) c5 { s'' with heap:=h5 } g1 g2 ?_ F5 N5'
  rw [Mb];exact Iw Dt o1 o2
end
end Mine
namespace Mine
open PySem.Calls
section
variable{prog:Program}{w:World}{A:Around}{E:Value→Shared→Prop}{s:Shared}{h₀:Heap}{L:Addr}{m:Str→Option Value}{news:List (Addr × Obj)}
theorem So{σ:Type}{M:Model}{st:σ}{P:Unit × σ→Shared→Prop}(h:P ((),st) s):wpAny M A ((pure ():StateT σ Sem Unit).run st) P E s:=by
 rw [StateT.run_pure];exact Wp h
noncomputable def Km(w:World)(A:Around)(s:Shared)(prog:Program)(E:Value→Shared→Prop)(h₀:Heap)(L:Addr)(m:Str→Option Value)(news:List (Addr × Obj))(f D:Addr)(n:Nat)(x:Str)(tx:Tok)(P:PySem.Fin→Shared→Prop):Prop :=
 ∀ (hlim:h₀.NoLimit) (zq:A.depth<recursionLimit) (F:Fr h₀ L s.heap m) (N:News h₀ L s.heap news) (X:LamIn news f) (ho:s.heap.get? D=some (seqObj "list" #[.str x tx] n)) (hDL:D≠L) (hD0:h₀.get? D=none) (hnD:∀ p∈news,p.1≠D) (hx:x.length≤1000) (h:∀ c (s':Shared),s'.gens=s.gens→s'.os=s.os→Fr h₀ L s'.heap m→News h₀ L s'.heap ((D,listOf #[.str x tx] c)::news)→P (.done (.ret .none)) s'),wpAny (model prog w) A (ksk_tree D (.ref f) false) P E s
theorem Vu:∀ {w A s prog E h₀ L m news f D n x tx P},Km w A s prog E h₀ L m news f D n x tx P:=by
 refine @(Ab (Ao neW)<|@(Eu neI<|let_mvar% ?n:=(fun w A s prog E h₀ L m news f D n x tx P=>?_:∀ a b c d e f g h i j k l m n o,Km a b c d e f g h i j k l m n o);?n _ _ _ _ _ _ _ _ _ _ _ _ _ _ _))
 intro hlim zq F N X ho hDL hD0 hnD hx h
 have s1:=Heap.SameBut.update s.heap D (Obj.mapSeq fun _=>(#[]:Array Value))
 obtain⟨e1,ho1⟩:∃ e1,(s.heap.update D (Obj.mapSeq fun _=>(#[]:Array Value))).get? D=some (seqObj "list" #[] e1):=⟨_,get?_update_seq ho fun _=>#[]⟩
 have F1:=kas_fr F s1 hDL hD0;have N1:=kas_news N s1 hnD;unfold ksk_tree;refine Wb (listItems_at ho rfl ?_)
 refine Wb (listUpdate_at ho rfl ?_ (by simp;rw [sizeLine_eq];exact(Nl fun hn1=>fk [] (.e (.s (.k 16777216)) K1 K0) rfl hn1)) (Nat.zero_le _))
 refine Wb (seqEpoch_at ho1 rfl ?_)
 refine Wb (wpAny_newTuple ?_ (by simp;rw [sizeLine_eq];exact(Nl fun hn1=>fk [] (.e (.s (.k 16777216)) K1 K0) rfl hn1)))
 refine Wb (wpAny_newList ?_ (Nat.zero_le _));refine wpAny_holding ?_;unfold ksk_rest;refine Wb (wpAny_rule ?_);rw [show (#[.str x tx]:Array Value)=[.str x tx].toArray from rfl,List.forIn_toArray,List.forIn_cons];have F2:=(F1.push (o:=(seqObj "tuple" [.str x tx].toArray 0))).push (o:=(seqObj "list" #[] 0))
 generalize hkS:((s.heap.update D (Obj.mapSeq fun _=>(#[]:Array Value))).push (seqObj "tuple" [.str x tx].toArray 0)).objs.size=kS
 have hkge:s.heap.objs.size≤kS:=by rw [← hkS,size_push',Heap.size_update];exact Nat.le_succ _
 have hDk:D≠kS:=Nat.ne_of_lt (Nat.lt_of_lt_of_le (Heap.lt_size ho) hkge);have hLk:L<kS:=Nat.lt_of_lt_of_le F.ns.lt hkge
 have hnk:∀ p∈news,p.1≠kS:=fun p hp=>Nat.ne_of_lt (Nat.lt_of_lt_of_le (Heap.lt_size (N p hp).1) hkge)
 have hk0:h₀.get? kS=none:=Heap.get?_none_of_le (Nat.le_trans F.above (Nat.le_of_lt hLk))
 have hk2:(((s.heap.update D (Obj.mapSeq fun _=>(#[]:Array Value))).push (seqObj "tuple" [.str x tx].toArray 0)).push (seqObj "list" #[] 0)).get? kS=some (seqObj "list" #[] 0):=by rw [← hkS];exact Heap.get?_push_size _ rfl
 have N2:News h₀ L (((s.heap.update D (Obj.mapSeq fun _=>(#[]:Array Value))).push (seqObj "tuple" [.str x tx].toArray 0)).push (seqObj "list" #[] 0)) ((kS,seqObj "list" #[] 0)::(D,seqObj "list" #[] e1)::news):=fun p hp=>by
  rcases List.mem_cons.mp hp with rfl | hp
  ·exact⟨hk2,Nat.ne_of_gt hLk,hk0⟩
  ·rcases List.mem_cons.mp hp with rfl | hp
   ·exact⟨Heap.get?_push_of_some _ (Heap.get?_push_of_some _ ho1),hDL,hD0⟩
   ·exact⟨Heap.get?_push_of_some _ (Heap.get?_push_of_some _ (N1 p hp).1),(N1 p hp).2⟩
 have X2:LamIn ((kS,seqObj "list" #[] 0)::(D,seqObj "list" #[] e1)::news) f:=by
  obtain⟨qual,p0,p1,p2,p3,p4,p5,pm,c',ctv,oc,vs,t,hf,r1,hc,r2⟩:=X.ex;exact⟨qual,p0,p1,p2,p3,p4,p5,pm,c',ctv,oc,vs,t,(.tail _ (.tail _ hf)),r1,(.tail _ (.tail _ hc)),r2⟩
 refine Wb (Wb (Wb (wpAny_attempt (Uq (E:=fun e s'=>_) hlim zq F2 N2 X2 hx fun D' lk h' tk ek F' N' hltD hLD=>?_))))
 have nk:=N' (kS,seqObj "list" #[] 0) (.tail _ (.head _));have s3:=Heap.SameBut.update h' kS (Obj.mapSeq (·.push (.ref D')));obtain⟨c2,hc2⟩:∃ c2,(h'.update kS (Obj.mapSeq (·.push (.ref D')))).get? kS=some (seqObj "list" #[.ref D'] c2):=⟨_,get?_update_seq nk.1 (·.push (.ref D'))⟩;dsimp only
 refine Wb (listUpdate_at nk.1 rfl ?_ (Nat.zero_le _) (by simp))
 refine Wp ?_;dsimp only;rw [List.forIn_nil];refine Wp ?_;refine Wb (listItems_at hc2 rfl ?_);unfold ksk_end;dsimp only;rw [if_neg Bool.false_ne_true];rw [if_pos (show ([Value.str x tx].toArray).size<2 from Nat.lt_succ_self 1)];refine Wb (Wp ?_);rw [if_pos (show ([Value.str x tx].toArray).size<2 from Nat.lt_succ_self 1)];refine Wb (So ?_);dsimp only;unfold ksk_tail;dsimp only
 simp only [Bool.false_eq_true,if_false]
 have hz:(arrOf (SortSt.mk' general' (#[.ref D'].zip [.str x tx].toArray) #[] 7 none)).map (·.2)=#[.str x tx]:=by
  show (#[Value.ref D'].zip [Value.str x tx].toArray).map (·.2)=#[Value.str x tx]
  simp
 rw [hz]
 have s4:=Heap.SameBut.update (h'.update kS (Obj.mapSeq (·.push (.ref D')))) kS (Obj.mapSeq fun _=>(#[]:Array Value))
 refine Wb (listUpdate_at hc2 rfl ?_ (by simp;rw [sizeLine_eq];exact(Nl fun hn1=>fk [] (.e (.s (.k 16777216)) K1 K0) rfl hn1)) (Nat.zero_le _))
 refine Wb (wpAny_letGo ?_)
 have nD:((h'.update kS (Obj.mapSeq (·.push (.ref D')))).update kS (Obj.mapSeq fun _=>(#[]:Array Value))).get? D=some (seqObj "list" #[] e1) :=
  (s4.2 _ hDk).trans ((s3.2 _ hDk).trans (N' (D,seqObj "list" #[] e1) (.tail _ (.tail _ (.head _)))).1)
 refine Wb (seqEpoch_at nD rfl ?_)
 have s5:=Heap.SameBut.update ((h'.update kS (Obj.mapSeq (·.push (.ref D')))).update kS (Obj.mapSeq fun _=>(#[]:Array Value))) D (Obj.mapSeq fun _=>(#[.str x tx]:Array Value))
 obtain⟨c5,hc5⟩:∃ c5,(((h'.update kS (Obj.mapSeq (·.push (.ref D')))).update kS (Obj.mapSeq fun _=>(#[]:Array Value))).update D (Obj.mapSeq fun _=>(#[.str x tx]:Array Value))).get? D=some (listOf #[.str x tx] c5):=⟨_,get?_update_seq nD fun _=>#[.str x tx]⟩
 refine Wb (listUpdate_at nD rfl ?_ (Nat.zero_le _) (show (1:Nat)≤sizeLine+1 from Nat.le_add_left 1 _))
 simp only [bne_self_eq_false,Bool.false_eq_true,if_false]
 refine Wp ?_
 refine h c5 _ rfl rfl (kas_fr (kas_fr (kas_fr F' s3 (Nat.ne_of_gt hLk) hk0) s4 (Nat.ne_of_gt hLk) hk0) s5 hDL hD0) fun p hp=>?_
 rcases List.mem_cons.mp hp with rfl | hp
 ·exact⟨hc5,hDL,hD0⟩
 ·exact⟨(s5.2 _ (hnD p hp)).trans ((s4.2 _ (hnk p hp)).trans ((s3.2 _ (hnk p hp)).trans (N' p (.tail _ (.tail _ (.tail _ hp)))).1)),(N p hp).2⟩
noncomputable def Jk(w:World)(A:Around)(s:Shared)(prog:Program)(E:Value→Shared→Prop)(h₀:Heap)(L:Addr)(m:Str→Option Value)(news:List (Addr × Obj))(f a:Addr)(oS:Obj)(ks:List Str)(Q:Value→Shared→Prop):Prop :=
 ∀ (hh:A.handled=none) (hlim:h₀.NoLimit) (zq:A.depth<recursionLimit) (hu:A.units+2<cLine) (F:Fr h₀ L s.heap m) (N:News h₀ L s.heap news) (X:LamIn news f) (hm:(a,oS)∈news) (hT:Er prog w oS ks) (h1:1≤ks.length) (h4:ks.length≤4) (hx:∀ k∈ks,k.length≤1000) (h:∀ (D:Addr) (out:List (Str × Tok)) c (s':Shared),s'.gens=s.gens→s'.os=s.os→out.map (·.1)=Ax Bf ks→(∀ p∈news,p.1<D)→Fr h₀ L s'.heap m→News h₀ L s'.heap ((D,listOf (strValues out).toArray c)::news)→Q (.ref D) s'),wpAny (model prog w) A (call (.builtin "sorted") [.ref a] [("key",.ref f)]) Q E s
theorem Ui:∀ {w A s prog E h₀ L m news f a oS ks Q},Jk w A s prog E h₀ L m news f a oS ks Q:=by
 refine @(Ab (Ao neW)<|@(Dq neI<|let_mvar% ?n:=(fun w A s prog E h₀ L m news f a oS ks Q=>?_:∀ a b c d e f g h i j k l m n,Jk a b c d e f g h i j k l m n);?n _ _ _ _ _ _ _ _ _ _ _ _ _ _))
 intro hh hlim zq hu F N X hm hT h1 h4 hx h
 have hne:ks≠[]:=fun e=>by rw [e] at h1;simp at h1
 have hcS:oS.cls=.type "set":=by obtain⟨_,_,_,_,he,_⟩:=hT;exact he.1
 refine call_function_entry_kw kind_sorted plain_sorted entry_sorted (ksk_s1 _ _) ?_
 unfold Builtin.«sorted»;refine Wb (m:=checkCount "sorted" 1 1 _) (Wp ?_)
 refine Wb (Qx (A:=A.in1) hh (N _ hm).1 hcS hT hne (by exact(Nt fun hn1=>fk [_] (.e V0 (.k 4) (.e (.k 60) V0 K0)) rfl h4 hn1)) fun l h' d tk hp hk=>?_)
 have hll:l.length=ks.length:=by rw [← List.length_map (f:=(·.1)),hp.length_eq]
 refine Wb (wpAny_newList ?_ (by simp [strValues];rw [sizeLine_eq];exact(Nl fun hn1=>fk [_,_] (.e V0 (.k 4) (.e V1 V0 (.e (.s (.k 16777216)) V1 K0))) rfl h4 (El hll) hn1)))
 have F1:Fr h₀ L (h'.push (seqObj "list" (strValues l).toArray 0)) m:=(F.keeps hk).push _;have hLD:L<h'.objs.size:=(F.keeps hk).ns.lt;have hD0:h₀.get? h'.objs.size=none:=Heap.get?_none_of_le (Nat.le_trans F.above (Nat.le_of_lt hLD))
 have hnD:∀ p∈news,p.1<h'.objs.size:=fun p hp=>Heap.lt_size (hk _ _ (N p hp).1)
 have N1:News h₀ L (h'.push (seqObj "list" (strValues l).toArray 0)) news:=fun p hp=>⟨Heap.get?_push_of_some _ (hk _ _ (N p hp).1),(N p hp).2⟩
 have hoD:(h'.push (seqObj "list" (strValues l).toArray 0)).get? h'.objs.size=some (seqObj "list" (strValues l).toArray 0):=Heap.get?_push_size _ rfl
 have hxl:∀ p∈l,p.1.length≤1000:=fun p hp'=>hx _ (hp.mem_iff.mp (List.mem_map_of_mem hp'))
 refine Wb (wpAny_holding (wpAny_call_entry_kw slot_list_sort ⟨_,hoD,rfl⟩ entry_list_sort ?body (ksk_l1 _ _)))
 show wpAny (model prog w) A.in1.in1 (Builtin.«list.sort» ⟨[.ref h'.objs.size],[("key",.ref f)]⟩) _ _ { s with heap:=h'.push (seqObj "list" (strValues l).toArray 0),drawn:=d,toks:=tk }
 rw [ksk_t1];have hsort:Ax Bf (l.map (·.1))=Ax Bf ks:=Iw Dt ((An _ _).trans hp) (Ej Dt _)
 rcases l with _ | ⟨⟨x,tx⟩,_ | ⟨p2,r⟩⟩
 ·rw [List.length_nil] at hll;lia
 ·
  refine Vu (s:={ s with heap:=h'.push (seqObj "list" (strValues [(x,tx)]).toArray 0),drawn:=d,toks:=tk }) hlim zq F1 N1 X hoD (Nat.ne_of_gt hLD) hD0 (fun p hp=>Nat.ne_of_lt (hnD p hp)) (hxl (x,tx) (.head _)) fun c s' g1 g2 F2 N2=>⟨_,rfl,Wp ⟨_,rfl,?_⟩⟩
  exact h _ [(x,tx)] c s' g1 g2 (by rw [← hsort];rfl) hnD F2 N2
 ·
  refine Tx (s:={ s with heap:=h'.push (seqObj "list" (strValues ((x,tx)::p2::r)).toArray 0),drawn:=d,toks:=tk }) (l:=(x,tx)::p2::r) hlim zq (by show A.units+1+1<cLine;exact(Nt fun hn1=>fk [_,_] (.e (.a (.a V0 (.k 2)) K1) V1 (.e V1 (.a (.s V0) K1) K0)) rfl hu hn1)) F1 N1 X hoD (Nat.ne_of_gt hLD) hD0 (fun p hp=>Nat.ne_of_lt (hnD p hp)) (by simp) (by rw [hll];exact h4) hxl fun out c s' g1 g2 ho F2 N2=>⟨_,rfl,Wp ⟨_,rfl,?_⟩⟩
  exact h _ out c s' g1 g2 (by rw [← hsort];exact ho) hnD F2 N2
end
end Mine
namespace Mine
open PySem.Calls
def Ap(news:List (Addr × Obj))(v:Value)(q:Pr):Prop:=∃ a t1 t2,v=.ref a∧(a,Ae #[.str q.1 t1,.str q.2 t2])∈news
theorem Ap.mono{news news':List (Addr × Obj)}(hs:∀ p∈news,p∈news'){v:Value}{q:Pr}(x:Ap news v q):Ap news' v q:=let ⟨a,t1,t2,e,hm⟩:=x;⟨a,t1,t2,e,hs _ hm⟩
theorem All2.get{α β:Type}{P:α→β→Prop}{l:List α}{r:List β}(h:All2 P l r):∀ {i:Nat} {b:β},r[i]?=some b→∃ a,l[i]?=some a∧P a b:=by
 induction h with
 | nil=>intro i b hb;simp at hb
 | cons x _ ih =>
  intro i b hb
  cases i with
  | zero=>simp only [List.getElem?_cons_zero,Option.some.injEq] at hb ⊢;exact⟨_,rfl,hb ▸ x⟩
  | succ i=>simp only [List.getElem?_cons_succ] at hb ⊢;exact ih hb
theorem All2.pick{α β:Type}{P:α→β→Prop}{l:List α}{r:List β}(h:All2 P l r):∀ p:List Nat,(∀ i∈p,i<r.length)→All2 P (p.filterMap fun i=>l[i]?) (p.filterMap fun i=>r[i]?)
 | [],_=>.nil
 | i::p,hp=>by
  have hi:=hp i (.head _);obtain⟨a,ea,pa⟩:=h.get (List.getElem?_eq_getElem hi);rw [List.filterMap_cons,List.filterMap_cons,ea,List.getElem?_eq_getElem hi]
  exact .cons pa (All2.pick h p fun j hj=>hp j (.tail _ hj))
section
variable{prog:Program}{w:World}{A:Around}{E:Value→Shared→Prop}{s:Shared}{h₀:Heap}{L:Addr}{m:Str→Option Value}{news:List (Addr × Obj)}
theorem Mo{h:Heap}:∀ {vs:List Value} {qs:List Pr},All2 (Ap news) vs qs→(∀ p∈news,h.get? p.1=some p.2)→∃ fs:List Value,KatTups h vs fs∧fs.length=vs.length∧∀ v∈fs,∃ x t,v=.str x t
 | _,_,.nil,_=>⟨[],.nil,rfl,fun _ z=>nomatch z⟩
 | _,_,.cons (b:=q) hx r,hn=>by
  obtain⟨a,t1,t2,e,hm⟩:=hx;obtain⟨fs,k,hl,hf⟩:=Mo r hn;subst e
  refine⟨.str q.1 t1::fs,.cons (hn _ hm) rfl rfl rfl k,by simp [hl],fun v hv=>?_⟩
  rcases List.mem_cons.mp hv with rfl | hv
  ·exact⟨_,_,rfl⟩
  ·exact hf v hv
noncomputable def Mu(w:World)(A:Around)(s:Shared)(prog:Program)(E:Value→Shared→Prop)(news:List (Addr × Obj))(v1 v2:Value)(q1 q2:Pr)(Q:Bool→Shared→Prop):Prop :=
 ∀ (N:∀ p∈news,s.heap.get? p.1=some p.2) (h1:Ap news v1 q1) (h2:Ap news v2 q2) (h:Q (Cc q1 q2) s),wpAny (model prog w) A (keyLt' (tuples' true) v1 v2) Q E s
theorem Xy:∀ {a b c d e f g h i j k},Mu a b c d e f g h i j k:=by
 refine @(Ab (Ao neW)<|@(Ec neI<|let_mvar% ?n:=(fun w A s prog E news v1 v2 q1 q2 Q=>?_:∀ a b c d e f g h i j k,Mu a b c d e f g h i j k);?n _ _ _ _ _ _ _ _ _ _ _))
 intro N h1 h2 h;obtain⟨a,t1,t2,rfl,m1⟩:=h1;obtain⟨b,u1,u2,rfl,m2⟩:=h2;refine kat_lt (N _ m1) rfl (N _ m2) rfl ?_;unfold Cc lexLt at h;refine kat_cons (wpAny_eqBool_str ?_)
 by_cases e1:q1.1=q2.1
 ·rw [if_pos e1] at h
  rw [decide_eq_true e1];refine kat_yes (kat_cons (wpAny_eqBool_str ?_));unfold lexLt at h
  by_cases e2:q1.2=q2.2
  ·rw [if_pos e2] at h
   rw [decide_eq_true e2];refine kat_yes (kat_nil ?_);exact h
  ·rw [if_neg e2] at h
   rw [decide_eq_false e2];refine kat_no ?_;exact kat_one _ _ (lt_str h)
 ·rw [if_neg e1] at h
  rw [decide_eq_false e1];refine kat_no ?_;exact oneLt_str h
noncomputable def Ks(w:World)(A:Around)(s:Shared)(prog:Program)(h₀:Heap)(L:Addr)(m:Str→Option Value)(news:List (Addr × Obj))(D:Addr)(e1:Nat)(vs:List Value)(qs:List Pr)(C:Shared→Prop):Prop :=
 ∀ (F:Fr h₀ L s.heap m) (N:News h₀ L s.heap ((D,seqObj "list" #[] e1)::news)) (hnD:∀ p∈news,p.1≠D) (hp:All2 (Ap news) vs qs) (h2:2≤vs.length) (h4:vs.length≤4) (h:∀ out c h',All2 (Ap news) out (Ax Cc qs)→Fr h₀ L h' m→News h₀ L h' ((D,listOf (List.toArray out) c)::news)→C { s with heap:=h' }),wpAny (model prog w) A (keyKind' vs.toArray) (fun κ s'=>(kas_sort vs.length).kasWp (kas_ask prog w A κ vs) (fun p s''=>KasFin h₀ L m D e1 (p.toList.map fun i=>vs.getD i .none) C s'') s') (fun _ _=>False) s
theorem Wk:∀ {a b c d e f g h i j k l m},Ks a b c d e f g h i j k l m:=by
 refine @(Ab (Ao neW)<|@(Et neI<|let_mvar% ?n:=(fun w A s prog h₀ L m news D e1 vs qs C=>?_:∀ a b c d e f g h i j k l m,Ks a b c d e f g h i j k l m);?n _ _ _ _ _ _ _ _ _ _ _ _ _))
 intro F N hnD hp h2 h4 h
 have hn:∀ p∈news,s.heap.get? p.1=some p.2:=fun p hp=>(N p (.tail _ hp)).1
 obtain⟨fs,k,hl,hf⟩:=Mo hp hn
 refine kat_kind k (by exact(Nt fun hn1=>fk [_,_] (.e (.k 2) V0 (.e V0 V1 (.e V1 K0 K0))) rfl h2 (Es hl) hn1)) (T:=.type "str") (fun v hv=>?_) (by decide) ?_
 ·obtain⟨x,t,rfl⟩:=hf v hv
  exact .now
 have hql:qs.length=vs.length:=hp.length.symm;rw [← hql]
 refine Jl Mw (l:=qs) (I:=fun s''=>s''=s) (by exact(Nl fun hn1=>fk [_,_] (.e (.k 2) V0 (.e V0 V1 (.e (.s V1) (.k 2) K0))) rfl h2 (Es hql) hn1)) (by exact(Nl fun hn1=>fk [_,_] (.e V0 (.k 4) (.e V1 V0 (.e (.s (.k 4)) V1 K0))) rfl h4 (El hql) hn1)) (fun i j a b C' s'' hi hj hI hC=>?_) rfl fun p s'' hpp hout hI=>?_
 ·subst hI
  obtain⟨v1,ev1,p1⟩:=hp.get hi;obtain⟨v2,ev2,p2⟩:=hp.get hj;unfold kas_ask;rw [List.getD_eq_getElem?_getD,List.getD_eq_getElem?_getD,ev1,ev2];exact Xy hn p1 p2 (hC _ rfl)
 ·subst hI
  have hin:∀ i∈p.toList,i<qs.length:=fun i hi=>List.mem_range.mp (hpp.mem_iff.mp hi)
  have ev:=Jz vs id p.toList fun i hi=>hql ▸ hin i hi
  rw [List.map_id,List.map_id] at ev
  refine KasFin.intro F N (.head hnD) fun h5 c5 F5 N5=>?_
  rw [ev] at N5;obtain⟨o1,o2⟩:=hout _ rfl;refine h _ c5 h5 ?_ F5 N5;rw [← Iw Mw o1 o2];exact hp.pick p.toList hin
end
end Mine
namespace Mine
open PySem.Calls
theorem Rl{α:Type}(lt:α→α→Bool){l:List α}(h:l.length<2):Ax lt l=l:=by
 cases l with
 | nil=>rfl
 | cons a l =>
  cases l with
  | nil=>rfl
  | cons b l=>exact absurd h (Nat.not_lt.mpr (Nat.le_add_left 2 l.length))
section
variable{prog:Program}{w:World}{A:Around}{E:Value→Shared→Prop}{s:Shared}{h₀:Heap}{L:Addr}{m:Str→Option Value}{news:List (Addr × Obj)}
noncomputable def Hp(w:World)(A:Around)(s:Shared)(prog:Program)(E:Value→Shared→Prop)(h₀:Heap)(L:Addr)(m:Str→Option Value)(news:List (Addr × Obj))(D:Addr)(n:Nat)(vs:List Value)(qs:List Pr)(P:PySem.Fin→Shared→Prop):Prop :=
 ∀ (F:Fr h₀ L s.heap m) (N:News h₀ L s.heap ((D,listOf vs.toArray n)::news)) (hnD:∀ p∈news,p.1≠D) (hp:All2 (Ap news) vs qs) (h4:vs.length≤4) (h:∀ out c h',All2 (Ap news) out (Ax Cc qs)→Fr h₀ L h' m→News h₀ L h' ((D,listOf (List.toArray out) c)::news)→P (.done (.ret .none)) { s with heap:=h' }),wpAny (model prog w) A (Builtin.«list.sort» ⟨[.ref D],[]⟩) P E s
theorem Ko:∀ {w A s prog E h₀ L m news D n vs qs P},Hp w A s prog E h₀ L m news D n vs qs P:=by
 refine @(Ab (Ao neW)<|@(Dq neI<|let_mvar% ?n:=(fun w A s prog E h₀ L m news D n vs qs P=>?_:∀ a b c d e f g h i j k l m n,Hp a b c d e f g h i j k l m n);?n _ _ _ _ _ _ _ _ _ _ _ _ _ _))
 intro F N hnD hp h4 h;have nD:=N (D,listOf vs.toArray n) (.head _)
 have Nr:News h₀ L s.heap news:=fun p hp=>N p (.tail _ hp)
 by_cases h2:vs.length<2
 ·have hql:qs.length<2:=by rw [← hp.length];exact h2
  have s1:=Heap.SameBut.update s.heap D (Obj.mapSeq fun _=>(#[]:Array Value))
  obtain⟨e1,ho1⟩:∃ e1,(s.heap.update D (Obj.mapSeq fun _=>(#[]:Array Value))).get? D=some (seqObj "list" #[] e1):=⟨_,get?_update_seq nD.1 fun _=>#[]⟩
  have F1:=kas_fr F s1 nD.2.1 nD.2.2;have N1:=kas_news Nr s1 hnD;rw [list_sort_plain];refine Wb (listItems_at nD.1 rfl ?_)
  refine Wb (listUpdate_at nD.1 rfl ?_ (by rw [List.size_toArray,sizeLine_eq];exact(Nl fun hn1=>fk [_] (.e (.s V0) (.k 2) (.e (.s (.k 16777216)) V0 K0)) rfl h2 hn1)) (Nat.zero_le _))
  refine Wb (seqEpoch_at ho1 rfl ?_)
  refine Wb (wpAny_newTuple ?_ (by show vs.length≤_;rw [sizeLine_eq];exact(Nl fun hn1=>fk [_] (.e (.s V0) (.k 2) (.e (.s (.k 16777216)) V0 K0)) rfl h2 hn1)))
  refine Wb (wpAny_newList ?_ (Nat.zero_le _));refine wpAny_holding ?_;dsimp only
  have h2':vs.toArray.size<2:=by rw [List.size_toArray];exact h2
  rw [if_pos h2',if_pos h2'];refine Wb (Wp ?_);refine Wb (So ?_);dsimp only
  have hz:(arrOf (SortSt.mk' general' (vs.toArray.zip vs.toArray) #[] 7 none)).map (·.2)=vs.toArray:=by
   show (vs.toArray.zip vs.toArray).map (·.2)=vs.toArray
   apply Array.toList_inj.mp
   rw [Array.toList_map,ksk_zip]
   show (vs.zip vs).map (·.2)=vs
   rw [List.map_snd_zip (Nat.le_refl _)]
  rw [hz];have ho6:=Heap.get?_push_of_some (seqObj "list" #[] 0) (Heap.get?_push_of_some (seqObj "tuple" vs.toArray 0) ho1);refine Wb (seqEpoch_at ho6 rfl ?_)
  have s5:=Heap.SameBut.update (((s.heap.update D (Obj.mapSeq fun _=>(#[]:Array Value))).push (seqObj "tuple" vs.toArray 0)).push (seqObj "list" #[] 0)) D (Obj.mapSeq fun _=>vs.toArray)
  obtain⟨c5,hc5⟩:∃ c5,((((s.heap.update D (Obj.mapSeq fun _=>(#[]:Array Value))).push (seqObj "tuple" vs.toArray 0)).push (seqObj "list" #[] 0)).update D (Obj.mapSeq fun _=>vs.toArray)).get? D=some (listOf vs.toArray c5):=⟨_,get?_update_seq ho6 fun _=>vs.toArray⟩
  refine Wb (listUpdate_at ho6 rfl ?_ (Nat.zero_le _) (by rw [List.size_toArray,sizeLine_eq];exact(Nl fun hn1=>fk [_] (.e (.s V0) (.k 2) (.e (.a (.s (.k 16777216)) K1) V0 K0)) rfl h2 hn1)))
  simp only [bne_self_eq_false,Bool.false_eq_true,if_false]
  refine Wp ?_
  refine h vs c5 _ (by rw [Rl _ hql];exact hp) (kas_fr ((F1.push _).push _) s5 nD.2.1 nD.2.2) fun p hp=>?_
  rcases List.mem_cons.mp hp with rfl | hp
  ·exact⟨hc5,nD.2⟩
  ·exact⟨(s5.2 _ (hnD p hp)).trans (Heap.get?_push_of_some _ (Heap.get?_push_of_some _ (N1 p hp).1)),(N1 p hp).2⟩
 ·refine kat_list_sort (vs:=vs) (news:=news) F Nr nD.1 nD.2.1 nD.2.2 hnD (by exact(Nat.le_of_not_lt h2)) (by exact(Nt fun hn1=>fk [_] (.e V0 (.k 4) (.e (.k 64) V0 K0)) rfl h4 hn1)) fun e1 h' F' N'=>?_
  exact Wk F' N' hnD hp (by exact(Nat.le_of_not_lt h2)) h4 fun out c h'' ho F2 N2=>h out c h'' ho F2 N2
theorem Tl{D:Addr}{n:Nat}{vs:List Value}{qs:List Pr}{Q:Value→Shared→Prop}(F:Fr h₀ L s.heap m)(N:News h₀ L s.heap ((D,listOf vs.toArray n)::news))(hnD:∀ p∈news,p.1≠D)(hp:All2 (Ap news) vs qs)(h4:vs.length≤4)
  (h:∀ out c h',All2 (Ap news) out (Ax Cc qs)→Fr h₀ L h' m→News h₀ L h' ((D,listOf (List.toArray out) c)::news)→Q .none { s with heap:=h' }) :
  wpAny (model prog w) A (call (.builtin "list.sort") [.ref D]) Q E s:=by
 refine wpAny_call_entry slot_list_sort ⟨_,(N _ (.head _)).1,rfl⟩ entry_list_sort (Ko F N hnD hp h4 fun out c h' ho F' N'=>⟨_,rfl,h out c h' ho F' N'⟩) (args_list_sort _)
theorem Tw{S v d:Addr}{l:List ((Str × Tok) × (Str × Tok))}{n c₀:Nat}{R:Result→Shared→Prop}(hh:A.handled=none)(hv:s.heap.get? v=some { cls:=.type "dict_items",data:=.fields #[.ref d] })(hd:s.heap.get? d=some (dictOf (Bg w.params l) n))(hn:(l.map (·.1.1)).Nodup)(hz:l.length≤60)
  (hSv:S≠v) (hSd:d≠S) (hS:s.heap.get? S=some { cls:=.type "list",data:=.seq #[] c₀ })
  (h:∀ tl h' tk c,All2 Oh tl l→(tl.map (·.1)).Pairwise (·<·)→(∀ q∈tl,s.heap.objs.size<q.1∧h'.get? q.1=some q.2)→(∀ b o,b≠S→s.heap.get? b=some o→h'.get? b=some o)→h'.get? S=some (listOf (tl.map fun q=>.ref q.1).toArray c)→R (.ok (.ret (.ref S))) { s with heap:=h',toks:=tk }) :
  codeAny (model prog w) A (.builtin "list.__iadd__" ⟨[.ref S,.ref v],[]⟩) R s:=by
 obtain⟨ep,hat⟩:=KdkAt.of (Jm (prog:=prog) (w:=w) (n:=n) hn);refine codeAny_builtin entry_list_iadd' ?_
 show wpAny _ A.in1 (Builtin.List.listExtendWith (.ref S) (.ref v) (.ref S)) _ _ s
 refine kdx_extend (knd:=strKind prog w) (kvs:=Ff l) (ep:=ep) hh ⟨_,hv,rfl,rfl⟩ (hat.dictAt hd) S hSv hSd _ c₀ hS (fun h' tk acc c as hk hS hl hG hacc=>?_) (by rw [List.length_map,sizeLine_eq];exact(Nl fun hn1=>fk [_] (.e V0 (.k 60) (.e (.s (.k 16777216)) V0 K0)) rfl hz hn1))
 obtain⟨tl,rfl,f2,f3⟩:=tl_of (h:=h') as l (by rw [hl,List.length_map]) hG.pairs
 have ea:acc=(tl.map fun q=>.ref q.1).toArray:=by rw [← Array.toArray_toList (xs:=acc),hacc,List.map_map];rfl
 subst ea
 exact h tl h' tk c f2 hG.rise (fun q hq=>⟨hG.above _ (List.mem_map_of_mem hq),f3 q hq⟩) hk hS
theorem Oa{v d:Addr}{l:List ((Str × Tok) × (Str × Tok))}{n:Nat}{Q:List Value→Shared→Prop}(hh:A.handled=none)(hv:s.heap.get? v=some { cls:=.type "dict_items",data:=.fields #[.ref d] })(hd:s.heap.get? d=some (dictOf (Bg w.params l) n))(hn:(l.map (·.1.1)).Nodup)(hz:l.length≤60)
  (h:∀ tl h' tk,All2 Oh tl l→(tl.map (·.1)).Pairwise (·<·)→(∀ q∈tl,s.heap.objs.size<q.1∧h'.get? q.1=some q.2)→(∀ b o,s.heap.get? b=some o→h'.get? b=some o)→Q (tl.map fun q=>.ref q.1) { s with heap:=h',toks:=tk }) :
  wpAny (model prog w) A (collect (.ref v)) Q E s:=by
 unfold collect;refine Wb (wpAny_runValue (codeAny_builtin entry_proto_collect' ?_))
 show wpAny _ _ (do again (.builtin "list.__iadd__" ⟨[← newList [],.ref v],[]⟩)) _ _ s
 refine Wb (wpAny_newList (Wp ⟨Code.quiet_builtin _ (by decide +kernel),?_⟩))
 refine Tw (s:={ s with heap:=s.heap.push (seqObj "list" #[] 0) }) hh (Heap.get?_push_of_some _ hv) (Heap.get?_push_of_some _ hd) hn hz (Nat.ne_of_gt (Heap.lt_size hv)) (Nat.ne_of_lt (Heap.lt_size hd)) (Heap.get?_push_size _ rfl) fun tl h' tk c f2 h2 h3 hk hS=>?_
 dsimp only;refine Wb (wpAny_load hS ?_)
 show wpAny _ _ (pure (tl.map fun q=>.ref q.1).toArray.toList) Q E _
 refine Wp (h tl h' tk f2 h2 (fun q hq=>⟨?_,(h3 q hq).2⟩) fun b o e=>hk b o (Nat.ne_of_lt (Heap.lt_size e)) (Heap.get?_push_of_some _ e))
 have:=(h3 q hq).1;have z:(s.heap.push (seqObj "list" #[] 0)).objs.size=s.heap.objs.size+1:=Heap.size_push ..
 exact Nat.lt_trans (by show s.heap.objs.size<(s.heap.push (seqObj "list" #[] 0)).objs.size;rw [z];exact Nat.lt_succ_self _) this
theorem Kp:∀ {tl:List (Addr × Obj)} {l:List ((Str × Tok) × (Str × Tok))},All2 Oh tl l→All2 (Ap tl) (tl.map fun q=>.ref q.1) (l.map fun p=>(p.1.1,p.2.1))
 | _,_,.nil=>.nil
 | _,_,.cons (a:=q) (b:=p) x r=>.cons (x.elim fun t e=>⟨q.1,t,p.2.2,rfl,by rw [← e];exact .head _⟩) ((Kp r).mono fun _ _ z=>z.mono fun _ hp=>.tail _ hp)
noncomputable def Gv(w:World)(A:Around)(s:Shared)(prog:Program)(E:Value→Shared→Prop)(h₀:Heap)(L:Addr)(m:Str→Option Value)(news:List (Addr × Obj))(v d:Addr)(l:List ((Str × Tok) × (Str × Tok)))(n:Nat)(Q:Value→Shared→Prop):Prop :=
 ∀ (hh:A.handled=none) (F:Fr h₀ L s.heap m) (N:News h₀ L s.heap news) (hv:s.heap.get? v=some { cls:=.type "dict_items",data:=.fields #[.ref d] }) (hd:s.heap.get? d=some (dictOf (Bg w.params l) n)) (hn:(l.map (·.1.1)).Nodup) (hz:l.length≤4) (h:∀ (B:Addr) tl out c h' tk,All2 Oh tl l→(tl.map (·.1)).Nodup→(∀ q∈tl,q.1<B)→(∀ p∈news,∀ q∈tl,p.1<q.1)→(∀ p∈news,p.1<B)→All2 (Ap (tl++news)) out (Ax Cc (l.map fun p=>(p.1.1,p.2.1)))→Fr h₀ L h' m→News h₀ L h' ((B,listOf (List.toArray out) c)::(tl++news))→Q (.ref B) { s with heap:=h',toks:=tk }),wpAny (model prog w) A (call (.builtin "sorted") [.ref v]) Q E s
theorem Qi:∀ {w A s prog E h₀ L m news v d l n Q},Gv w A s prog E h₀ L m news v d l n Q:=by
 refine @(Ab (Ao neW)<|@(Dq neI<|let_mvar% ?n:=(fun w A s prog E h₀ L m news v d l n Q=>?_:∀ a b c d e f g h i j k l m n,Gv a b c d e f g h i j k l m n);?n _ _ _ _ _ _ _ _ _ _ _ _ _ _))
 intro hh F N hv hd hn hz h
 refine Calls.call_function_entry kind_sorted plain_sorted entry_sorted (args_sorted1 _) ?_
 unfold Builtin.«sorted»;refine Wb (m:=checkCount "sorted" 1 1 _) (Wp ?_)
 refine Wb (Oa (A:=A.in1) hh hv hd hn (by exact(Nl fun hn1=>fk [_] (.e V0 (.k 4) (.e (.s (.k 60)) V0 K0)) rfl hz hn1)) fun tl h' tk h1 h2 h3 hk=>?_)
 have htl:tl.length=l.length:=h1.length
 refine Wb (wpAny_newList ?_ (by rw [List.length_map,sizeLine_eq];exact(Nl fun hn1=>fk [_,_] (.e V0 (.k 4) (.e V1 V0 (.e (.s (.k 16777216)) V1 K0))) rfl hz (El htl) hn1)))
 have hLs:L<s.heap.objs.size:=F.ns.lt;have hLD:L<h'.objs.size:=(F.keeps hk).ns.lt
 have fresh:∀ a,L<a→h₀.get? a=none:=fun a ha=>Heap.get?_none_of_le (Nat.le_trans F.above (Nat.le_of_lt ha))
 have F1:Fr h₀ L (h'.push (seqObj "list" (tl.map fun q=>.ref q.1).toArray 0)) m:=(F.keeps hk).push _
 have hlt:∀ q∈tl,q.1<h'.objs.size:=fun q hq=>Heap.lt_size (h3 q hq).2
 have N1:News h₀ L (h'.push (seqObj "list" (tl.map fun q=>.ref q.1).toArray 0)) ((h'.objs.size,listOf (tl.map fun q=>.ref q.1).toArray 0)::(tl++news)):=fun p hp=>by
  rcases List.mem_cons.mp hp with rfl | hp
  ·exact⟨Heap.get?_push_size _ rfl,Nat.ne_of_gt hLD,fresh _ hLD⟩
  ·rcases List.mem_append.mp hp with hp | hp
   ·have hLq:L<p.1:=Nat.lt_trans hLs (h3 p hp).1
    exact⟨Heap.get?_push_of_some _ (h3 p hp).2,Nat.ne_of_gt hLq,fresh _ hLq⟩
   ·exact⟨Heap.get?_push_of_some _ (hk _ _ (N p hp).1),(N p hp).2⟩
 have hnD:∀ p∈tl++news,p.1≠h'.objs.size:=fun p hp=>by
  rcases List.mem_append.mp hp with hp | hp
  ·exact Nat.ne_of_lt (hlt p hp)
  ·exact Nat.ne_of_lt (Heap.lt_size (hk _ _ (N p hp).1))
 have hpn:=Kp h1;refine Wb (wpAny_holding (wpAny_call_entry slot_list_sort ⟨_,(N1 _ (.head _)).1,rfl⟩ entry_list_sort ?_ (args_list_sort _)))
 refine Ko (s:={ s with heap:=h'.push (seqObj "list" (tl.map fun q=>.ref q.1).toArray 0),toks:=tk }) F1 N1 hnD (hpn.mono fun _ _ z=>z.mono fun _ hp=>Ml _ hp) (by rw [List.length_map];exact(Nl fun hn1=>fk [_,_] (.e V0 (.k 4) (.e V1 V0 (.e (.s (.k 4)) V1 K0))) rfl hz (El htl) hn1)) fun out c h2' ho F2 N2=>⟨_,rfl,Wp ⟨_,rfl,?_⟩⟩
 refine h _ tl out c h2' tk h1 (h2.imp fun z=>Nat.ne_of_lt z) hlt (fun p hp q hq=>Nat.lt_trans (Heap.lt_size (N p hp).1) (h3 q hq).1) (fun p hp=>Heap.lt_size (hk _ _ (N p hp).1)) ho F2 N2
end
end Mine
namespace Mine
open PySem.Calls
open PyProof.Rows.LCg
section
variable{prog:Program}{w:World}{A:Around}{E:Value→Shared→Prop}{s:Shared}{h₀:Heap}{L:Addr}{m:Str→Option Value}{news:List (Addr × Obj)}{env:Env}{os:OsState}
theorem Tq{e target:PySem.Expr}{ipos:Pos}{emit:Sem Unit}{it acc:Value}{cenv:Env}{R:Result→Shared→Prop}(I:Nat→Shared→Prop)
  (hq:(Code.compLoop e 0 it acc cenv).quiet=true)
  (hden:∀ (s:Shared) (Q:PySem.Fin→Shared→Prop) (E':Value→Shared→Prop),wpAny (model prog w) A ((compTurn e 0 it acc cenv).onRaise (fun x=>do noteFrame x cenv;theTreesLotGoes x)) Q E' s→wpAny (model prog w) (A.under (.compLoop e 0 it acc cenv)) ((model prog w).den (.compLoop e 0 it acc cenv)) Q E' s)
  (ht:compTurn e 0 it acc cenv=(standAt ipos >>= fun _=>pyNext it >>= fun r=>match r with
   | none=>pure (.done .next)
   | some v=>letOwnedTupleGo target it v >>= fun _=>assign target cenv v >>= fun _=>emit >>= fun _=>again (.compLoop e 0 it acc cenv)))
  (turn:∀ n s,I n s→wpAny (model prog w) A (pyNext it) (fun r s₁=>match r with
   | none=>R (.ok .next) s₁
   | some v=>wpAny (model prog w) A (letOwnedTupleGo target it v) (fun _ s₂=>wpAny (model prog w) A (assign target cenv v) (fun _ s₃=>wpAny (model prog w) A emit (fun _ s₄=>∃ m,m<n∧I m s₄)
     (notedBy (model prog w) A cenv fun e s'=>R (.error e) s') s₃) (notedBy (model prog w) A cenv fun e s'=>R (.error e) s') s₂) (notedBy (model prog w) A cenv fun e s'=>R (.error e) s') s₁) (notedBy (model prog w) A cenv fun e s'=>R (.error e) s') s)
  (n:Nat) (h:I n s):codeAny (model prog w) A (.compLoop e 0 it acc cenv) R s:=by
 refine codeAny_loop hq I (fun n s hI=>hden _ _ _ ?_) n h
 refine wpAny_noted ?_;rw [ht]
 refine Wb (wpAny_standAt (Wb (wpAny_mono (turn n s hI) (fun r s₁ h₁=>?_) fun _ _ h'=>h')))
 cases r with
 | none=>exact Wp h₁
 | some v =>
  exact Wb (wpAny_mono h₁ (fun _ s₂ h₂=>Wb (wpAny_mono h₂ (fun _ s₃ h₃=>Wb (wpAny_mono h₃ (fun _ s₄ h₄=>Wp ⟨rfl,h₄⟩) fun _ _ h'=>h')) fun _ _ h'=>h')) fun _ _ h'=>h')
noncomputable def Fu(w:World)(A:Around)(s:Shared)(prog:Program)(E:Value→Shared→Prop)(h₀:Heap)(L:Addr)(m:Str→Option Value)(env:Env)(os:OsState)(e target:PySem.Expr)(ipos:Pos)(scope:Scope)(cl:List (Str × Addr))(newAcc:Sem Value)(o0:Obj)(emit:Addr→Addr→Sem Unit)(ax:Addr)(its:Array Value)(news:List (Addr × Obj))(RR:Value→Addr→Result→Shared→Prop)(J:Addr→List Value→List (Addr × Obj)→Prop)(B:List (Addr × Obj)→Value→(Str→Option Value)→Prop):Prop :=
 ∀ (hacc:∀ (s:Shared) (Q:Value→Shared→Prop),Q (.ref s.heap.objs.size) { s with heap:=s.heap.push o0 }→wpAny (model prog w) A newAcc Q E s) (ho0:Obj.isFreed o0=false) (hst:∀ (I D C:Addr) (R:Result→Shared→Prop) (s:Shared),codeAny (model prog w) A (.compLoop e 0 (.ref I) (.ref D) (compEnvC scope cl C env)) R s →
   wpAny (model prog w) A (pyIter (.ref I)) (fun it' s'=>codeAny (model prog w) A (.compLoop e 0 it' (.ref D) (compEnvC scope cl C env)) R s') (notedBy (model prog w) A (compEnvC scope cl C env) fun x s'=>R (.error x) s') s→codeAny (model prog w) A (.compStart e 0 (.ref I) (.ref D) (compEnvC scope cl C env)) R s) (hq:∀ I D C,(Code.compLoop e 0 (.ref I) (.ref D) (compEnvC scope cl C env)).quiet=true) (hden:∀ (I D C:Addr) (s:Shared) (Q:PySem.Fin→Shared→Prop) (E':Value→Shared→Prop),wpAny (model prog w) A ((compTurn e 0 (.ref I) (.ref D) (compEnvC scope cl C env)).onRaise (fun x=>do noteFrame x (compEnvC scope cl C env);theTreesLotGoes x)) Q E' s→wpAny (model prog w) (A.under (.compLoop e 0 (.ref I) (.ref D) (compEnvC scope cl C env))) ((model prog w).den (.compLoop e 0 (.ref I) (.ref D) (compEnvC scope cl C env))) Q E' s) (ht:∀ I D C,compTurn e 0 (.ref I) (.ref D) (compEnvC scope cl C env)=(standAt ipos >>= fun _=>pyNext (.ref I) >>= fun r=>match r with
   | none=>pure (.done .next)
   | some v=>letOwnedTupleGo target (.ref I) v >>= fun _=>assign target (compEnvC scope cl C env) v >>= fun _=>emit D C >>= fun _=>again (.compLoop e 0 (.ref I) (.ref D) (compEnvC scope cl C env)))) (hown:∀ (I:Addr) (i:Nat) (v:Value) (s:Shared) (Q:Unit→Shared→Prop) (E':Value→Shared→Prop),s.heap.IsListIter I ax i→v∈its.toList→Q () s→wpAny (model prog w) A (letOwnedTupleGo target (.ref I) v) Q E' s) (hasg:∀ (s1:Shared) (v:Value) (rem:List Value) (own:List (Addr × Obj)) (D C:Addr) (mC:Str→Option Value) (Q:Unit→Shared→Prop) (E':Value→Shared→Prop),J D (v::rem) own→(∀ b o,h₀.get? b=some o→s1.heap.get? b=some o)→(∀ p∈own,s1.heap.get? p.1=some p.2)→s1.heap.Ns C mC →
   (∀ h' tk m₂,h'.Ns C m₂→B own v m₂→(∀ b o,b≠C→s1.heap.get? b=some o→h'.get? b=some o)→Q () { s1 with heap:=h',toks:=tk })→wpAny (model prog w) A (assign target (compEnvC scope cl C env) v) Q E' s1) (hcell:∀ y∈scope.names,y.2≠.cell) (hkind:scope.kind=.function) (hh:A.handled=none) (F:Fr h₀ L s.heap m) (N:News h₀ L s.heap news) (hos:s.os=os) (hb:AllBare s.gens) (hsrc0:SrcAt h₀ ax its news) (hsz:its.size≤sizeLine) (hJ0:∀ D,(∀ p∈news,p.1<D)→J D its.toList ((D,o0)::news)) (hsrc:∀ D rem own,J D rem own→SrcAt h₀ ax its own) (step:∀ (s1:Shared) D v rem own I oI C oC m₂ (E':Value→Shared→Prop),J D (v::rem) own→NsObj oC m₂→B own v m₂→Fr h₀ L s1.heap m→News h₀ L s1.heap ((I,oI)::(C,oC)::own)→(∀ p∈own,p.1≠I∧p.1≠C)→I≠C→s1.os=os→AllBare s1.gens →
   wpAny (model prog w) A (emit D C) (fun _ s3=>∃ own',J D rem own'∧Fr h₀ L s3.heap m∧News h₀ L s3.heap ((I,oI)::(C,oC)::own')∧(∀ p∈own',p.1≠I∧p.1≠C)∧s3.os=os∧AllBare s3.gens) E' s1) (fin:∀ (s1:Shared) D C own mC,J D [] own→Fr h₀ L s1.heap m→News h₀ L s1.heap own→s1.heap.Ns C mC→h₀.get? C=none→C≠L→(∀ p∈own,p.1≠C)→s1.os=os→AllBare s1.gens→RR (.ref D) C (.ok .next) s1),wpAny (model prog w) A (pyIter (.ref ax)) (fun it s₂=>wpAny (model prog w) A newAcc (fun acc s₃=>wpAny (model prog w) A (newFunctionEnv scope env.globals cl [] env.qual none .none (some env)) (fun cenv s₄ =>
   codeAny (model prog w) A (.compStart e 0 it acc { cenv with scope:=relabel scope env }) (RR acc cenv.locals) s₄) E s₃) E s₂) E s
theorem Lv:∀ a b c d e f g h i j k l m n o p q r s t u v w x,Fu a b c d e f g h i j k l m n o p q r s t u v w x:=by
 refine Ab (Ao neW)<|Ab neI<|Ab neI<|let_mvar% ?n:=(fun w A s prog E h₀ L m env os e target ipos scope cl newAcc o0 emit ax its news RR J B=>?_:∀ a b c d e f g h i j k l m n o p q r s t u v w x,Fu a b c d e f g h i j k l m n o p q r s t u v w x);?n _ _ _ _ _ _ _ _ _ _ _ _ _ _ _ _ _ _ _ _ _ _ _ _
 intro hacc ho0 hst hq hden ht hown hasg hcell hkind hh F N hos hb hsrc0 hsz hJ0 hsrc step fin;have hl:=hsrc0.list F.keep N
 have hlt:ax<s.heap.objs.size:=by obtain⟨_,e,_⟩:=hl;exact Heap.lt_size e
 refine wpAny_pyIter_list hl ?_
 generalize hIeq:s.heap.objs.size=I
 have hI1:(s.heap.push { cls:=.type "list_iterator",data:=.fields #[.ref ax,.int 0 0] }).IsListIter I ax 0:=⟨_,by rw [← hIeq];exact Heap.get?_push_size _ rfl,rfl,rfl⟩
 have up1:∀ b o,s.heap.get? b=some o→(s.heap.push { cls:=.type "list_iterator",data:=.fields #[.ref ax,.int 0 0] }).get? b=some o:=fun b o e=>Heap.get?_push_of_some _ e
 have hz1:(s.heap.push { cls:=.type "list_iterator",data:=.fields #[.ref ax,.int 0 0] }).objs.size=I+1:=by rw [Heap.size_push,hIeq]
 generalize s.heap.push { cls:=.type "list_iterator",data:=.fields #[.ref ax,.int 0 0] }=H1 at hI1 up1 hz1
 refine hacc _ _ ?_;dsimp only;rw [hz1]
 have hD2:(H1.push o0).get? (I+1)=some o0:=by rw [← hz1];exact Heap.get?_push_size _ ho0
 have up2:∀ b o,H1.get? b=some o→(H1.push o0).get? b=some o:=fun b o e=>Heap.get?_push_of_some _ e
 have hz2:(H1.push o0).objs.size=I+1+1:=by rw [Heap.size_push,hz1]
 generalize H1.push o0=H2 at hD2 up2 hz2
 refine wpAny_newFunctionEnv hcell (by intro y hy;simp at hy) (fun h₁ hns₁ hsb₁=>?_) hkind
 dsimp only at hns₁ hsb₁ ⊢;rw [hz2] at hns₁ hsb₁ ⊢
 have up3:∀ b o,H2.get? b=some o→h₁.get? b=some o:=fun b o e=>hsb₁.extBut b o (Nat.ne_of_lt (by have:=Heap.lt_size e;rw [hz2] at this;exact this)) (Heap.get?_push_of_some _ e)
 have up:∀ b o,s.heap.get? b=some o→h₁.get? b=some o:=fun b o e=>up3 b o (up2 b o (up1 b o e))
 have hLI:L<I:=by rw [← hIeq];exact F.ns.lt
 have fresh₀:∀ a,L<a→h₀.get? a=none:=fun a ha=>Heap.get?_none_of_le (Nat.le_trans F.above (Nat.le_of_lt ha))
 have hI0:=fresh₀ I hLI;have hD0:=fresh₀ (I+1) (Nat.lt_succ_of_lt hLI);have hC0:=fresh₀ (I+1+1) (Nat.lt_succ_of_lt (Nat.lt_succ_of_lt hLI));have hIC:I≠I+1+1:=Nat.ne_of_lt (Nat.lt_succ_of_lt (Nat.lt_succ_self _));have hCL:I+1+1≠L:=Nat.ne_of_gt (Nat.lt_succ_of_lt (Nat.lt_succ_of_lt hLI));have hIL:I≠L:=Nat.ne_of_gt hLI
 have hnI:∀ p∈news,p.1<I:=fun p hp=>by rw [← hIeq];exact Heap.lt_size (N p hp).1
 have hj0:=hJ0 (I+1) fun p hp=>Nat.lt_succ_of_lt (hnI p hp)
 have hi1:h₁.IsListIter I ax 0:=by obtain⟨o,ho,r⟩:=hI1;exact⟨o,up3 _ _ (up2 _ _ ho),r⟩
 have loop:codeAny (model prog w) A (.compLoop e 0 (.ref I) (.ref (I+1)) (compEnvC scope cl (I+1+1) env)) (RR (.ref (I+1)) (I+1+1)) { s with heap:=h₁,toks:=s.toks+([]:List (Str × Value)).length }:=by
  refine Tq (target:=target) (ipos:=ipos) (emit:=emit (I+1) (I+1+1)) (fun k s'=>∃ i rem own mC,k=rem.length∧its.toList.drop i=rem∧i+rem.length=its.size∧J (I+1) rem own∧Fr h₀ L s'.heap m∧News h₀ L s'.heap own∧(∀ p∈own,p.1≠I∧p.1≠I+1+1) ∧
   s'.heap.Ns (I+1+1) mC∧s'.heap.IsListIter I ax i∧s'.os=os∧AllBare s'.gens) (hq _ _ _) (hden _ _ _) (ht _ _ _) ?_ its.size
   ⟨0,its.toList,(I+1,o0)::news,_,by simp,rfl,by simp,hj0,F.keeps up,fun p hp=>?_,fun p hp=>?_,hns₁,hi1,hos,hb⟩
  ·rintro k s' ⟨i,rem,own,mC,rfl,hrem,zd,hJ,F',N',off,hns,hit,hos',hb'⟩
   have hl':s'.heap.IsList ax its:=(hsrc _ _ _ hJ).list F'.keep N'
   cases rem with
   | nil =>
    refine wpAny_pyNext_list_end hh hit hl' ?_ fun h₂ he₂=>?_
    ·have:its.size≤i:=by simp at zd;exact(Es zd)
     simp;exact this
    ·dsimp only
     refine fin _ (I+1) (I+1+1) own mC hJ (Dh F' he₂ (Ne.symm hIL) hI0) (fun p hp=>⟨he₂ _ _ (off p hp).1 (N' p hp).1,(N' p hp).2⟩) ?_ hC0 hCL (fun p hp=>(off p hp).2) hos' hb'
     obtain⟨o,es,ep,e,r⟩:=hns;exact⟨o,es,ep,he₂ _ _ (Ne.symm hIC) e,r⟩
   | cons v rem =>
    have hlt':i<its.size:=by simp at zd;exact(Nt fun hn1=>fk [_,_,_] (.e (.a V0 (.s V1)) V2 (.e V2 V0 K0)) rfl (El zd) hn1)
    have hget:its[i]?=some v:=by
     rw [← Array.getElem?_toList];have:=congrArg (·[0]?) hrem
     simp only [List.getElem?_drop,Nat.add_zero,List.getElem?_cons_zero] at this
     exact this
    refine wpAny_pyNext_list_item hit hl' hget fun h₂ hit₂ hs₂=>?_
    dsimp only
    have hmem:v∈its.toList:=by rw [← Array.getElem?_toList] at hget;exact List.mem_of_getElem? hget
    refine hown I (i+1) v _ _ _ hit₂ hmem ?_;have F₂:=Dh F' hs₂.extBut (Ne.symm hIL) hI0
    have N₂:News h₀ L h₂ own:=fun p hp=>⟨hs₂.extBut _ _ (off p hp).1 (N' p hp).1,(N' p hp).2⟩
    have hns₂:h₂.Ns (I+1+1) mC:=by
     obtain⟨o,es,ep,e,r⟩:=hns;exact⟨o,es,ep,hs₂.extBut _ _ (Ne.symm hIC) e,r⟩
    refine hasg _ v rem own (I+1) (I+1+1) mC _ _ hJ F₂.keep (fun p hp=>(N₂ p hp).1) hns₂ fun h₃ tk₃ m₂ hns₃ hB hk₃=>?_
    obtain⟨oI,heI,hcI,hdI⟩:=id hit₂;obtain⟨oC,heC,hoC⟩:=ns_obj hns₃
    have F₃:Fr h₀ L h₃ m:=Dh F₂ (fun b o hb e=>hk₃ b o hb e) (Ne.symm hCL) hC0
    have N₃:News h₀ L h₃ ((I,oI)::(I+1+1,oC)::own):=fun p hp=>by
     rcases List.mem_cons.mp hp with rfl | hp
     ·exact⟨hk₃ _ _ hIC heI,hIL,hI0⟩
     ·rcases List.mem_cons.mp hp with rfl | hp
      ·exact⟨heC,hCL,hC0⟩
      ·exact⟨hk₃ _ _ (off p hp).2 (N₂ p hp).1,(N₂ p hp).2⟩
    refine wpAny_mono (step { s' with heap:=h₃,toks:=tk₃ } (I+1) v rem own I oI (I+1+1) oC m₂ _ hJ hoC hB F₃ N₃ off hIC hos' hb') (fun _ s₄ h₄=>?_) fun _ _ z=>z
    obtain⟨own',hJ',F₄,N₄,off₄,hos₄,hb₄⟩:=h₄
    refine⟨rem.length,Nat.lt_succ_self _,i+1,rem,own',m₂,rfl,?_,by simp at zd ⊢;exact(Nat.le_antisymm (Nl fun hn2=>fk [_,_,_] (.e (.a V0 (.s V1)) V2 (.e (.s V2) (.a (.s V0) V1) K0)) rfl (El zd) hn2) (Nl fun hn3=>fk [_,_,_] (.e V0 (.a V1 (.s V2)) (.e (.a (.a (.s V1) V2) K1) V0 K0)) rfl (Es zd) hn3)),hJ',F₄,fun p hp=>N₄ p (.tail _ (.tail _ hp)),off₄,hoC.ns (N₄ (I+1+1,oC) (.tail _ (.head _))).1,⟨oI,(N₄ (I,oI) (.head _)).1,hcI,hdI⟩,hos₄,hb₄⟩
    rw [← List.drop_drop,hrem];rfl
  ·rcases List.mem_cons.mp hp with rfl | hp
   ·exact⟨up3 _ _ hD2,Nat.ne_of_gt (Nat.lt_succ_of_lt hLI),hD0⟩
   ·exact⟨up _ _ (N p hp).1,(N p hp).2⟩
  ·rcases List.mem_cons.mp hp with rfl | hp
   ·exact⟨Nat.ne_of_gt (Nat.lt_succ_self _),Nat.ne_of_lt (Nat.lt_succ_self _)⟩
   ·exact⟨Nat.ne_of_lt (hnI p hp),Nat.ne_of_lt (Nat.lt_succ_of_lt (Nat.lt_succ_of_lt (hnI p hp)))⟩
 exact hst _ _ _ _ _ loop (wpAny_pyIter_listiter (s:={ s with heap:=h₁,toks:=s.toks+([]:List (Str × Value)).length }) hi1 loop)
theorem Lu{w A s prog E h₀ L m env os e target ipos scope cl newAcc o0 emit ax its news RR}(J)(B):Fu w A s prog E h₀ L m env os e target ipos scope cl newAcc o0 emit ax its news RR J B:=Lv _ _ _ _ _ _ _ _ _ _ _ _ _ _ _ _ _ _ _ _ _ _ _ _
end
end Mine
namespace Mine
open PySem.Calls
open PyProof.Rows.LCg
section
variable{prog:Program}{w:World}{A:Around}{E:Value→Shared→Prop}{s:Shared}{h₀:Heap}{L:Addr}{m:Str→Option Value}{news:List (Addr × Obj)}{env:Env}{os:OsState}
noncomputable def Ms(w:World)(A:Around)(s:Shared)(prog:Program)(E:Value→Shared→Prop)(h₀:Heap)(L:Addr)(m:Str→Option Value)(news:List (Addr × Obj))(env:Env)(os:OsState)(elt iter:PySem.Expr)(x x₂:Str)(px px₂ tp pos:Pos)(k:Nat)(scope:Scope)(cl:List (Str × Addr))(ax:Addr)(its:Array Value)(RR:Value→Addr→Result→Shared→Prop):Prop :=
 ∀ (J:List Value→List Value→List (Addr × Obj)→Prop) (hcell:∀ y∈scope.names,y.2≠.cell) (hkind:scope.kind=.function) (hx:scope.names.lookup x=some .local) (hx₂:scope.names.lookup x₂=some .local) (hxx:x≠x₂) (hh:A.handled=none) (F:Fr h₀ L s.heap m) (N:News h₀ L s.heap news) (hos:s.os=os) (hb:AllBare s.gens) (hsrc0:SrcAt h₀ ax its news) (hsz:its.size≤sizeLine) (hJ0:J its.toList [] news) (hsrc:∀ rem ys own,J rem ys own→SrcAt h₀ ax its own) (hpair:∀ v rem ys own,J (v::rem) ys own→∃ q,Ap own v q) (href:∀ v∈its.toList,∃ a,v=.ref a) (step:∀ (s1:Shared) D v rem ys own I oI C oC m₂ (q:Pr) t1 t2 (E':Value→Shared→Prop),J (v::rem) ys own→(∃ a,v=.ref a∧(a,Ae #[.str q.1 t1,.str q.2 t2])∈own)→NsObj oC m₂→m₂ x=some (.str q.1 t1)→m₂ x₂=some (.str q.2 t2)→Fr h₀ L s1.heap m→News h₀ L s1.heap ((I,oI)::(C,oC)::(D,lst ys)::own)→Off3 I C D own→I≠C→D≠I→D≠C→s1.os=os→AllBare s1.gens →
   wpAny (model prog w) A (eval elt (compEnvC scope cl C env)) (fun y s3=>∃ own',J rem (ys++[y]) own'∧Fr h₀ L s3.heap m∧News h₀ L s3.heap ((I,oI)::(C,oC)::(D,lst ys)::own')∧Off3 I C D own'∧s3.os=os∧AllBare s3.gens) E' s1) (fin:∀ (s1:Shared) D C ys own mC,J [] ys own→Fr h₀ L s1.heap m→News h₀ L s1.heap ((D,lst ys)::own)→(∀ p∈own,p.1≠D)→s1.heap.Ns C mC→h₀.get? C=none→C≠L→D≠C→(∀ p∈own,p.1≠C)→s1.os=os→AllBare s1.gens→RR (.ref D) C (.ok .next) s1),wpAny (model prog w) A (pyIter (.ref ax)) (fun it s₂=>wpAny (model prog w) A (newList []) (fun acc s₃=>wpAny (model prog w) A (newFunctionEnv scope env.globals cl [] env.qual none .none (some env)) (fun cenv s₄ =>
   codeAny (model prog w) A (.compStart (.ListComp elt [⟨.Tuple [.Name x px,.Name x₂ px₂] k tp,iter,[],0⟩] scope pos) 0 it acc { cenv with scope:=relabel scope env }) (RR acc cenv.locals) s₄) E s₃) E s₂) E s
theorem Rr:∀ {w A s prog E h₀ L m news env os elt iter x x₂ px px₂ tp pos k scope cl ax its RR},Ms w A s prog E h₀ L m news env os elt iter x x₂ px px₂ tp pos k scope cl ax its RR:=by
 refine @(Ab (Ao neW)<|@(Ab neI<|@(Ab neI<|@(Au neI<|let_mvar% ?n:=(fun w A s prog E h₀ L m news env os elt iter x x₂ px px₂ tp pos k scope cl ax its RR=>?_:∀ a b c d e f g h i j k l m n o p q r s t u v w x y,Ms a b c d e f g h i j k l m n o p q r s t u v w x y);?n _ _ _ _ _ _ _ _ _ _ _ _ _ _ _ _ _ _ _ _ _ _ _ _ _))))
 intro J hcell hkind hx hx₂ hxx hh F N hos hb hsrc0 hsz hJ0 hsrc hpair href step fin
 refine Lu (o0:=lst []) (target:=.Tuple [.Name x px,.Name x₂ px₂] k tp) (ipos:=iter.pos) (emit:=fun D C=>eval elt (compEnvC scope cl C env) >>= fun x=>call (.builtin "list.append") [.ref D,x] >>= fun _=>pure ())
  (fun D rem own=>∃ ys own0,own=(D,lst ys)::own0∧ys.length+rem.length=its.size∧(∀ p∈own0,p.1≠D)∧J rem ys own0)
  (fun own v m₂=>∃ (q:Pr) (t1 t2:Tok),(∃ a,v=.ref a∧(a,Ae #[.str q.1 t1,.str q.2 t2])∈own)∧m₂ x=some (.str q.1 t1)∧m₂ x₂=some (.str q.2 t2))
  (fun s Q h=>wpAny_newList h) rfl (fun I D C R s h1 h2=>codeAny_compStart_list h1 h2) (fun _ _ _=>rfl) (fun _ _ _ _ _ _ z=>z) (fun _ _ _=>rfl) ?_ ?_ hcell hkind hh F N hos hb hsrc0 hsz ?_ ?_ ?_ ?_
 ·intro I i v s1 Q E' hit hv hq
  obtain⟨a,rfl⟩:=href v hv;exact wpAny_letOwnedTupleGo_listiter hit hq
 ·rintro s1 v rem own D C mC Q E' ⟨ys,own0,rfl,hl,hne,hJ⟩ hk ho hns h
  obtain⟨q,a,t1,t2,rfl,hm⟩:=hpair v rem ys own0 hJ
  refine assign_Tuple_tuple hh ⟨_,ho _ (.tail _ hm),rfl,_,rfl⟩ rfl rfl fun h₅ he=>?_
  have he':∀ b o,s1.heap.get? b=some o→h₅.get? b=some o:=fun b o e=>he b o (Nat.ne_of_lt (Heap.lt_size e)) e
  refine assignInOrder_cons (wpAny_assign_Name (wpAny_storeName_local (lookup_relabel_local hx) (hns.at' fun o e=>he' _ o e) (fun h₆ hn₆ hs₆=>?_) (by simp [compEnvC,relabel,hkind])))
  refine assignInOrder_cons (wpAny_assign_Name (wpAny_storeName_local (lookup_relabel_local hx₂) hn₆ (fun h₃ hn₃ hs₃=>?_) (by simp [compEnvC,relabel,hkind])))
  refine assignInOrder_nil ?_
  exact h h₃ _ _ hn₃ ⟨q,t1,t2,⟨a,rfl,.tail _ hm⟩,by simp [hxx],by simp⟩ fun b o hb e=>hs₃.extBut b o hb (hs₆.extBut b o hb (he' b o e))
 ·intro D hD
  exact⟨[],news,rfl,by simp,fun p hp=>Nat.ne_of_lt (hD p hp),hJ0⟩
 ·rintro D rem own ⟨ys,own0,rfl,_,_,hJ⟩
  rcases hsrc _ _ _ hJ with z | ⟨o,hm,r⟩
  ·exact .inl z
  ·exact .inr ⟨o,.tail _ hm,r⟩
 ·rintro s1 D v rem own I oI C oC m₂ E' ⟨ys,own0,rfl,hl,hne,hJ⟩ hC ⟨q,t1,t2,⟨a,rfl,hm⟩,b1,b2⟩ F1 N1 off hIC ho1 hb1
  have hm0:(a,Ae #[.str q.1 t1,.str q.2 t2])∈own0:=by
   rcases List.mem_cons.mp hm with e | z
   ·exact absurd (congrArg (fun p:Addr × Obj=>p.2.cls) e) (by simp)
   ·exact z
  have hD:=off (D,lst ys) (.head _)
  refine Wb (wpAny_mono (step s1 D (.ref a) rem ys own0 I oI C oC m₂ q t1 t2 E' hJ ⟨a,rfl,hm0⟩ hC b1 b2 F1 N1 (Off3.of fun p hp=>⟨(off p (.tail _ hp)).1,(off p (.tail _ hp)).2,hne p hp⟩) hIC hD.1 hD.2 ho1 hb1) (fun y s3 h3=>?_) fun _ _ z=>z)
  obtain⟨own',hJ',F3,N3,off3,ho3,hb3⟩:=h3;have zD:=N3 (D,lst ys) (.tail _ (.tail _ (.head _)))
  refine Wb (append_at (hsz:=by show ys.toArray.size≤sizeLine;rw [List.size_toArray];simp at hl;exact(Nl fun hn1=>fk [_,_,_,_] (.e V0 V1 (.e (.a V2 (.s V3)) V0 (.e (.s V1) V2 K0))) rfl hsz (El hl) hn1)) zD.1 fun h₅ hs₅ hD₅=>Wp ?_)
  have o3:=off3.mem
  refine⟨(D,lst (ys++[y]))::own',⟨ys++[y],own',rfl,by simp at hl ⊢;exact(Nat.le_antisymm (Nl fun hn2=>fk [_,_,_] (.e (.a V0 (.s V1)) V2 (.e (.s V2) (.a (.s V0) V1) K0)) rfl (El hl) hn2) (Nl fun hn3=>fk [_,_,_] (.e V0 (.a V1 (.s V2)) (.e (.a (.a (.s V1) V2) K1) V0 K0)) rfl (Es hl) hn3)),fun p hp=>(o3 p hp).2.2,hJ'⟩,F3.change hs₅ zD.2.1 zD.2.2,fun p hp=>?_,fun p hp=>?_,ho3,hb3⟩
  ·rcases List.mem_cons.mp hp with rfl | hp
   ·have z:=N3 (I,oI) (.head _)
    exact⟨hs₅.extBut _ _ (Ne.symm hD.1) z.1,z.2⟩
   ·rcases List.mem_cons.mp hp with rfl | hp
    ·have z:=N3 (C,oC) (.tail _ (.head _))
     exact⟨hs₅.extBut _ _ (Ne.symm hD.2) z.1,z.2⟩
    ·rcases List.mem_cons.mp hp with rfl | hp
     ·exact⟨hD₅.trans (congrArg some (lst_snoc ys y)),zD.2⟩
     ·have z:=N3 p (.tail _ (.tail _ (.tail _ hp)))
      exact⟨hs₅.extBut _ _ (o3 p hp).2.2 z.1,z.2⟩
  ·rcases List.mem_cons.mp hp with rfl | hp
   ·exact hD
   ·exact⟨(o3 p hp).1,(o3 p hp).2.1⟩
 ·rintro s1 D C own mC ⟨ys,own0,rfl,hl,hne,hJ⟩ F1 N1 hns hC0 hCL hoC ho1 hb1
  exact fin s1 D C ys own0 mC hJ F1 N1 hne hns hC0 hCL (hoC _ (.head _)) (fun p hp=>hoC p (.tail _ hp)) ho1 hb1
end
end Mine
namespace Mine
open PySem.Calls
open PySem.Builtin PySem.Builtin.Str PySem.Builtin.Int
noncomputable def cutName(q:Str):Str × Str :=
 match Txt.slice q none (some 1) == "{" with
 | true=>match partsBetween (Txt.slice q (some 1) none) (occurrencesFromRight (Txt.slice q (some 1) none) "}" 1) (Str.ofString "}").length with
  | [a,b]=>(a,b)
  | _=>(Str.empty,q)
 | false=>(Str.empty,q)
noncomputable def Di(q:Str):Bool:=Mv q (cutName q).1 (cutName q).2 && decide (q.length≤200) && decide ((cutName q).1.length≤200) && decide ((cutName q).2.length≤200)
noncomputable abbrev Parsed:=Str × Str × Str
noncomputable def declare(lower ns:List Pr):List Str→List Pr→List (Str × Parsed)→List Pr × List (Str × Parsed)
 | [],lv,ps=>(lv,ps)
 | n::r,lv,ps=>match qn (lv++lower) ns (cutName n).1 (cutName n).2 with
  | some (txt,none)=>declare lower ns r lv (ps++[(n,txt,(cutName n).2,(cutName n).1)])
  | some (txt,some q)=>declare lower ns r (lv++[q]) (ps++[(n,txt,(cutName n).2,(cutName n).1)])
  | none=>(lv,ps)
def known(ns:List Pr)(uri:Str):Prop:=uri=Str.empty∨find uri ns≠none
theorem Je{decl ns:List Pr}{uri tag:Str}(h:known ns uri):qn decl ns uri tag≠none:=by
 unfold qn
 split
 ·simp
 ·split
  ·simp
  ·rename_i hu
   cases hf:find uri ns with
   | some p=>simp
   | none =>
    rcases h with h | h
    ·simp [h]
    ·exact absurd hf h
noncomputable def Cm(q:Pr):Pr:=(if q.2=Str.empty then "xmlns" else "xmlns:"++q.2,q.1)
noncomputable def Hx(ps:List (Str × Parsed))(a:Pr):Pr:=match ps.lookup a.1 with
 | some p=>(if p.2.2=Str.empty then p.2.1 else p.1,a.2)
 | none=>a
noncomputable def Bi(lv:List Pr)(ps:List (Str × Parsed))(attrs:List Pr):List Pr:=Ax Cc (lv.map Cm)++(Ax Cc attrs).map (Hx ps)
noncomputable def Cj(a:Pr):Str:=" "++a.1++"=\""++Ey a.2++"\""
noncomputable def Hi(ps:List (Str × Parsed))(tag:Str):Str:=match ps.lookup tag with
 | some p=>p.1
 | none=>Str.empty
noncomputable def Cf(lv:List Pr)(ps:List (Str × Parsed))(tag:Str)(attrs:List Pr):List Str :=
 [Str.ofString "<"++Hi ps tag]++(if Bi lv ps attrs=[] then [] else [Txt.join Str.empty ((Bi lv ps attrs).map Cj)])++[Str.ofString ">"]
noncomputable abbrev Cv:Str:="{http://www.w3.org/XML/1998/namespace}space"
noncomputable def Bt(pv:Bool)(attrs:List Pr):Bool:=match attrs.lookup Cv with
 | some b=>if b=Str.empty then pv else decide (b="preserve")
 | none=>pv
end Mine
namespace Mine
open PySem.Calls
noncomputable def Oo(w:World)(A:Around)(s:Shared)(prog:Program)(g:Heap)(os:OsState)(own:List (Addr × Obj))(K:Frag)(p:Program)(zw:List Str)(zr:ExcName→Option Value)(mg mb:Str→Option Value)(R:Result→Shared→Prop)(name qual:Str)(params:Arguments)(body:List Stmt)(scope:Scope)(dV kV doc pm cdv ct oc:Value)(an od:Option Addr)(osl:Array (Option Value))(f:Addr)(args:Args)(binds:List (Str × Value)):Prop :=
 ∀ (m0:Str→Option Value) (H:Ok g os own s) (X:K.In g) (T:Top p zw zr mg mb g) (ho:K.lookup f=some ⟨oc,od,.func (fnOf name qual params body scope dV kV doc pm an cdv ct),osl⟩) (hcd:codeIn K cdv qual=true) (zq:A.depth<recursionLimit) (zh:BindsTo s (fnOf name qual params body scope dV kV doc pm an cdv ct) args binds) (hkind:∀ n,∀ x∈binds,scope.names.lookup x.1=some .local∨(scope.names.lookup x.1=some .cell∧((cellsFrom n scope.names []).lookup x.1).isSome=true)) (hnd:((cellsFrom 0 scope.names []).map (·.1)).Nodup) (hm:∀ L',bindL (envOfC qual scope L' f cdv).kindOf binds (fun _=>none)=m0) (h:∀ L' h₁ tk cells,Fr g L' h₁ m0→News g L' h₁ (cells++own)→CellsAre (bindC (envOfC qual scope L' f cdv).kindOf binds fun _=>none) (cellsFrom (L'+1) scope.names []) cells→(∀ p∈own,p.1<L') →
   wpAny (model prog w) (A.deeper (envOfC qual scope L' f cdv)) (execs body (envOfC qual scope L' f cdv))
    (fun fl s'=>LeaveM g os R (match fl with | .ret v=>v | _=>.none) s')
    (fun e s'=>wpAny (model prog w) (A.deeper (envOfC qual scope L' f cdv)) (leaving (envOfC qual scope L' f cdv) e) (fun _ s''=>R (.error e) s'') (fun e' s''=>R (.error e') s'') s')
    { s with heap:=h₁,toks:=tk }) (hco:scope.isCoroutine=false) (hgen:scope.isGenerator=false) (hk:scope.kind=.function),codeAny (model prog w) A (.call (.ref f) args) R s
theorem enter_c:∀ {a b c d e f g h i j k l m n o p q r s t u v w x y z a1 b1 c1 d1 e1 f1},Oo a b c d e f g h i j k l m n o p q r s t u v w x y z a1 b1 c1 d1 e1 f1:=by
 refine @(Ab (Ao neW)<|@(Ab neI<|@(Ab neI<|@(Ab neI<|let_mvar% ?n:=(fun w A s prog g os own K p zw zr mg mb R name qual params body scope dV kV doc pm cdv ct oc an od osl f args binds=>?_:∀ a b c d e f g h i j k l m n o p q r s t u v w x y z a1 b1 c1 d1 e1 f1,Oo a b c d e f g h i j k l m n o p q r s t u v w x y z a1 b1 c1 d1 e1 f1);?n _ _ _ _ _ _ _ _ _ _ _ _ _ _ _ _ _ _ _ _ _ _ _ _ _ _ _ _ _ _ _ _))))
 intro m0 H X T ho hcd zq zh hkind hnd hm h hco hgen hk
 refine codeAny_call_function zq ((X.keeps H.keep) _ _ ho) rfl hco hgen rfl (codeRec_of (X.keeps H.keep) hcd) (zh _ _ _ _ ?_)
 refine wpAny_newFunctionEnv_cells hk (hkind _) fun env' he s' x=>?_
 subst he
 refine⟨(T.nolimit.keeps H.keep).keeps x.toInCall.keep,codeAny_func ?_⟩
 obtain⟨h₁,tk,rfl,_⟩:=x.done;have hk₁:=x.toInCall.keep
 obtain⟨cells,NC,Y⟩:=Cl.news (h₀:=s.heap) (Nat.le_refl _) fun n c hm=>⟨x.cell n c (lookup_of_mem_nodup (cellsFrom_names scope.names 0 (s.heap.objs.size+1) [] [] rfl ▸ hnd) hm),x.above n c hm⟩
 have F0:Fr g s.heap.objs.size h₁ m0:=by
  rw [← hm s.heap.objs.size]
  exact⟨x.toInCall.ns,fun b o e=>hk₁ b o (H.keep b o e),H.size⟩
 refine wpAny_mono (h s.heap.objs.size h₁ tk cells F0 (fun p hp=>?_) Y (fun p hp=>Heap.lt_size (H.own p hp).1)) (fun fl s' hl=>?_) fun _ _ y=>y
 ·rcases List.mem_append.mp hp with hp | hp
  ·refine⟨(NC p hp).1,(NC p hp).2.1,?_⟩
   cases q:g.get? p.1 with
   | none=>rfl
   | some o=>have:=H.keep _ _ q;rw [(NC p hp).2.2] at this;cases this
  ·exact⟨hk₁ _ _ (H.own p hp).1,Nat.ne_of_lt (Heap.lt_size (H.own p hp).1),(H.own p hp).2⟩
 ·obtain⟨L',m',news',F',N',hos',hb',k⟩:=hl
  exact k (Rz F' N' hos' hb')
noncomputable def Eo(P:Addr)(pos:Pos)(qual:Str)(tabs:List (Addr × Obj)):Prop :=
 tabs=[(P,tabObj #[])]∨∃ c' oc vs t,tabs=[(P,tabObj #[rawInt pos.line,rawInt pos.col,.ref c']),(c',oc)]∧oc.data=.fields vs∧vs[1]?=some (.str qual t)
section
variable{prog:Program}{w:World}{A:Around}{E:Value→Shared→Prop}{s:Shared}{h₀:Heap}{L:Addr}{m:Str→Option Value}{rest:List (Addr × Obj)}
theorem Yv:TriplesOk ([]:List Value):=by simp [TriplesOk]
theorem Yw{a b:Nat}{v:Value}:TriplesOk [rawInt a,rawInt b,v]:=by simp [TriplesOk,rawInt]
noncomputable def Mq(w:World)(A:Around)(s:Shared)(prog:Program)(E:Value→Shared→Prop)(h₀:Heap)(L:Addr)(m:Str→Option Value)(rest:List (Addr × Obj))(p:Program)(zw:List Str)(zr:ExcName→Option Value)(mg mb:Str→Option Value)(a c P:Addr)(cn:Str)(cs:Scope)(ccd:Value)(cl:List (Str × Addr))(qual:Str)(p0 p1 p2 p3 p4 p5 pos:Pos)(tabs:List (Addr × Obj))(Q:Value→Shared→Prop):Prop :=
 ∀ (F:Fr h₀ L s.heap m) (N:News h₀ L s.heap (tabs++rest)) (T:Top p zw zr mg mb h₀) (C:CodeHd h₀ c P) (hcd:ccd=.ref c) (hT:Eo P pos qual tabs) (hne:∀ q∈rest,q.1≠P) (hline:(p2.endLine == p5.line)=true) (hcl:closureFor Ea (envX cn cs L a ccd cl)=pure []) (hq:(envX cn cs L a ccd cl).qual++"<lambda>"=qual) (hdef:defaultsOf (En p0) (envX cn cs L a ccd cl)=([],[])) (h:∀ f zt nl h' tk,Eo P pos qual zt→LamIn (nl++(zt++rest)) f→(∀ q∈nl,∀ r∈zt++rest,q.1≠r.1)→(∀ r∈rest,∀ q∈nl++zt,q.1=P∨r.1<q.1∨(q∈tabs))→Fr h₀ L h' m→News h₀ L h' (nl++(zt++rest))→Q (.ref f) { s with heap:=h',toks:=tk }),wpAny (model prog w) A (eval (.Lambda (En p0) (Hd p1 p2 p3 p4 p5) Ea pos) (envX cn cs L a ccd cl)) Q E s
theorem Xt:∀ {w A s prog E h₀ L m rest p zw zr mg mb a c P cn cs ccd cl qual p0 p1 p2 p3 p4 p5 pos tabs Q},Mq w A s prog E h₀ L m rest p zw zr mg mb a c P cn cs ccd cl qual p0 p1 p2 p3 p4 p5 pos tabs Q:=by
 refine @(Ab (Ao neW)<|@(Ab neI<|@(Ab neI<|@(Eu neI<|let_mvar% ?n:=(fun w A s prog E h₀ L m rest p zw zr mg mb a c P cn cs ccd cl qual p0 p1 p2 p3 p4 p5 pos tabs Q=>?_:∀ a b c d e f g h i j k l m n o p q r s t u v w x y z a1 b1 c1 d1 e1,Mq a b c d e f g h i j k l m n o p q r s t u v w x y z a1 b1 c1 d1 e1);?n _ _ _ _ _ _ _ _ _ _ _ _ _ _ _ _ _ _ _ _ _ _ _ _ _ _ _ _ _ _ _))))
 intro F N T C hcd hT hne hline hcl hq hdef h;refine kla_eval hdef ?_
 rcases hT with rfl | ⟨c',oc,vs,t,rfl,hd,hv⟩
 ·refine kla_nest (g:=fun o=>(P,o)::rest) F N T C hcd (.head hne) Yv rfl hcl fun f c' oc vs t ctv h' tk F' N' hd hv hlt hlf=>?_
  rw [← hq] at *
  refine h f [(P,tabObj #[rawInt pos.line,rawInt pos.col,.ref c']),(c',oc)] [(f,kla_obj "<lambda>" ((envX cn cs L a ccd cl).qual++"<lambda>") (En p0) (Hd p1 p2 p3 p4 p5) Ea [] ((mg "__name__").getD .none) c' ctv)] h' tk (.inr ⟨c',oc,vs,t,rfl,hd,hv⟩) ⟨_,p0,p1,p2,p3,p4,p5,_,c',ctv,oc,vs,t,.head _,hline,by k_mem,hd,hv⟩ ?_ ?_ F' ?_
  ·intro q hq' r hr
   rw [List.mem_singleton.mp hq']
   have hcf:∀ r∈(P,tabObj #[])::rest,r.1<f:=fun r hr=>Nat.lt_trans (hlt r hr) hlf
   simp only [List.cons_append,List.nil_append,List.mem_cons] at hr
   rcases hr with rfl | rfl | hr
   ·exact Nat.ne_of_gt (hcf (P,tabObj #[]) (.head _))
   ·exact Nat.ne_of_gt hlf
   ·exact Nat.ne_of_gt (hcf r (.tail _ hr))
  ·intro r hr q hq'
   simp only [List.cons_append,List.nil_append,List.mem_cons,List.not_mem_nil,or_false] at hq'
   rcases hq' with rfl | rfl | rfl
   ·exact .inr (.inl (Nat.lt_trans (hlt r (.tail _ hr)) hlf))
   ·exact .inl rfl
   ·exact .inr (.inl (hlt r (.tail _ hr)))
  ·intro q hq'
   refine N' q ?_
   simp only [List.cons_append,List.nil_append,List.mem_cons] at hq' ⊢
   rcases hq' with h1 | h1 | h1 | h1
   ·exact .inl h1
   ·exact .inr (.inr (.inl h1))
   ·exact .inr (.inl h1)
   ·exact .inr (.inr (.inr h1))
 ·refine kla_hit (c':=c') F N T C hcd (.head _) Yw (by simp [codeAmong,rawInt]) hcl fun f ctv h' tk F' N' hlt=>?_
  rw [← hq] at *
  refine h f [(P,tabObj #[rawInt pos.line,rawInt pos.col,.ref c']),(c',oc)] [(f,kla_obj "<lambda>" ((envX cn cs L a ccd cl).qual++"<lambda>") (En p0) (Hd p1 p2 p3 p4 p5) Ea [] ((mg "__name__").getD .none) c' ctv)] h' tk (.inr ⟨c',oc,vs,t,rfl,hd,hv⟩) ⟨_,p0,p1,p2,p3,p4,p5,_,c',ctv,oc,vs,t,.head _,hline,by k_mem,hd,hv⟩ ?_ ?_ F' N'
  ·intro q hq' r hr
   rw [List.mem_singleton.mp hq'];exact Nat.ne_of_gt (hlt r hr)
  ·intro r hr q hq'
   rcases List.mem_append.mp hq' with z | z
   ·rw [List.mem_singleton.mp z];exact .inr (.inl (hlt r (Mr _ hr)))
   ·exact .inr (.inr z)
end
end Mine
namespace Mine
open PySem.Calls
theorem Yh{decl ns:List Pr}{uri tag txt:Str}{q:Pr}(h:qn decl ns uri tag=some (txt,some q)):q∈ns:=by
 unfold qn at h
 split at h
 ·injection h with h;injection h with _ h;cases h
 ·split at h
  ·injection h with h;injection h with _ h;cases h
  ·split at h
   ·rename_i p e
    injection h with h;injection h with _ h;injection h with h
    rw [← h];exact Mc e
   ·split at h
    ·injection h with h;injection h with _ h;cases h
    ·cases h
theorem Ei{lower ns:List Pr}{n:Str}{r:List Str}{lv:List Pr}{ps:List (Str × Parsed)}{txt:Str}{o:Option Pr}(h:qn (lv++lower) ns (cutName n).1 (cutName n).2=some (txt,o)) :
  declare lower ns (n::r) lv ps=declare lower ns r (lv++o.toList) (ps++[(n,txt,(cutName n).2,(cutName n).1)]):=by
 rw [declare,h]
 cases o with
 | none=>simp
 | some q=>simp
theorem Kg(lower ns:List Pr):∀ (l1 l2:List Str) (lv:List Pr) (ps:List (Str × Parsed)),(∀ n∈l1,known ns (cutName n).1) →
  declare lower ns (l1++l2) lv ps=declare lower ns l2 (declare lower ns l1 lv ps).1 (declare lower ns l1 lv ps).2
 | [],l2,lv,ps,_=>by rw [List.nil_append,declare]
 | n::l1,l2,lv,ps,h=>by
  rw [List.cons_append];have hk:=Je (decl:=lv++lower) (tag:=(cutName n).2) (h n (.head _))
  cases e:qn (lv++lower) ns (cutName n).1 (cutName n).2 with
  | none=>exact absurd e hk
  | some z =>
   obtain⟨txt,o⟩:=z;rw [Ei e,Ei e]
   exact Kg lower ns l1 l2 _ _ fun m hm=>h m (.tail _ hm)
theorem Cd(lower ns:List Pr):∀ (l:List Str) (lv:List Pr) (ps:List (Str × Parsed)),(∀ n∈l,known ns (cutName n).1) →
  (declare lower ns l lv ps).2.map (·.1)=ps.map (·.1)++l∧(∀ q∈(declare lower ns l lv ps).1,q∈lv∨q∈ns)∧(declare lower ns l lv ps).1.length≤lv.length+l.length
 | [],lv,ps,_=>⟨by simp [declare],fun q hq=>.inl hq,by simp [declare]⟩
 | n::l,lv,ps,h=>by
  unfold declare;have hk:=Je (decl:=lv++lower) (tag:=(cutName n).2) (h n (.head _))
  split
  ·obtain⟨a,b,c⟩:=Cd lower ns l lv (ps++[(n,_,(cutName n).2,(cutName n).1)]) fun m hm=>h m (.tail _ hm)
   refine⟨?_,b,?_⟩
   ·rw [a];simp
   ·simp only [List.length_cons];exact(Nl fun hn1=>fk [_,_,_] (.e V0 (.a V1 V2) (.e (.a (.a V1 (.s V2)) K1) V0 K0)) rfl c hn1)
  ·rename_i txt q e
   obtain⟨a,b,c⟩:=Cd lower ns l (lv++[q]) (ps++[(n,txt,(cutName n).2,(cutName n).1)]) fun m hm=>h m (.tail _ hm)
   refine⟨?_,?_,?_⟩
   ·rw [a];simp
   ·intro r hr
    rcases b r hr with z | z
    ·rcases List.mem_append.mp z with z | z
     ·exact .inl z
     ·rw [List.mem_singleton.mp z];exact .inr (Yh e)
    ·exact .inr z
   ·simp only [List.length_cons,List.length_append,List.length_nil] at c ⊢;exact(Nl fun hn1=>fk [_,_,_] (.e V0 (.a (.a V1 (.s K0)) V2) (.e (.a (.a V1 (.s V2)) K1) V0 K0)) rfl c hn1)
  ·rename_i e;exact absurd e hk
theorem Qz{lower ns:List Pr}{n:Str}{lv:List Pr}{ps:List (Str × Parsed)}{txt:Str}{o:Option Pr}(h:qn (lv++lower) ns (cutName n).1 (cutName n).2=some (txt,o)) :
  declare lower ns [n] lv ps=(lv++o.toList,ps++[(n,txt,(cutName n).2,(cutName n).1)]):=by
 rw [Ei h,declare]
def Dx(tups:List (Addr × Obj))(kv:Str × Value)(p:Str × Parsed):Prop:=kv.1=p.1∧∃ a t1 t2 t3,kv.2=.ref a∧(a,Ae #[.str p.2.1 t1,.str p.2.2.1 t2,.str p.2.2.2 t3])∈tups
theorem Dx.mono{news news':List (Addr × Obj)}(hs:∀ p∈news,p∈news'){v:Str × Value}{q:Str × Parsed}(x:Dx news v q):Dx news' v q:=x.imp_right fun x=>x.imp fun _ x=>x.imp fun _ x=>x.imp fun _ x=>x.imp fun _ x=>x.imp_right (hs _)
theorem All2.snoc{α β:Type}{P:α→β→Prop}{l:List α}{r:List β}{a:α}{b:β}(h:All2 P l r)(x:P a b):All2 P (l++[a]) (r++[b]):=h.append (.cons x .nil)
theorem Dd{q:Str}(h:Di q=true):Mv q (cutName q).1 (cutName q).2=true∧q.length≤200∧(cutName q).1.length≤200∧(cutName q).2.length≤200:=by
 unfold Di at h
 simp only [Bool.and_eq_true,decide_eq_true_eq] at h
 exact⟨h.1.1.1,h.1.1.2,h.1.2,h.2⟩
theorem Dx.find{tups:List (Addr × Obj)}:∀ {kvs:List (Str × Value)} {ps:List (Str × Parsed)},All2 (Dx tups) kvs ps→∀ {k:Str} {p:Parsed},ps.lookup k=some p→∃ a t1 t2 t3,valueAt kvs k=some (.ref a)∧(a,Ae #[.str p.1 t1,.str p.2.1 t2,.str p.2.2 t3])∈tups
 | _,_,.nil,k,p,h=>by simp at h
 | _,_,.cons (a:=kv) (b:=q) hx r,k,p,h=>by
  obtain⟨e,a,t1,t2,t3,e2,hm⟩:=hx;obtain⟨k1,v1⟩:=kv;obtain⟨k2,p2⟩:=q
  simp only at e e2 hm
  subst e e2;rw [List.lookup_cons] at h
  by_cases hk:k=k1
  ·subst hk
   simp only [beq_self_eq_true] at h
   injection h with h
   subst h
   exact⟨a,t1,t2,t3,by simp [valueAt],hm⟩
  ·have:(k == k1)=false:=by simpa using hk
   rw [this] at h;obtain⟨a',u1,u2,u3,e3,hm3⟩:=Dx.find r h;refine⟨a',u1,u2,u3,?_,hm3⟩;rw [← e3]
   simp [valueAt,List.find?_cons,Ne.symm hk]
theorem Fm{h:Heap}{news:List (Addr × Obj)}(hn:∀ p∈news,h.get? p.1=some p.2){v:Value}{q:Pr}(x:Ap news v q):Cg h v q:=let ⟨a,t1,t2,e,hm⟩:=x;⟨a,t1,t2,e,_,hn _ hm,rfl,_,rfl⟩
end Mine
namespace Mine
open PySem.Calls
open PyProof.Rows.LCg
section
variable{prog:Program}{w:World}{A:Around}{E:Value→Shared→Prop}{s:Shared}{h₀:Heap}{L:Addr}{env:Env}{os:OsState}
noncomputable def Ez(w:World)(A:Around)(s:Shared)(prog:Program)(E:Value→Shared→Prop)(h₀:Heap)(L:Addr)(env:Env)(os:OsState)(target:PySem.Expr)(body:List Stmt)(ax:Addr)(its:Array Value)(R:Result→Shared→Prop)(J:List Value→(Str→Option Value)→List (Addr × Obj)→Prop)(m:Str→Option Value)(own:List (Addr × Obj)):Prop :=
 ∀ (Bd:List (Addr × Obj)→Value→(Str→Option Value)→(Str→Option Value)→Prop) (hh:A.handled=none) (hsrc:∀ rem m own,J rem m own→SrcAt h₀ ax its own) (hown:∀ (I:Addr) (i:Nat) (v:Value) (s:Shared) (Q:Unit→Shared→Prop) (E':Value→Shared→Prop),s.heap.IsListIter I ax i→v∈its.toList→Q () s→wpAny (model prog w) A (letOwnedTupleGo target (.ref I) v) Q E' s) (hasg:∀ (s1:Shared) (v:Value) (rem:List Value) (m:Str→Option Value) (own news:List (Addr × Obj)) (Q:Unit→Shared→Prop) (E':Value→Shared→Prop),J (v::rem) m own→(∀ p∈own,p∈news)→Fr h₀ L s1.heap m→News h₀ L s1.heap news →
   (∀ h' tk m',Fr h₀ L h' m'→News h₀ L h' news→Bd own v m m'→Q () { s1 with heap:=h',toks:=tk })→wpAny (model prog w) A (assign target env v) Q E' s1) (step:∀ (s1:Shared) v rem m m' own I oI,J (v::rem) m own→Bd own v m m'→Fr h₀ L s1.heap m'→News h₀ L s1.heap ((I,oI)::own)→(∀ p∈own,p.1≠I)→s1.os=os→AllBare s1.gens →
   wpAny (model prog w) A (execs body env) (fun f s3=>match f with
    | .next | .cont=>∃ m'' own',J rem m'' own'∧Fr h₀ L s3.heap m''∧News h₀ L s3.heap ((I,oI)::own')∧(∀ p∈own',p.1≠I)∧s3.os=os∧AllBare s3.gens
    | .brk=>R (.ok .next) s3
    | .ret v=>R (.ok (.ret v)) s3) (notedBy (model prog w) A env fun e s'=>R (.error e) s') s1) (done:∀ (s1:Shared) m own,J [] m own→Fr h₀ L s1.heap m→News h₀ L s1.heap own→s1.os=os→AllBare s1.gens→R (.ok .next) s1) (hJ:J its.toList m own) (F:Fr h₀ L s.heap m) (N:News h₀ L s.heap own) (hos:s.os=os) (hb:AllBare s.gens),wpAny (model prog w) A (pyIter (.ref ax)) (fun it s₁=>codeAny (model prog w) A (.forLoop target it body [] env) R s₁) E s
theorem Pv:∀ a b c d e f g h i j k l m n o p q,Ez a b c d e f g h i j k l m n o p q:=by
 refine Ab (Ao neW)<|Ab neI<|Au neI<|let_mvar% ?n:=(fun w A s prog E h₀ L env os target body ax its R J m own=>?_:∀ a b c d e f g h i j k l m n o p q,Ez a b c d e f g h i j k l m n o p q);?n _ _ _ _ _ _ _ _ _ _ _ _ _ _ _ _ _
 intro Bd hh hsrc hown hasg step done hJ F N hos hb;have hl:=(hsrc _ _ _ hJ).list F.keep N;refine wpAny_pyIter_list hl ?_
 generalize hIeq:s.heap.objs.size=I
 have hLI:L<I:=by rw [← hIeq];exact F.ns.lt
 have hI0:h₀.get? I=none:=Heap.get?_none_of_le (Nat.le_trans F.above (Nat.le_of_lt hLI));have hIL:I≠L:=Nat.ne_of_gt hLI
 refine codeAny_forLoop_any (fun k s'=>∃ i rem m own oI,k=rem.length∧its.toList.drop i=rem∧i+rem.length=its.size∧J rem m own∧Fr h₀ L s'.heap m∧News h₀ L s'.heap own∧(∀ p∈own,p.1≠I) ∧
  s'.heap.get? I=some oI∧oI.cls=.type "list_iterator"∧oI.data=.fields #[.ref ax,.int i 0]∧s'.os=os∧AllBare s'.gens) ?_ its.size
  ⟨0,its.toList,m,own,_,by simp,rfl,by simp,hJ,F.push _,fun p hp=>⟨Heap.get?_push_of_some _ (N p hp).1,(N p hp).2⟩,fun p hp=>Nat.ne_of_lt (by rw [← hIeq];exact Heap.lt_size (N p hp).1),by rw [← hIeq];exact Heap.get?_push_size _ rfl,rfl,rfl,hos,hb⟩
 rintro k s' ⟨i,rem,m,own,oI,rfl,hrem,zd,hJ,F',N',off,hi1,hi2,hi3,hos',hb'⟩;have hit:s'.heap.IsListIter I ax i:=⟨oI,hi1,hi2,hi3⟩;have hl':s'.heap.IsList ax its:=(hsrc _ _ _ hJ).list F'.keep N'
 cases rem with
 | nil =>
  refine wpAny_pyNext_list_end hh hit hl' ?_ fun h₂ he₂=>?_
  ·have:its.size≤i:=by simp at zd;exact(Es zd)
   simp;exact this
  ·dsimp only
   exact Wp (done _ m own hJ (Dh F' he₂ (Ne.symm hIL) hI0) (fun p hp=>⟨he₂ _ _ (off p hp) (N' p hp).1,(N' p hp).2⟩) hos' hb')
 | cons v rem =>
  have hlt':i<its.size:=by simp at zd;exact(Nt fun hn1=>fk [_,_,_] (.e (.a V0 (.s V1)) V2 (.e V2 V0 K0)) rfl (El zd) hn1)
  have hget:its[i]?=some v:=by
   rw [← Array.getElem?_toList];have:=congrArg (·[0]?) hrem
   simp only [List.getElem?_drop,Nat.add_zero,List.getElem?_cons_zero] at this
   exact this
  refine wpAny_pyNext_list_item hit hl' hget fun h₂ hit₂ hs₂=>?_
  dsimp only
  have hmem:v∈its.toList:=by rw [← Array.getElem?_toList] at hget;exact List.mem_of_getElem? hget
  refine hown I (i+1) v _ _ _ hit₂ hmem ?_;obtain⟨oI',heI,hcI,hdI⟩:=id hit₂;have F₂:=Dh F' hs₂.extBut (Ne.symm hIL) hI0
  have N₂:News h₀ L h₂ ((I,oI')::own):=fun p hp=>by
   rcases List.mem_cons.mp hp with rfl | hp
   ·exact⟨heI,hIL,hI0⟩
   ·exact⟨hs₂.extBut _ _ (off p hp) (N' p hp).1,(N' p hp).2⟩
  refine hasg _ v rem m own ((I,oI')::own) _ _ hJ (fun p hp=>.tail _ hp) F₂ N₂ fun h₃ tk₃ m' F₃ N₃ hB=>?_
  refine wpAny_mono (step { s' with heap:=h₃,toks:=tk₃ } v rem m m' own I oI' hJ hB F₃ N₃ off hos' hb') (fun f s₄ h₄=>?_) fun _ _ z=>z
  cases f with
  | brk=>exact h₄
  | ret v=>exact h₄
  | _ =>
   obtain⟨m'',own',hJ',F₄,N₄,off₄,hos₄,hb₄⟩:=h₄
   refine⟨rem.length,Nat.lt_succ_self _,i+1,rem,m'',own',oI',rfl,?_,by simp at zd ⊢;exact(Nat.le_antisymm (Nl fun hn2=>fk [_,_,_] (.e (.a V0 (.s V1)) V2 (.e (.s V2) (.a (.s V0) V1) K0)) rfl (El zd) hn2) (Nl fun hn3=>fk [_,_,_] (.e V0 (.a V1 (.s V2)) (.e (.a (.a (.s V1) V2) K1) V0 K0)) rfl (Es zd) hn3)),hJ',F₄,fun p hp=>N₄ p (.tail _ hp),off₄,(N₄ (I,oI') (.head _)).1,hcI,hdI,hos₄,hb₄⟩
   rw [← List.drop_drop,hrem];rfl
theorem Gq{w A s prog E h₀ L env os target body ax its R m own}(J):Ez w A s prog E h₀ L env os target body ax its R J m own:=Pv _ _ _ _ _ _ _ _ _ _ _ _ _ _ _ _ _
theorem For_{target iter:PySem.Expr}{body orelse:List Stmt}{pos:Pos}{Q:Flow→Shared→Prop}{M:Model}(hfs:∀ x,foldedSetIterable iter env x=pure x)
  (h:wpAny M A (eval iter env) (fun xv s₁=>wpAny M A (pyIter xv) (fun it s₂=>codeAny M (A.mark none) (.forLoop target it body orelse env) (fun r s'=>match r with | .ok f=>Q f s' | .error e=>cameBackBy M A env E e s') s₂) E s₁) E s) :
  wpAny M A (exec (.For target iter body orelse pos) env) Q E s:=by
 rw [exec_For]
 refine Wb (wpAny_standAt (Wb (wpAny_mono h (fun xv s₁ h₁=>?_) fun _ _ z=>z)))
 rw [hfs]
 refine Wb (Wp (Wb (wpAny_standAt (Wb (wpAny_holding (wpAny_mono h₁ (fun it s₂ h₂=>?_) fun _ _ z=>z))))))
 exact wpAny_runOwn h₂
end
end Mine
namespace Mine
open PySem.Calls
open PyProof.Rows.LCg
noncomputable abbrev m5(a b c d e:Str)(m0:Str→Option Value)(u1 u2 u3 u4 u5:Option Value):Str→Option Value :=
 fun y=>if y=e then u5 else if y=d then u4 else if y=c then u3 else if y=b then u2 else if y=a then u1 else m0 y
theorem Rm{α:Type}{c:Prop}[Decidable c]{t a b:α}(h:¬ c→a=b):(if c then t else a)=if c then t else b:=by
 by_cases hc:c
 ·rw [if_pos hc,if_pos hc]
 ·rw [if_neg hc,if_neg hc,h hc]
theorem Ho{α:Type}{c:Prop}[Decidable c]{t x b:α}(hp:c→x=t)(hn:¬ c→x=b):x=if c then t else b:=by
 by_cases hc:c
 ·rw [if_pos hc];exact hp hc
 ·rw [if_neg hc];exact hn hc
theorem Ut{a b c d e:Str}{m0:Str→Option Value}{u1 u2 u3 u4 u5 v1 v2 v3 v4 v5:Option Value} :
  (fun y=>if y=e then v5 else if y=d then v4 else if y=c then v3 else if y=b then v2 else if y=a then v1 else m5 a b c d e m0 u1 u2 u3 u4 u5 y)=m5 a b c d e m0 v1 v2 v3 v4 v5:=funext fun y=>Rm fun h1=>Rm fun h2=>Rm fun h3=>Rm fun h4=>Rm fun h5=>(if_neg h1).trans ((if_neg h2).trans ((if_neg h3).trans ((if_neg h4).trans (if_neg h5))))
theorem Us{a b c d e:Str}{m0:Str→Option Value}(ha:m0 a=none)(hb:m0 b=none)(hc:m0 c=none)(hd:m0 d=none)(he:m0 e=none):m0=m5 a b c d e m0 none none none none none:=funext fun y=>Ho (fun h=>(congrArg m0 h).trans he) fun _=>Ho (fun h=>(congrArg m0 h).trans hd) fun _=>Ho (fun h=>(congrArg m0 h).trans hc) fun _=>Ho (fun h=>(congrArg m0 h).trans hb) fun _=>Ho (fun h=>(congrArg m0 h).trans ha) fun _=>rfl
theorem lookup_mem{β:Type}{k:Str}:∀ {ps:List (Str × β)},k∈ps.map (·.1)→∃ p,ps.lookup k=some p
 | [],h=>by simp at h
 | (k1,p1)::ps,h=>by
  rw [List.lookup_cons]
  by_cases hk:k=k1
  ·subst hk;simp
  ·have:(k == k1)=false:=by simpa using hk
   rw [this];refine lookup_mem (ps:=ps) ?_
   rcases List.mem_cons.mp h with z | z
   ·exact absurd z hk
   ·exact z
theorem mem_lookup{β:Type}{k:Str}{p:β}:∀ {ps:List (Str × β)},ps.lookup k=some p→(k,p)∈ps
 | [],h=>by simp at h
 | (k1,p1)::ps,h=>by
  rw [List.lookup_cons] at h
  by_cases hk:k=k1
  ·subst hk
   simp only [beq_self_eq_true] at h
   injection h with h
   rw [h];exact .head _
  ·have:(k == k1)=false:=by simpa using hk
   rw [this] at h;exact .tail _ (mem_lookup h)
theorem Lw(lower ns:List Pr)(hl:∀ q∈lower,q.2.length≤200)(hn:∀ q∈ns,q.2.length≤200):∀ (l:List Str) (lv:List Pr) (ps:List (Str × Parsed)),(∀ q∈lv,q.2.length≤200)→(∀ n∈l,(cutName n).2.length≤200)→∀ e∈(declare lower ns l lv ps).2,
  e∈ps∨(e.1∈l∧e.2.2.2=(cutName e.1).1∧e.2.2.1=(cutName e.1).2∧e.2.1.length≤500)
 | [],lv,ps,_,_,e,he=>.inl (by simpa [declare] using he)
 | n::l,lv,ps,hv,hc,e,he=>by
  cases hq:qn (lv++lower) ns (cutName n).1 (cutName n).2 with
  | none =>
   rw [declare,hq] at he;exact .inl he
  | some z =>
   obtain⟨txt,o⟩:=z;rw [Ei hq] at he
   have zd:txt.length≤500:=Yg hq (fun q hq'=>by
    rcases List.mem_append.mp hq' with z | z
    ·exact hv q z
    ·exact hl q z) hn (hc n (.head _))
   have hv':∀ q∈lv++o.toList,q.2.length≤200:=fun q hq'=>by
    rcases List.mem_append.mp hq' with z | z
    ·exact hv q z
    ·cases o with
     | none=>simp at z
     | some r=>simp at z;rw [z];exact hn r (Yh hq)
   rcases Lw lower ns hl hn l _ _ hv' (fun m hm=>hc m (.tail _ hm)) e he with z | ⟨z1,z2⟩
   ·rcases List.mem_append.mp z with z | z
    ·exact .inl z
    ·rw [List.mem_singleton.mp z];exact .inr ⟨.head _,rfl,rfl,zd⟩
   ·exact .inr ⟨.tail _ z1,z2⟩
noncomputable def Wz(x1 x2:Str)(own:List (Addr × Obj))(v:Value)(m m':Str→Option Value):Prop :=
 ∃ (q:Pr) (t1 t2:Tok),(∃ a,v=.ref a∧(a,Ae #[.str q.1 t1,.str q.2 t2])∈own)∧m'=fun y=>if y=x2 then some (.str q.2 t2) else if y=x1 then some (.str q.1 t1) else m y
section
variable{prog:Program}{w:World}{A:Around}{E:Value→Shared→Prop}{s:Shared}{h₀:Heap}{L:Addr}{m:Str→Option Value}{news own:List (Addr × Obj)}
theorem Xa{cn:Str}{cs:Scope}{a:Addr}{ccd:Value}{cl:List (Str × Addr)}{x1 x2:Str}{p1 p2 pos:Pos}{k:Nat}{v:Value}{q:Pr}{Q:Unit→Shared→Prop}(hh:A.handled=none)(hq:Ap own v q)(hsub:∀ p∈own,p∈news)(hF:Fr h₀ L s.heap m)(N:News h₀ L s.heap news)
  (h:∀ h' tk m',Fr h₀ L h' m'→News h₀ L h' news→Wz x1 x2 own v m m'→Q () { s with heap:=h',toks:=tk })
  (hk:cs.kind=.function) (hl1:(envX cn cs L a ccd cl).kindOf x1=some .local) (hl2:(envX cn cs L a ccd cl).kindOf x2=some .local) :
  wpAny (model prog w) A (assign (.Tuple [.Name x1 p1,.Name x2 p2] k pos) (envX cn cs L a ccd cl) v) Q E s:=by
 obtain⟨t,t1,t2,rfl,hm⟩:=hq;rw [arm_assign_Tuple];refine Wb (wpAny_standAt ?_)
 show wpAny _ _ (unpack (.ref t) [(false,assign (.Name x1 p1) (envX cn cs L a ccd cl)),(false,assign (.Name x2 p2) (envX cn cs L a ccd cl))]) _ _ _
 unfold unpack;refine Wb (wpAny_holding ?_)
 refine unpackItems_tuple (items:=#[.str q.1 t1,.str q.2 t2]) hh ⟨_,(N _ (hsub _ hm)).1,rfl,_,rfl⟩ fun h' he=>?_
 have hF':Fr h₀ L h' m:=Fr.extBut hF he (Nat.le_refl _);have N':News h₀ L h' news:=News.ext N he
 show wpAny _ _ (do holding [.str q.2 t2] (assign (.Name x1 p1) (envX cn cs L a ccd cl) (.str q.1 t1));do holding [] (assign (.Name x2 p2) (envX cn cs L a ccd cl) (.str q.2 t2));pure ()) _ _ _
 refine Wb (wpAny_holding (PyProof.Rows.assign_Name (storeX_L hF' N' (fun h2 F2 N2=>?_) hk hl1)))
 refine Wb (wpAny_holding (PyProof.Rows.assign_Name (storeX_L F2 N2 (fun h3 F3 N3=>?_) hk hl2)))
 exact Wp (h h3 _ _ F3 N3 ⟨q,t1,t2,⟨t,rfl,hm⟩,rfl⟩)
theorem Cz{cn:Str}{cs:Scope}{a:Addr}{ccd:Value}{cl:List (Str × Addr)}{x1 x2 x3:Str}{p1 p2 p3 pos:Pos}{k:Nat}{t:Addr}{v1 v2 v3:Value}{Q:Unit→Shared→Prop}(hh:A.handled=none)(hF:Fr h₀ L s.heap m)(N:News h₀ L s.heap news)(ht:IsTup s.heap t #[v1,v2,v3])
  (h:∀ h' tk,Fr h₀ L h' (fun y=>if y=x3 then some v3 else if y=x2 then some v2 else if y=x1 then some v1 else m y)→News h₀ L h' news→Q () { s with heap:=h',toks:=tk })
  (hk:cs.kind=.function) (hl1:(envX cn cs L a ccd cl).kindOf x1=some .local) (hl2:(envX cn cs L a ccd cl).kindOf x2=some .local) (hl3:(envX cn cs L a ccd cl).kindOf x3=some .local) :
  wpAny (model prog w) A (assign (.Tuple [.Name x1 p1,.Name x2 p2,.Name x3 p3] k pos) (envX cn cs L a ccd cl) (.ref t)) Q E s:=by
 rw [arm_assign_Tuple];refine Wb (wpAny_standAt ?_)
 show wpAny _ _ (unpack (.ref t) [(false,assign (.Name x1 p1) (envX cn cs L a ccd cl)),(false,assign (.Name x2 p2) (envX cn cs L a ccd cl)),(false,assign (.Name x3 p3) (envX cn cs L a ccd cl))]) _ _ _
 unfold unpack;refine Wb (wpAny_holding ?_)
 refine unpackItems_tuple (items:=#[v1,v2,v3]) hh ht fun h' he=>?_
 have hF':Fr h₀ L h' m:=Fr.extBut hF he (Nat.le_refl _);have N':News h₀ L h' news:=News.ext N he
 show wpAny _ _ (do holding [v2,v3] (assign (.Name x1 p1) (envX cn cs L a ccd cl) v1);do holding [v3] (assign (.Name x2 p2) (envX cn cs L a ccd cl) v2);do holding [] (assign (.Name x3 p3) (envX cn cs L a ccd cl) v3);pure ()) _ _ _
 refine Wb (wpAny_holding (PyProof.Rows.assign_Name (storeX_L hF' N' (fun h2 F2 N2=>?_) hk hl1)))
 refine Wb (wpAny_holding (PyProof.Rows.assign_Name (storeX_L F2 N2 (fun h3 F3 N3=>?_) hk hl2)))
 refine Wb (wpAny_holding (PyProof.Rows.assign_Name (storeX_L F3 N3 (fun h4 F4 N4=>?_) hk hl3)))
 exact Wp (h h4 _ F4 N4)
end
section
variable{prog:Program}{w:World}{A:Around}{E:Value→Shared→Prop}{s:Shared}
theorem Ph{value slice:PySem.Expr}{d:Addr}{kvs:List (Str × Value)}{k:Str}{t:Tok}{v:Value}{Q:Value→Shared→Prop}(hd:s.heap.DictOf (PySem.strKind prog w) d kvs)(hv:valueAt kvs k=some v)(h:Q v { s with toks:=s.toks+1 })
  (hs:subscripted slice false (.ref d) (.str k t)=operate [.ref d,.str k t] (getItem (.ref d) (.str k t)):=by with_unfolding_all rfl) :
  wpAny (model prog w) A (subscriptTail value slice (.ref d) (.str k t)) Q E s :=
 tail_any hd.typeIs slot_dict_getitem.lookup (wpAny_getItem_of (knd:=PySem.strKind prog w) (by simp [PySem.strKind,Value.isStrOf]) hd.mapOf hv h) hs
end
end Mine
namespace Mine
open PySem.Calls
section
variable{prog:Program}{w:World}{A:Around}{E:Value→Shared→Prop}{s:Shared}
theorem Xp{d:Addr}{l:List ((Str × Tok) × (Str × Tok))}{n:Nat}{pl:Sem Bool}{Q:Value × List Value→Shared→Prop}(hd:s.heap.get? d=some (dictOf (Bg w.params l) n))(h:Q (.builtin "dict.get",[.ref d]) s) :
  wpAny (model prog w) A (getMethod (.ref d) "get" pl) Q E s :=
 getMethod_builtin ⟨_,hd,rfl⟩ PySem.F.plainAttrs_dict PySem.F.slot_dict_get PySem.F.type_dict_get (fun a e=>by cases e;exact⟨_,hd,rfl⟩) h
theorem Xb{d:Addr}{kvs:List (Str × Value)}{k:Str}{t:Tok}{Q:Value→Shared→Prop}(hd:s.heap.DictOf (PySem.strKind prog w) d kvs)(lo:(d == sysModules)=false)(h:Q ((valueAt kvs k).getD .none) { s with toks:=s.toks+1 }) :
  wpAny (model prog w) A (call (.builtin "dict.get") [.ref d,.str k t]) Q E s :=
 call_meetsIn PySem.F.slot_dict_get hd.typeIs PySem.F.entry_dict_get (PySem.F.args_dict_get_2 _ _) (meets_dict_get (PySem.strKind prog w) d (k:=k) (by simp [PySem.strKind,Value.isStrOf]) lo) ⟨_,hd.mapOf,h⟩
theorem Sx(k:Str):∀ l:List ((Str × Tok) × (Str × Tok)),((l.map fun p=>(p.1.1,p.2.1)).lookup k=none∧valueAt (Ff l) k=none)∨∃ v t,(l.map fun p=>(p.1.1,p.2.1)).lookup k=some v∧valueAt (Ff l) k=some (.str v t)∧∃ p∈l,p.2.1=v
 | []=>.inl ⟨rfl,rfl⟩
 | p::l=>by
  by_cases hk:k=p.1.1
  ·refine .inr ⟨p.2.1,p.2.2,?_,?_,p,.head _,rfl⟩
   ·rw [List.map_cons,List.lookup_cons,hk];simp
   ·simp [valueAt,hk]
  ·have hb:(k == p.1.1)=false:=by simpa using hk
   have h1:((p::l).map fun p=>(p.1.1,p.2.1)).lookup k=(l.map fun p=>(p.1.1,p.2.1)).lookup k:=by rw [List.map_cons,List.lookup_cons,hb]
   have h2:valueAt (Ff (p::l)) k=valueAt (Ff l) k:=by simp [valueAt,List.find?_cons,Ne.symm hk]
   rw [h1,h2]
   rcases Sx k l with z | ⟨v,t,z1,z2,q,hq,z3⟩
   ·exact .inl z
   ·exact .inr ⟨v,t,z1,z2,q,.tail _ hq,z3⟩
theorem Df{value slice:PySem.Expr}{l:Addr}{v:Value}{vs:List Value}{t:Tok}{Q:Value→Shared→Prop}(hl:IsTup s.heap l (v::vs).toArray)(h:Q v s)
  (hs:subscripted slice false (.ref l) (.int 0 t)=operate [.ref l,.int 0 t] (getItem (.ref l) (.int 0 t)):=by with_unfolding_all rfl) :
  wpAny (model prog w) A (subscriptTail value slice (.ref l) (.int 0 t)) Q E s :=
 item_tupleT hl (by decide) (by decide) (j:=0) (by simp [seqIndex?]) rfl h hs
theorem join_list{x:Str}{t:Tok}{l:Addr}{ds:List (Str × Tok)}{Q:Value→Shared→Prop}(hl:s.heap.IsList l (strValues ds).toArray)(hok:JoinOk x (ds.map (·.1))=true)(h:∀ t' k,Q (.str (Txt.join x (ds.map (·.1))) t') { s with toks:=k }) :
  wpAny (model prog w) A (call (.builtin "str.join") [.str x t,.ref l]) Q E s:=by
 unfold JoinOk at hok;rw [Bool.not_eq_true'] at hok;refine wpAny_call (codeAny_call_builtin F.slot_str_join.plain F.entry_str_join (F.slot_str_join.check _ _ _ _ _ _ _ _ (typeIs_str _ _ _) (F.args_str_join_2 _ _) ?_));refine meets_str_join_list x t l ds hok prog w A (wants Q E) s ⟨hl,post_join ds ⟨joinFit_length hok,?_⟩⟩;exact h
end
end Mine
namespace Mine
open PySem.Calls
theorem Oi{d:Addr}{l:List (Addr × Obj)}(h:AllLt d l)(p:Addr × Obj)(hp:p∈l):p.1<d:=by
 induction l with
 | nil=>exact nomatch hp
 | cons q l ih =>
  obtain⟨h1,h2⟩:=h
  rcases List.mem_cons.mp hp with rfl | hp
  ·exact h1
  ·exact ih h2 hp
theorem Uc{W Z T:List (Addr × Obj)}{v:Value}{q:Pr}(hW:∀ r∈W,r.2.cls≠.type "tuple")(h:Ap (T++(W++Z)) v q):Ap (T++Z) v q:=by
 obtain⟨a',y1,y2,e,hm⟩:=h;refine⟨a',y1,y2,e,?_⟩
 rcases List.mem_append.mp hm with z | z
 ·exact Ml _ z
 ·rcases List.mem_append.mp z with z | z
  ·exact absurd rfl (hW _ z)
  ·exact Mr _ z
theorem off7{a x dx dl out wr ns pr:Addr}{o1 o2 o3 o4 o5 o6 o7:Obj}(h:∀ q∈[(x,o1),(dx,o2),(dl,o3)]++[(out,o4),(wr,o5),(ns,o6),(pr,o7)],a≠q.1):a≠x∧a≠dx∧a≠dl∧a≠out∧a≠wr∧a≠ns∧a≠pr :=
 ⟨h (x,o1) (.head _),h (dx,o2) (.tail _ (.head _)),h (dl,o3) (.tail _ (.tail _ (.head _))),h (out,o4) (.tail _ (.tail _ (.tail _ (.head _)))),h (wr,o5) (.tail _ (.tail _ (.tail _ (.tail _ (.head _))))),h (ns,o6) (.tail _ (.tail _ (.tail _ (.tail _ (.tail _ (.head _)))))),h (pr,o7) (.tail _ (.tail _ (.tail _ (.tail _ (.tail _ (.tail _ (.head _))))))) ⟩
theorem fin_led{g h:Heap}{L:Addr}{W O4 tlB tups prs tmp base:List (Addr × Obj)}{d p c:Addr × Obj}(hbase:W++(O4++(p::(tups++(prs++tmp))))=base)(hc:c∈tmp)(N:News g L h (d::(tlB++base))) :
  News g L h ((W++O4)++(c::d::(tlB++(p::(tups++(prs++tmp)))))):=News.sub N (by
 subst hbase
 exact Fp (Fp (fun _ h=>.tail _ (Mr _ (Ml _ (h)))) (fun _ h=>.tail _ (Mr _ (Mr _ (Ml _ (h)))))) (Fc (.tail _ (Mr _ (Mr _ (Mr _ (.tail _ (Mr _ (Mr _ (hc)))))))) (Fc (.head _) (Fp (fun _ h=>.tail _ (Ml _ (h))) (Fc (.tail _ (Mr _ (Mr _ (Mr _ (.head _))))) (Fp (fun _ h=>.tail _ (Mr _ (Mr _ (Mr _ (.tail _ (Ml _ (h))))))) (Fp (fun _ h=>.tail _ (Mr _ (Mr _ (Mr _ (.tail _ (Mr _ (Ml _ (h)))))))) (fun _ h=>.tail _ (Mr _ (Mr _ (Mr _ (.tail _ (Mr _ (Mr _ (h)))))))))))))))
theorem fin_off{x dx dl out wr ns pr:Addr}{o1 o2 o3 o3' o4 o5 o6 o7:Obj}{tlB tups prs tmp base:List (Addr × Obj)}{d p:Addr × Obj}
  (hbase:[(x,o1),(dx,o2),(dl,o3)]++([(out,o4),(wr,o5),(ns,o6),(pr,o7)]++(p::(tups++(prs++tmp))))=base)
  (hd:∀ r∈base,d.1≠r.1) (htB:∀ q∈tlB,q.1≠d.1∧∀ r∈base,q.1≠r.1)
  (hfr:∀ q∈p::(tups++prs),q.1≠x∧q.1≠dx∧q.1≠dl∧∀ r∈[(out,o4),(wr,o5),(ns,o6),(pr,o7)]++tmp,q.1≠r.1)
  (htmp:∀ q∈tmp,∀ r∈[(x,o1),(dx,o2),(dl,o3')]++[(out,o4),(wr,o5),(ns,o6),(pr,o7)],q.1≠r.1) :
  ∀ r∈d::(tlB++(p::(tups++(prs++tmp)))),r.1≠x∧r.1≠dx∧r.1≠dl∧r.1≠out∧r.1≠wr∧r.1≠ns∧r.1≠pr:=by
 have hb7:∀ q∈[(x,o1),(dx,o2),(dl,o3)]++[(out,o4),(wr,o5),(ns,o6),(pr,o7)],q∈base:=fun q hq=>by
  rw [← hbase]
  rcases List.mem_append.mp hq with z | z
  ·exact Ml _ z
  ·exact Mr _ (Ml _ z)
 have h3:∀ q∈p::(tups++prs),q.1≠x∧q.1≠dx∧q.1≠dl∧q.1≠out∧q.1≠wr∧q.1≠ns∧q.1≠pr:=fun q hq=>by
  obtain⟨e1,e2,e3,e4⟩:=hfr q hq
  exact⟨e1,e2,e3,e4 (out,o4) (by simp),e4 (wr,o5) (by simp),e4 (ns,o6) (by simp),e4 (pr,o7) (by simp)⟩
 intro r hr
 rcases List.mem_cons.mp hr with rfl | hr
 ·exact off7 fun q hq=>hd q (hb7 q hq)
 rcases List.mem_append.mp hr with hr | hr
 ·exact off7 fun q hq=>(htB r hr).2 q (hb7 q hq)
 rcases List.mem_cons.mp hr with rfl | hr
 ·exact h3 _ (.head _)
 rcases List.mem_append.mp hr with hr | hr
 ·exact h3 r (.tail _ (Ml _ hr))
 rcases List.mem_append.mp hr with hr | hr
 ·exact h3 r (.tail _ (Mr _ hr))
 exact off7 (htmp r hr)
theorem Ra{nps lv:List Pr}{l:List Pr}{ps:List (Str × Parsed)}(hlv:∀ q∈lv,q∈nps)(hNq:∀ q∈nps,q.1.length≤100∧q.2.length≤200∧(Ey q.1).length≤1000)(hl:∀ q∈l,q.2.length≤100∧(Ey q.2).length≤1000∧q.1.length≤200)
  (hps:∀ n pp,ps.lookup n=some pp→pp.2.2.length≤200∧pp.2.1.length≤200∧pp.1.length≤500):∀ q∈Bi lv ps l,q.1.length≤1000∧q.2.length≤100∧(Ey q.2).length≤1000:=by
 intro q hq;unfold Bi at hq
 rcases List.mem_append.mp hq with z | z
 ·obtain⟨q',hq',rfl⟩:=List.mem_map.mp ((An _ _).mem_iff.mp z)
  obtain⟨e1,e2,e3⟩:=hNq q' (hlv q' hq');refine⟨?_,e1,e3⟩;unfold Cm
  split
  ·show (Str.ofString "xmlns").length≤1000;decide
  ·show ("xmlns:"++q'.2).length≤1000
   have:("xmlns:"++q'.2).length=(Str.ofString "xmlns:").length+q'.2.length:=Str.length_append _ _
   have h6:(Str.ofString "xmlns:").length=6:=by decide
   exact(Nl fun hn1=>fk [_,_,_] (.e V0 (.k 200) (.e V1 (.a V2 V0) (.e V2 (.k 6) (.e (.s (.k 1000)) V1 K0)))) rfl e2 (El this) (El h6) hn1)
 ·obtain⟨q',hq',rfl⟩:=List.mem_map.mp z
  obtain⟨e1,e2,e3⟩:=hl q' ((An _ _).mem_iff.mp hq');unfold Hx
  split
  ·rename_i pp hpp
   obtain⟨f1,f2,f3⟩:=hps _ _ hpp;refine⟨?_,e1,e2⟩
   split
   ·show pp.2.1.length≤1000;exact(Nl fun hn1=>fk [_] (.e V0 (.k 200) (.e (.s (.k 1000)) V0 K0)) rfl f2 hn1)
   ·show pp.1.length≤1000;exact(Nl fun hn1=>fk [_] (.e V0 (.k 500) (.e (.s (.k 1000)) V0 K0)) rfl f3 hn1)
  ·exact⟨by exact(Nl fun hn1=>fk [_] (.e V0 (.k 200) (.e (.s (.k 1000)) V0 K0)) rfl e3 hn1),e1,e2⟩
theorem Le{lv l:List Pr}{ps:List (Str × Parsed)}:(Bi lv ps l).length=lv.length+l.length:=by
 unfold Bi;rw [List.length_append,(An _ _).length_eq,List.length_map,List.length_map,(An _ _).length_eq]
theorem Lf(q:Pr):(Cj q).length=q.1.length+(Ey q.2).length+4:=by
 unfold Cj;have e:∀ a b:Str,(a++b).length=a.length+b.length:=Str.length_append;rw [e,e,e,e]
 have h1:(Str.ofString " ").length=1:=by decide
 have h2:(Str.ofString "=\"").length=2:=by decide
 have h3:(Str.ofString "\"").length=1:=by decide
 exact(Nat.le_antisymm (Nl fun hn2=>fk [_,_,_,_,_] (.e V0 K1 (.e V1 (.k 2) (.e V2 K1 (.e (.a (.a (.a V3 V4) (.k 4)) K1) (.a (.a (.a (.a V0 V3) V1) V4) V2) K0)))) rfl (El h1) (El h2) (El h3) hn2) (Nl fun hn3=>fk [_,_,_,_,_] (.e K1 V0 (.e (.k 2) V1 (.e K1 V2 (.e (.a (.a (.a (.a (.a V0 V3) V1) V4) V2) K1) (.a (.a V3 V4) (.k 4)) K0)))) rfl (Es h1) (Es h2) (Es h3) hn3))
theorem join_ok{al:List Pr}(hl:al.length≤50)(hq:∀ q∈al,q.1.length≤1000∧q.2.length≤100∧(Ey q.2).length≤1000):JoinOk Str.empty (al.map Cj)=true:=by
 have hb:∀ l:List Pr,(∀ q∈l,q.1.length≤1000∧q.2.length≤100∧(Ey q.2).length≤1000)→((l.map Cj).map (·.length)).sum≤2004 * l.length:=by
  intro l
  induction l with
  | nil=>intro _;simp
  | cons q l ih =>
   intro h
   have:=ih fun r hr=>h r (.tail _ hr)
   have h2:=h q (.head _)
   simp only [List.map_cons,List.sum_cons,List.length_cons,Lf]
   exact(Nl fun hn1=>fk [_,_,_,_] (.e V0 (.m 2004 V1) (.e V2 (.k 1000) (.e V3 (.k 1000) (.e (.a (.m 2004 (.s V1)) K1) (.a (.a (.a V2 V3) (.k 4)) V0) K0)))) rfl this h2.1 h2.2.2 hn1)
 have h2:=hb al hq
 have:=joinOk_filter (sep:=Str.empty) (ss:=al.map Cj) (pz:=fun _=>true) (by rw [List.length_map];exact(Nl fun hn1=>fk [_,_] (.c 2005 V0 (.k 50) (.e V1 (.m 2004 V0) (.e (.s (.k 1048576)) (.a V1 V0) K0))) rfl hl h2 hn1)) (by decide)
 rw [List.filter_eq_self.mpr (fun _ _=>rfl)] at this
 rw [List.map_map] at this;exact this
end Mine
namespace Mine
open PySem.Calls
section
variable{prog:Program}{w:World}{A:Around}{E:Value→Shared→Prop}{s:Shared}{h₀:Heap}{L:Addr}{m:Str→Option Value}{news:List (Addr × Obj)}
noncomputable def Ni(w:World)(A:Around)(s:Shared)(prog:Program)(E:Value→Shared→Prop)(h₀:Heap)(L:Addr)(m:Str→Option Value)(news:List (Addr × Obj))(v d:Addr)(k1 u1 k2 u2 k3 u3 k4 u4 k5 u5 k6 u6 k7 u7:Str)(x1 y1 x2 y2 x3 y3 x4 y4 x5 y5 x6 y6 x7 y7:Tok)(n:Nat)(Q:Value→Shared→Prop):Prop :=
 ∀ (hh:A.handled=none) (F:Fr h₀ L s.heap m) (N:News h₀ L s.heap news) (hd:s.heap.get? d=some (dictOf (Bg w.params [((k1,x1),(u1,y1)),((k2,x2),(u2,y2)),((k3,x3),(u3,y3)),((k4,x4),(u4,y4)),((k5,x5),(u5,y5)),((k6,x6),(u6,y6)),((k7,x7),(u7,y7))]) n)) (hn:(([((k1,x1),(u1,y1)),((k2,x2),(u2,y2)),((k3,x3),(u3,y3)),((k4,x4),(u4,y4)),((k5,x5),(u5,y5)),((k6,x6),(u6,y6)),((k7,x7),(u7,y7))]:List ((Str × Tok) × (Str × Tok))).map (·.1.1)).Nodup) (hv:(v,{ cls:=.type "dict_items",data:=.fields #[.ref d] })∈news) (h:∀ (B a1 a2 a3 a4 a5 a6 a7:Addr) (t1 t2 t3 t4 t5 t6 t7:Tok) (c:Nat) h' tk,(@LT.lt Nat instLTNat B a1∧@LT.lt Nat instLTNat B a2∧@LT.lt Nat instLTNat B a3∧@LT.lt Nat instLTNat B a4∧@LT.lt Nat instLTNat B a5∧@LT.lt Nat instLTNat B a6∧@LT.lt Nat instLTNat B a7)→(∀ q∈news,q.1<B)→Fr h₀ L h' m→News h₀ L h' ((a1,Ae #[.str k1 t1,.str u1 y1])::(a2,Ae #[.str k2 t2,.str u2 y2])::(a3,Ae #[.str k3 t3,.str u3 y3])::(a4,Ae #[.str k4 t4,.str u4 y4])::(a5,Ae #[.str k5 t5,.str u5 y5])::(a6,Ae #[.str k6 t6,.str u6 y6])::(a7,Ae #[.str k7 t7,.str u7 y7])::(B,listOf #[.ref a1,.ref a2,.ref a3,.ref a4,.ref a5,.ref a6,.ref a7] c)::news)→Q (.ref B) { s with heap:=h',toks:=tk }),wpAny (model prog w) A (call (.type "list") [.ref v]) Q E s
theorem Yr:∀ {w A s prog E h₀ L m news v d k1 u1 k2 u2 k3 u3 k4 u4 k5 u5 k6 u6 k7 u7 x1 y1 x2 y2 x3 y3 x4 y4 x5 y5 x6 y6 x7 y7 n Q},Ni w A s prog E h₀ L m news v d k1 u1 k2 u2 k3 u3 k4 u4 k5 u5 k6 u6 k7 u7 x1 y1 x2 y2 x3 y3 x4 y4 x5 y5 x6 y6 x7 y7 n Q:=by
 refine @(Ab (Ao neW)<|@(Ab neI<|@(Ab neI<|@(Ab neI<|@(Ab neI<|@(Au neI<|let_mvar% ?n:=(fun w A s prog E h₀ L m news v d k1 u1 k2 u2 k3 u3 k4 u4 k5 u5 k6 u6 k7 u7 x1 y1 x2 y2 x3 y3 x4 y4 x5 y5 x6 y6 x7 y7 n Q=>?_:∀ a b c d e f g h i j k l m n o p q r s t u v w x y z a1 b1 c1 d1 e1 f1 g1 h1 i1 j1 k1 l1 m1 n1 o1,Ni a b c d e f g h i j k l m n o p q r s t u v w x y z a1 b1 c1 d1 e1 f1 g1 h1 i1 j1 k1 l1 m1 n1 o1);?n _ _ _ _ _ _ _ _ _ _ _ _ _ _ _ _ _ _ _ _ _ _ _ _ _ _ _ _ _ _ _ _ _ _ _ _ _ _ _ _ _))))))
 intro hh F N hd hn hv h
 refine ss_list hh F N hd hn (by rw [sizeLine_eq];exact Nat.le_of_ble_eq_true rfl) hv fun B tl c h' tk ha hp hb hl F' N'=>?_
 obtain⟨⟨a1,o1⟩,tl1,rfl,⟨t1,e1⟩,ha1⟩:=All2.uncons ha;dsimp only at e1;subst e1;obtain⟨⟨a2,o2⟩,tl2,rfl,⟨t2,e2⟩,ha2⟩:=All2.uncons ha1;dsimp only at e2;subst e2;obtain⟨⟨a3,o3⟩,tl3,rfl,⟨t3,e3⟩,ha3⟩:=All2.uncons ha2;dsimp only at e3;subst e3;obtain⟨⟨a4,o4⟩,tl4,rfl,⟨t4,e4⟩,ha4⟩:=All2.uncons ha3;dsimp only at e4;subst e4;obtain⟨⟨a5,o5⟩,tl5,rfl,⟨t5,e5⟩,ha5⟩:=All2.uncons ha4;dsimp only at e5;subst e5;obtain⟨⟨a6,o6⟩,tl6,rfl,⟨t6,e6⟩,ha6⟩:=All2.uncons ha5;dsimp only at e6;subst e6;obtain⟨⟨a7,o7⟩,tl7,rfl,⟨t7,e7⟩,ha7⟩:=All2.uncons ha6;dsimp only at e7;subst e7;obtain rfl:=All2.unnil ha7;exact h B a1 a2 a3 a4 a5 a6 a7 t1 t2 t3 t4 t5 t6 t7 c h' tk ⟨hb _ (.head _),hb _ (.tail _ (.head _)),hb _ (.tail _ (.tail _ (.head _))),hb _ (.tail _ (.tail _ (.tail _ (.head _)))),hb _ (.tail _ (.tail _ (.tail _ (.tail _ (.head _))))),hb _ (.tail _ (.tail _ (.tail _ (.tail _ (.tail _ (.head _)))))),hb _ (.tail _ (.tail _ (.tail _ (.tail _ (.tail _ (.tail _ (.head _)))))))⟩ hl F' N'
end
end Mine
namespace Mine
open PySem.Calls
open PySem.Builtin PySem.Builtin.Str PySem.Builtin.Int
set_option genSizeOf false in
set_option genInjectivity false in
structure WS where
 seen:Bool
 done:Bool
 decl:List (List Pr)
 nss:List (List Pr)
 pre:List Bool
 data:List Str
 out:List Str
set_option genSizeOf false in
structure KS where
 seen:Bool
 done:Bool
 decl:List (List Pr)
 nss:List (List Pr)
 pre:List Bool
set_option genSizeOf false in
inductive Told where
 | start (tag:Str) (attrs:List Pr)
 | stop (tag:Str)
 | data (x:Str)
 | comment (x:Str)
 | pi (x:Str)
 | sns (p u:Str)
noncomputable def flat(lv:List (List Pr)):List Pr:=lv.reverse.flatten
noncomputable def Bx{α:Type}(q:α)(l:List (List α)):List (List α):=l.dropLast++[l.getLastD []++[q]]
theorem Be{α:Type}(q:α)(l:List (List α))(a:List α):Bx q (l++[a])=l++[a++[q]]:=by
 unfold Bx;rw [List.dropLast_concat]
 simp [List.getLastD_eq_getLast?]
noncomputable def KS.last(k:KS):Bool:=k.pre.getLastD false
noncomputable def KS.names(k:KS)(tag:Str)(attrs:List Pr):List Pr × List (Str × Parsed):=declare (flat k.decl) (flat k.nss) (Ax Bf (tag::attrs.map (·.1))) [] []
noncomputable def KS.step(k:KS):Told→KS
 | .start tag attrs=>{ seen:=true,done:=k.done,decl:=k.decl++[(k.names tag attrs).1],nss:=k.nss++[[]],pre:=k.pre++[Bt k.last attrs] }
 | .stop _=>{ seen:=k.seen,done:=decide (k.pre.length=2),decl:=k.decl.dropLast,nss:=k.nss.dropLast,pre:=k.pre.dropLast }
 | .sns p u=>{ k with nss:=Bx (u,p) k.nss }
 | _=>k
noncomputable def KS.flush(k:KS)(data:List Str):List Str:=Bl k.seen (Bm k.last (Txt.join Str.empty data))
noncomputable def KS.endText(k:KS)(tag:Str):Str:=match qn (flat k.decl) (flat k.nss) (cutName tag).1 (cutName tag).2 with
 | some (t,_)=>t
 | none=>Str.empty
noncomputable def KS.says(k:KS)(data:List Str):Told→List Str
 | .start tag attrs=>k.flush data++Cf (k.names tag attrs).1 (k.names tag attrs).2 tag attrs
 | .stop tag=>k.flush data++["</"++k.endText tag++">"]
 | .comment x=>if k.done=true then ["\n","<!--"++Fv x++"-->"] else k.flush data++["<!--"++Fv x++"-->"]
 | .pi x=>k.flush data++["<?"++"i"++" "++Fv x++"?>"]
 | .sns _ _=>k.flush data
 | .data _=>[]
noncomputable def KS.holds(k:KS)(data:List Str):Told→List Str
 | .data x=>data++[x]
 | .comment _=>if k.done=true then data else []
 | _=>[]
noncomputable def WS.core(w:WS):KS:=⟨w.seen,w.done,w.decl,w.nss,w.pre⟩
noncomputable def WS.tell(w:WS)(c:Told):WS :=
 ⟨(w.core.step c).seen,(w.core.step c).done,(w.core.step c).decl,(w.core.step c).nss,(w.core.step c).pre,w.core.holds w.data c,w.out++w.core.says w.data c⟩
noncomputable def WS.run(w:WS)(cs:List Told):WS:=cs.foldl WS.tell w
noncomputable def KS.run(k:KS)(cs:List Told):KS:=cs.foldl KS.step k
theorem Fo(w:WS)(c:Told):(w.tell c).core=w.core.step c:=rfl
theorem Sn(w:WS)(cs:List Told):(w.run cs).core=w.core.run cs:=by
 induction cs generalizing w with
 | nil=>rfl
 | cons c cs ih=>exact(ih (w.tell c)).trans (by rw [Fo];rfl)
theorem Yk(cs:List Told):∀ {w v:WS},w.core=v.core→w.data=v.data→∃ o,(w.run cs).out=w.out++o∧(v.run cs).out=v.out++o:=by
 induction cs with
 | nil=>exact fun _ _=>⟨[],by simp [WS.run],by simp [WS.run]⟩
 | cons c cs ih =>
  intro w v h1 h2
  have hc:(w.tell c).core=(v.tell c).core:=by rw [Fo,Fo,h1]
  have hd:(w.tell c).data=(v.tell c).data:=by
   show w.core.holds w.data c=v.core.holds v.data c
   rw [h1,h2]
  obtain⟨o,e1,e2⟩:=ih hc hd;refine⟨w.core.says w.data c++o,?_,?_⟩
  ·show ((w.tell c).run cs).out=_
   rw [e1];show w.out++w.core.says w.data c++o=_;rw [List.append_assoc]
  ·show ((v.tell c).run cs).out=_
   rw [e2];show v.out++v.core.says v.data c++o=_;rw [List.append_assoc,h1,h2]
noncomputable def Ak(l:List (List Told)):Told→List (List Told)
 | .start tag attrs=>l++[[.start tag attrs]]
 | .stop _=>l.dropLast
 | .sns p u=>Bx (.sns p u) l
 | _=>l
noncomputable def Af(cs:List Told):List (List Told):=cs.foldl Ak [[]]
noncomputable def IsSns:Told→Prop
 | .sns _ _=>True
 | _=>False
inductive Levels (k₀:KS):List (List Told)→KS→Prop where
 | base (ss:List Told) (hs:∀ c∈ss,IsSns c):Levels k₀ [ss] (k₀.run ss)
 | level {L:List (List Told)} {k:KS} (tag:Str) (attrs:List Pr) (ss:List Told) (hs:∀ c∈ss,IsSns c) (h:Levels k₀ L k):Levels k₀ (L++[.start tag attrs::ss]) (k.run (.start tag attrs::ss))
theorem Levels.run_eq{k₀:KS}{L:List (List Told)}{k:KS}(h:Levels k₀ L k):k₀.run L.flatten=k:=by
 induction h with
 | base ss hs=>simp
 | level tag attrs ss hs h ih=>rw [List.flatten_append];unfold KS.run at *;rw [List.foldl_append,ih];simp
theorem Levels.sns{k₀:KS}{L:List (List Told)}{k:KS}(h:Levels k₀ L k)(p u:Str):Levels k₀ (Bx (.sns p u) L) (k.step (.sns p u)):=by
 cases h with
 | base ss hs =>
  have:=Levels.base (k₀:=k₀) (ss++[.sns p u]) (fun c hc=>by
   rcases List.mem_append.mp hc with z | z
   ·exact hs c z
   ·rw [List.mem_singleton.mp z];trivial)
  rw [show Bx (Told.sns p u) [ss]=[ss++[.sns p u]] from Be _ [] _];unfold KS.run at *;rw [List.foldl_append] at this;exact this
 | @level L k' tag attrs ss hs h =>
  have:=Levels.level tag attrs (ss++[.sns p u]) (fun c hc=>by
   rcases List.mem_append.mp hc with z | z
   ·exact hs c z
   ·rw [List.mem_singleton.mp z];trivial) h
  rw [Be];unfold KS.run at *;rw [← List.cons_append,List.foldl_append] at this;exact this
theorem Qe(ss:List Told)(hs:∀ c∈ss,IsSns c):∀ (k:KS) (b:List (List Pr)) (t:List Pr),k.nss=b++[t]→(k.run ss).seen=k.seen∧(k.run ss).done=k.done∧(k.run ss).decl=k.decl∧(k.run ss).pre=k.pre∧∃ t',(k.run ss).nss=b++[t']:=by
 induction ss with
 | nil=>exact fun k b t h=>⟨rfl,rfl,rfl,rfl,t,h⟩
 | cons c ss ih =>
  intro k b t h
  cases c with
  | sns p u=>exact ih (fun c hc=>hs c (.tail _ hc)) (k.step (.sns p u)) b (t++[(u,p)]) (by show Bx _ k.nss=_;rw [h,Be])
  | _=>exact(hs _ (.head _)).elim
theorem Levels.seen{k₀:KS}{L:List (List Told)}{k:KS}(h:Levels k₀ L k)(h0:∃ b t,k₀.nss=b++[t])(hp:k₀.pre.length=1)(hd:k₀.done=false):k.done=false∧k.pre.length=L.length∧(2≤L.length→k.seen=true)∧∃ b t,k.nss=b++[t]:=by
 induction h with
 | base ss hs =>
  obtain⟨b,t,e⟩:=h0;obtain⟨e1,e2,e3,e4,t',e5⟩:=Qe ss hs k₀ b t e
  exact⟨e2.trans hd,by rw [e4,hp];rfl,fun h=>absurd h (by simp),b,t',e5⟩
 | @level L k tag attrs ss hs h ih =>
  obtain⟨i1,i2,i3,b,t,i4⟩:=ih;obtain⟨e1,e2,e3,e4,t',e5⟩:=Qe ss hs (k.step (.start tag attrs)) k.nss [] rfl
  refine⟨e2.trans i1,?_,fun _=>e1,k.nss,t',e5⟩
  show ((k.step (.start tag attrs)).run ss).pre.length=_
  rw [e4]
  show (k.pre++[_]).length=_
  simp [i2]
theorem Levels.stop{k₀:KS}{L:List (List Told)}{k:KS}(h:Levels k₀ L k)(h0:∃ b t,k₀.nss=b++[t])(hp:k₀.pre.length=1)(hd:k₀.done=false)(h3:3≤L.length)(tag:Str):Levels k₀ L.dropLast (k.step (.stop tag)):=by
 cases h with
 | base ss hs=>simp at h3
 | @level L k' tg attrs ss hs h =>
  rw [List.dropLast_concat];obtain⟨i1,i2,i3,b,t,i4⟩:=h.seen h0 hp hd;obtain⟨e1,e2,e3,e4,t',e5⟩:=Qe ss hs (k'.step (.start tg attrs)) k'.nss [] rfl
  have hL:2≤L.length:=by simp at h3;exact h3
  have:(k'.run (.start tg attrs::ss)).step (.stop tag)=k':=by
   show ((k'.step (.start tg attrs)).run ss).step (.stop tag)=k'
   generalize (k'.step (.start tg attrs)).run ss=k2 at e1 e2 e3 e4 e5
   obtain⟨a1,a2,a3,a4,a5⟩:=k2;obtain⟨c1,c2,c3,c4,c5⟩:=k'
   simp only [KS.step] at e1 e2 e3 e4 e5 ⊢
   simp only at i1 i2 i3
   have hs:=i3 hL;subst e1 e2 e3 e4 e5
   simp only [List.dropLast_concat,KS.mk.injEq,and_true,true_and]
   refine⟨hs.symm,?_⟩;rw [i1]
   simp [i2];exact(fun hn1=>fk [_] (.e (.k 2) V0 (.e V0 K1 K0)) rfl hL (El hn1))
  rw [this];exact h
theorem Lj{k₀:KS}(h0:∃ b t,k₀.nss=b++[t])(hp:k₀.pre.length=1)(hd:k₀.done=false):∀ (cs:List Told) (L:List (List Told)) (k:KS),Levels k₀ L k→(∀ a tag b,cs=a++.stop tag::b→3≤(a.foldl Ak L).length)→Levels k₀ (cs.foldl Ak L) (k.run cs):=by
 intro cs
 induction cs with
 | nil=>exact fun _ _ h _=>h
 | cons c cs ih =>
  intro L k h hs
  refine ih (Ak L c) (k.step c) ?_ fun a tag b e=>hs (c::a) tag b (by rw [e];rfl)
  cases c with
  | start tag attrs=>exact Levels.level tag attrs [] (fun _ z=>nomatch z) h
  | stop tag=>exact h.stop h0 hp hd (hs [] tag cs rfl) tag
  | sns p u=>exact h.sns p u
  | data x=>exact h
  | comment x=>exact h
  | pi x=>exact h
theorem Ht{w:WS}(h0:∃ b t,w.nss=b++[t])(hp:w.pre.length=1)(hd:w.done=false)(cs:List Told)(hs:∀ a tag b,cs=a++.stop tag::b→3≤(Af a).length):(w.run cs).core=(w.run (Af cs).flatten).core:=by
 have h:=Lj (k₀:=w.core) h0 hp hd cs [[]] w.core (Levels.base [] (fun _ z=>nomatch z)) hs
 rw [Sn,Sn];exact h.run_eq.symm
theorem We{w:WS}(h0:∃ b t,w.nss=b++[t])(hp:w.pre.length=1)(hd:w.done=false)(cs rest:List Told)(p u:Str)(hs:∀ a tag b,cs=a++.stop tag::b→3≤(Af a).length) :
  ((((w.run cs).tell (.sns p u)).run rest).out.drop ((w.run cs).tell (.sns p u)).out.length)=((((w.run (Af cs).flatten).tell (.sns p u)).run rest).out.drop ((w.run (Af cs).flatten).tell (.sns p u)).out.length):=by
 obtain⟨o,e1,e2⟩:=Yk rest (w:=(w.run cs).tell (.sns p u)) (v:=(w.run (Af cs).flatten).tell (.sns p u)) (by rw [Fo,Fo,Ht h0 hp hd cs hs]) rfl
 rw [e1,e2,List.drop_left,List.drop_left]
end Mine
namespace Mine
open PySem.Calls
open PySem.Builtin PySem.Builtin.Str PySem.Builtin.Int
noncomputable abbrev xsUri:Str:="http://www.w3.org/2001/XMLSchema"
noncomputable def pick{α:Type}(d:α)(l:List α)(i:Int):α:=l.getD i.toNat d
noncomputable def Fq(i:Int):Str:=pick Str.empty ["","{urn:a}","{urn:b}","{http://www.w3.org/2001/XMLSchema}"] i
noncomputable def Eh(x:Int):List Pr :=
 (if x % 8 > 0 then [(Fq (x / 8 / 4 % 4)++Str.ofString "k",Str.ofString "1")] else []) ++
 (if x % 8=2 then [(Cv,pick Str.empty ["preserve","default"] (x / 8 / 16 % 2))] else [])
noncomputable def Dm(x:Int):Str:=Fq (x / 8 % 4)++"t"
noncomputable def Ag(st:List Told × List Str)(x:Int):List Told × List Str :=
 if x % 8<3∧st.2.length<7 then(st.1++[.start (Dm x) (Eh x)],st.2++[Dm x])
 else if x % 8<5∧1<st.2.length then(st.1++[.stop (st.2.getLastD Str.empty)],st.2.dropLast)
 else if x % 8=6 then(st.1++[if x / 8 % 2=0 then .comment "c" else .pi "c"],st.2)
 else if x % 8=7∧x / 8 % 5=0 then(st.1++[.sns "" ""],st.2)
 else if x % 8=7 then(st.1++[.sns (pick Str.empty ["","p","q","z"] (x / 8 / 3 % 4)) (pick Str.empty ["urn:a","urn:b",xsUri] (x / 8 % 3))],st.2)
 else(st.1++[.data (pick Str.empty ["t"," "," u","&",""] (x / 8 % 5))],st.2)
noncomputable def Fe:List Told × List Str:=([.sns "p" "urn:a",.sns "q" "urn:b",.start "r" []],["r"])
noncomputable def Ar(xs:List Int):List Told × List Str:=(([8,3,72,4]:List Int)++xs).foldl Ag Fe
noncomputable def Aa(xs:List Int):List Told:=(Ar xs).1++(Ar xs).2.reverse.map .stop++[.comment "d"]
noncomputable def Eg:Told→Bool
 | .start _ _=>true
 | _=>false
def Inner(cs:List Told):Prop:=∀ a tag b,cs=a++.stop tag::b→3≤(Af a).length
theorem Bc(cs:List Told)(c:Told):Af (cs++[c])=Ak (Af cs) c:=by
 unfold Af;rw [List.foldl_append];rfl
theorem Inner.snoc{cs:List Told}(h:Inner cs)(c:Told)(hc:∀ tag,c=.stop tag→3≤(Af cs).length):Inner (cs++[c]):=by
 intro a tag b e
 rcases List.eq_nil_or_concat b with rfl | ⟨b',z,rfl⟩
 ·have:=List.append_inj' e rfl
  rw [← this.1]
  exact hc tag (by simpa using this.2)
 ·rw [List.concat_eq_append,← List.cons_append,← List.append_assoc] at e
  have:=List.append_inj' e rfl;exact h a tag b' this.1
theorem Inner.take{cs d:List Told}(h:Inner (cs++d)):Inner cs:=fun a tag b e=>h a tag (b++d) (by rw [e];simp)
theorem Fh{α:Type}(q:α){l:List (List α)}(h:l≠[]):(Bx q l).length=l.length:=by
 unfold Bx;rw [List.length_append,List.length_dropLast];have:=List.length_pos_iff.mpr h
 simp;exact(Nat.le_antisymm (Nl fun hn2=>fk [_,_] (.e (.s V0) (.s V1) (.e (.s V1) V0 K0)) rfl hn2 (Nat.le_of_eq (Nat.sub_add_cancel (Nl fun hn3=>fk [_] (.e (.s K0) V0 (.e (.s V0) K1 K0)) rfl this hn3)))) (Nl fun hn4=>fk [_,_] (.e (.a (.s V0) K1) V1 (.e V1 (.s V0) K0)) rfl hn4 Ln.sba))
structure ScriptOk (st:List Told × List Str):Prop where
 inner:Inner st.1
 len:(Af st.1).length=st.2.length+1
 some:1≤st.2.length
 few:st.2.length≤7
theorem ScriptOk.step{st:List Told × List Str}(h:ScriptOk st)(x:Int):ScriptOk (Ag st x):=by
 have hne:Af st.1≠[]:=fun e=>by have:=h.len;rw [e] at this;simp at this
 have hl:=h.len;have hs:=h.some;have hf:=h.few;unfold Ag
 split
 ·rename_i hx
  refine⟨h.inner.snoc _ (fun _ e=>nomatch e),?_,by simp,by simp;exact(Nl fun hn1=>fk [_] (.e (.s V0) (.k 7) (.e (.s (.k 6)) V0 K0)) rfl hx.2 hn1)⟩
  rw [Bc];simp [Ak,hl]
 split
 ·rename_i hx
  refine⟨h.inner.snoc _ (fun _ _=>by exact(Nl fun hn1=>fk [_,_] (.e (.s V0) V1 (.e (.s K1) V0 (.e (.s V1) (.k 3) K0))) rfl (Es hl) hx.2 hn1)),?_,by simp;exact(Nl fun hn1=>fk [_,_] (.e (.s K1) V0 (.e (.s V1) K1 (.e V0 (.s V1) K0))) rfl hx.2 hn1 Ln.sba),by simp;exact(Nl fun hn1=>fk [_] (.e V0 (.k 7) (.e (.s (.k 8)) V0 K0)) rfl hf hn1)⟩
  rw [Bc];simp [Ak,hl];exact(Nat.le_antisymm (Nl fun hn2=>fk [_,_] (.e (.a (.s V0) K1) V1 (.e V1 (.s V0) K0)) rfl hn2 Ln.sba) (Nl fun hn3=>fk [_,_] (.e (.s V0) (.s V1) (.e (.s V1) V0 K0)) rfl hn3 (Nat.le_of_eq (Nat.sub_add_cancel hs))))
 split
 ·split
  ·exact⟨h.inner.snoc _ (fun _ e=>nomatch e),by rw [Bc];exact hl,hs,hf⟩
  ·exact⟨h.inner.snoc _ (fun _ e=>nomatch e),by rw [Bc];exact hl,hs,hf⟩
 split
 ·exact⟨h.inner.snoc _ (fun _ e=>nomatch e),by rw [Bc];exact(Fh _ hne).trans hl,hs,hf⟩
 split
 ·exact⟨h.inner.snoc _ (fun _ e=>nomatch e),by rw [Bc];exact(Fh _ hne).trans hl,hs,hf⟩
 ·exact⟨h.inner.snoc _ (fun _ e=>nomatch e),by rw [Bc];exact hl,hs,hf⟩
theorem Na:ScriptOk Fe:=by
 refine⟨?_,rfl,by decide,by decide⟩
 have h0:Inner []:=fun a tag b e=>by simp at e
 exact((h0.snoc (.sns "p" "urn:a") (fun _ e=>nomatch e)).snoc (.sns "q" "urn:b") (fun _ e=>nomatch e)).snoc (.start "r" []) (fun _ e=>nomatch e)
theorem Wg(xs:List Int):∀ st,ScriptOk st→ScriptOk (xs.foldl Ag st):=by
 induction xs with
 | nil=>exact fun _ h=>h
 | cons x xs ih=>exact fun st h=>ih _ (h.step x)
theorem Jh(xs:List Int):ScriptOk (Ar xs):=Wg _ _ Na
theorem Gu(xs:List Int){at_:Nat}{c:Told}(h:(Aa xs)[at_]?=some c)(hc:Eg c=true):Inner ((Aa xs).take at_):=by
 have hlt:at_<(Ar xs).1.length:=by
  rcases Nat.lt_or_ge at_ (Ar xs).1.length with z | z
  ·exact z
  ·exfalso
   unfold Aa at h;rw [List.append_assoc,List.getElem?_append_right z] at h;have hm:=List.mem_of_getElem? h
   rcases List.mem_append.mp hm with q | q
   ·obtain⟨t,_,rfl⟩:=List.mem_map.mp q
    cases hc
   ·rw [List.mem_singleton.mp q] at hc;cases hc
 have e:(Aa xs).take at_=(Ar xs).1.take at_:=by
  unfold Aa;rw [List.append_assoc,List.take_append_of_le_length (Nat.le_of_lt hlt)]
 rw [e];have h1:=(Jh xs).inner;rw [← List.take_append_drop at_ (Ar xs).1] at h1;exact h1.take
theorem Ql(xs:List Int):3≤((Aa xs).filter Eg).length:=by
 have hpre:∀ (ys:List Int) (st:List Told × List Str),∃ z,(ys.foldl Ag st).1=st.1++z:=by
  intro ys
  induction ys with
  | nil=>exact fun st=>⟨[],by simp⟩
  | cons y ys ih =>
   intro st;obtain⟨z,hz⟩:=ih (Ag st y)
   have:∃ c,(Ag st y).1=st.1++[c]:=by
    unfold Ag
    (repeat' split)<;>exact⟨_,rfl⟩
   obtain⟨c,hc⟩:=this
   exact⟨c::z,by rw [List.foldl_cons,hz,hc];simp⟩
 obtain⟨z,hz⟩:=hpre xs ((([8,3,72,4]:List Int)).foldl Ag Fe)
 have h4:(((([8,3,72,4]:List Int)).foldl Ag Fe).1.filter Eg).length=3:=by rfl
 unfold Aa Ar;rw [List.foldl_append,hz]
 simp only [List.filter_append,List.length_append]
 exact(Nl fun hn1=>fk [_,_,_,_] (.e (.k 3) V0 (.e (.a (.a (.a (.a V0 V1) V2) V3) K1) (.k 3) K0)) rfl (Es h4) hn1)
end Mine
namespace Mine
open PySem.Calls
open PySem.Builtin PySem.Builtin.Str PySem.Builtin.Int
def Ep(q:Pr):Prop:=q.1.length≤100∧q.2.length≤200∧(Ey q.1).length≤1000
theorem Xz{q:Pr}{l:List (List Pr)}:q∈flat l↔∃ a∈l,q∈a:=by
 unfold flat;simp [List.mem_flatten]
theorem Ck(l:List (List Pr))(a:List Pr):flat (l++[a])=a++flat l:=by
 unfold flat;simp
theorem Bz{α:Type}{l:List α}(h:1≤l.length):∃ b t,l=b++[t]:=by
 rcases List.eq_nil_or_concat l with rfl | ⟨b,t,rfl⟩
 ·simp at h
 ·exact⟨b,t,by rw [List.concat_eq_append]⟩
structure Fit (n:Nat) (w:WS):Prop where
 d1:w.data.length≤n
 d2:∀ d∈w.data,d.length≤2
 o1:w.out.length≤4 * n
 l1:w.decl.length=w.pre.length
 l2:w.nss.length=w.pre.length+1
 l3:w.pre.length≤n+1
 l4:1≤w.pre.length
 f1:(flat w.decl).length≤4 * n+1
 f2:(flat w.nss).length≤n+7
 g1:∀ q∈flat w.decl,Ep q
 g2:∀ q∈flat w.nss,Ep q
def Ij(w:WS)(n:Str):Prop:=Di n=true∧known (flat w.nss) (cutName n).1
noncomputable def Cw(w:WS):Told→Prop
 | .start tag attrs=>(tag::attrs.map (·.1)).Nodup∧attrs.length≤3∧(∀ n∈tag::attrs.map (·.1),Ij w n)∧∀ a∈attrs,a.2.length≤100∧(Ey a.2).length≤1000
 | .stop tag=>Ij w tag∧2≤w.pre.length∧w.seen=true
 | .data x=>x.length≤2
 | .comment x=>x.length≤2∧(Fv x).length≤1000∧w.seen=true∧(w.done=true→w.data=[])
 | .pi x=>x.length≤2∧(Fv x).length≤1000∧w.seen=true∧w.done=false∧((x.length:Int) != 0)=true
 | .sns p u=>Ep (u,p)
theorem Xl(k:KS)(d:List Str):(k.flush d).length≤1:=Dz _ _
theorem Vy{w:WS}{tag:Str}{attrs:List Pr}(h:∀ n∈tag::attrs.map (·.1),Ij w n) :
  (∀ q∈(w.core.names tag attrs).1,q∈flat w.nss)∧(w.core.names tag attrs).1.length≤attrs.length+1:=by
 have hi:=Cd (flat w.decl) (flat w.nss) (Ax Bf (tag::attrs.map (·.1))) [] [] (fun n hn=>(h n ((An _ _).mem_iff.mp hn)).2)
 refine⟨fun q hq=>?_,?_⟩
 ·rcases hi.2.1 q hq with z | z
  ·exact nomatch z
  ·exact z
 ·have h2:=(An Bf (tag::attrs.map (·.1))).length_eq
  have h3:=hi.2.2
  simp at h2 h3
  show (declare (flat w.decl) (flat w.nss) (Ax Bf (tag::attrs.map (·.1))) [] []).1.length≤_
  exact(Nl fun hn1=>fk [_,_,_] (.e V0 (.s V1) (.e V2 V0 (.e (.a (.s V1) K1) V2 K0))) rfl (El h2) h3 hn1)
theorem Nm(lv:List Pr)(ps:List (Str × Parsed))(tag:Str)(attrs:List Pr):(Cf lv ps tag attrs).length≤3:=by
 unfold Cf
 split<;>simp
theorem Fit.tell{n:Nat}{w:WS}(h:Fit n w){c:Told}(hc:Cw w c):Fit (n+1) (w.tell c):=by
 obtain⟨d1,d2,o1,l1,l2,l3,l4,f1,f2,g1,g2⟩:=h;have hfl:=Xl w.core w.data
 cases c with
 | start tag attrs =>
  obtain⟨c1,c2,c3,c4⟩:=hc;obtain⟨n1,n2⟩:=Vy c3;have hp:=Nm (w.core.names tag attrs).1 (w.core.names tag attrs).2 tag attrs
  refine⟨Nat.zero_le _,(fun _ z=>nomatch z),?_,?_,?_,?_,?_,?_,?_,?_,?_⟩
  ·show (w.out++(w.core.flush w.data++Cf _ _ tag attrs)).length≤_
   rw [List.length_append,List.length_append];exact(Nl fun hn1=>fk [_,_,_,_] (.e V0 (.m 4 V1) (.e V2 K1 (.e V3 (.k 3) (.e (.a (.m 4 (.s V1)) K1) (.a V0 (.a V2 V3)) K0)))) rfl o1 hfl hp hn1)
  ·show (w.decl++[_]).length=(w.pre++[_]).length
   simp [l1]
  ·show (w.nss++[_]).length=(w.pre++[_]).length+1
   simp [l2]
  ·show (w.pre++[_]).length≤_
   simp;exact l3
  ·show 1≤(w.pre++[_]).length
   simp
  ·show (flat (w.decl++[_])).length≤_
   rw [Ck,List.length_append];exact(Nl fun hn1=>fk [_,_,_,_] (.e V0 (.a (.m 4 V1) K1) (.e V2 (.k 3) (.e V3 (.s V2) (.e (.a (.a (.m 4 (.s V1)) K1) K1) (.a V3 V0) K0)))) rfl f1 c2 n2 hn1)
  ·show (flat (w.nss++[[]])).length≤_
   rw [Ck,List.nil_append];exact(Nl fun hn1=>fk [_,_] (.e V0 (.a V1 (.k 7)) (.e (.a (.a (.s V1) (.k 7)) K1) V0 K0)) rfl f2 hn1)
  ·show ∀ q∈flat (w.decl++[_]),Ep q
   intro q hq;rw [Ck] at hq
   rcases List.mem_append.mp hq with z | z
   ·exact g2 q (n1 q z)
   ·exact g1 q z
  ·show ∀ q∈flat (w.nss++[[]]),Ep q
   rw [Ck,List.nil_append];exact g2
 | stop tag =>
  obtain⟨c1,c2,c3⟩:=hc
  obtain⟨b1,t1,e1⟩:=Bz (l:=w.decl) (by exact(Nl fun hn1=>fk [_,_] (.e V0 V1 (.e (.k 2) V0 (.e (.s V1) K1 K0))) rfl (Es l1) c2 hn1))
  obtain⟨b2,t2,e2⟩:=Bz (l:=w.nss) (by exact(Nl fun hn1=>fk [_,_] (.e (.s V0) V1 (.e (.s V1) K1 K0)) rfl (Es l2) hn1))
  rw [e1,Ck] at f1 g1;rw [e2,Ck] at f2 g2;rw [List.length_append] at f1 f2
  refine⟨Nat.zero_le _,(fun _ z=>nomatch z),?_,?_,?_,?_,?_,?_,?_,?_,?_⟩
  ·show (w.out++(w.core.flush w.data++[_])).length≤_
   simp only [List.length_append,List.length_cons,List.length_nil];exact(Nl fun hn1=>fk [_,_,_] (.e V0 (.m 4 V1) (.e V2 K1 (.e (.a (.m 4 (.s V1)) K1) (.a V0 (.a V2 (.s K0))) K0))) rfl o1 hfl hn1)
  ·show w.decl.dropLast.length=w.pre.dropLast.length
   simp [l1]
  ·show w.nss.dropLast.length=w.pre.dropLast.length+1
   simp [l2];exact(Nat.le_antisymm (Nl fun hn2=>fk [_,_] (.e (.a (.s V0) K1) V1 (.e V1 (.s V0) K0)) rfl hn2 Ln.sba) (Nl fun hn3=>fk [_,_] (.e (.s V0) (.s V1) (.e (.s V1) V0 K0)) rfl hn3 (Nat.le_of_eq (Nat.sub_add_cancel l4))))
  ·show w.pre.dropLast.length≤_
   simp;exact(Nl fun hn1=>fk [_,_] (.e V0 (.s V1) (.e (.a (.a (.a (.s V1) K1) K1) K1) V0 K0)) rfl l3 hn1)
  ·show 1≤w.pre.dropLast.length
   simp;exact(Nl fun hn1=>fk [_,_] (.e (.k 2) V0 (.e (.s V1) K1 (.e V0 (.s V1) K0))) rfl c2 hn1 Ln.sba)
  ·show (flat w.decl.dropLast).length≤_
   rw [e1,List.dropLast_concat];exact(Nl fun hn1=>fk [_,_,_] (.e (.a V0 V1) (.a (.m 4 V2) K1) (.e (.a (.a (.m 4 (.s V2)) K1) K1) V1 K0)) rfl f1 hn1)
  ·show (flat w.nss.dropLast).length≤_
   rw [e2,List.dropLast_concat];exact(Nl fun hn1=>fk [_,_,_] (.e (.a V0 V1) (.a V2 (.k 7)) (.e (.a (.a (.s V2) (.k 7)) K1) V1 K0)) rfl f2 hn1)
  ·show ∀ q∈flat w.decl.dropLast,Ep q
   rw [e1,List.dropLast_concat];exact fun q hq=>g1 q (Mr _ hq)
  ·show ∀ q∈flat w.nss.dropLast,Ep q
   rw [e2,List.dropLast_concat];exact fun q hq=>g2 q (Mr _ hq)
 | data x =>
  refine⟨?_,?_,?_,l1,l2,Nat.le_succ_of_le l3,l4,Nat.le_trans f1 (by exact(Nl fun hn1=>fk [_] (.e (.a (.a (.m 4 (.s V0)) K1) K1) (.a (.m 4 V0) K1) K0) rfl hn1)),Nat.le_trans f2 (by exact(Nl fun hn1=>fk [_] (.e (.a (.a (.s V0) (.k 7)) K1) (.a V0 (.k 7)) K0) rfl hn1)),g1,g2⟩
  ·show (w.data++[x]).length≤_
   simp;exact d1
  ·show ∀ d∈w.data++[x],d.length≤2
   intro d hd
   rcases List.mem_append.mp hd with z | z
   ·exact d2 d z
   ·rw [List.mem_singleton.mp z];exact hc
  ·show (w.out++[]).length≤_
   simp;exact(Nl fun hn1=>fk [_,_] (.e V0 (.m 4 V1) (.e (.a (.m 4 (.s V1)) K1) V0 K0)) rfl o1 hn1)
 | comment x =>
  refine⟨?_,?_,?_,l1,l2,Nat.le_succ_of_le l3,l4,Nat.le_trans f1 (by exact(Nl fun hn1=>fk [_] (.e (.a (.a (.m 4 (.s V0)) K1) K1) (.a (.m 4 V0) K1) K0) rfl hn1)),Nat.le_trans f2 (by exact(Nl fun hn1=>fk [_] (.e (.a (.a (.s V0) (.k 7)) K1) (.a V0 (.k 7)) K0) rfl hn1)),g1,g2⟩
  ·show (if w.core.done=true then w.data else []).length≤_
   split
   ·exact(Nl fun hn1=>fk [_,_] (.e V0 V1 (.e (.a (.s V1) K1) V0 K0)) rfl d1 hn1)
   ·exact Nat.zero_le _
  ·show ∀ d∈(if w.core.done=true then w.data else []),d.length≤2
   split
   ·exact d2
   ·exact fun _ z=>nomatch z
  ·show (w.out++(if w.core.done=true then _ else w.core.flush w.data++[_])).length≤_
   split<;>simp<;>lia
 | pi x =>
  refine⟨Nat.zero_le _,(fun _ z=>nomatch z),?_,l1,l2,Nat.le_succ_of_le l3,l4,Nat.le_trans f1 (by exact(Nl fun hn1=>fk [_] (.e (.a (.a (.m 4 (.s V0)) K1) K1) (.a (.m 4 V0) K1) K0) rfl hn1)),Nat.le_trans f2 (by exact(Nl fun hn1=>fk [_] (.e (.a (.a (.s V0) (.k 7)) K1) (.a V0 (.k 7)) K0) rfl hn1)),g1,g2⟩
  show (w.out++(w.core.flush w.data++[_])).length≤_
  simp only [List.length_append,List.length_cons,List.length_nil];exact(Nl fun hn1=>fk [_,_,_] (.e V0 (.m 4 V1) (.e V2 K1 (.e (.a (.m 4 (.s V1)) K1) (.a V0 (.a V2 (.s K0))) K0))) rfl o1 hfl hn1)
 | sns p u =>
  obtain⟨b2,t2,e2⟩:=Bz (l:=w.nss) (by exact(Nl fun hn1=>fk [_,_] (.e (.s V0) V1 (.e (.s V1) K1 K0)) rfl (Es l2) hn1))
  have e3:Bx (u,p) w.nss=b2++[t2++[(u,p)]]:=by rw [e2,Be]
  rw [e2,Ck] at f2 g2;rw [List.length_append] at f2
  refine⟨Nat.zero_le _,(fun _ z=>nomatch z),?_,l1,?_,Nat.le_succ_of_le l3,l4,Nat.le_trans f1 (by exact(Nl fun hn1=>fk [_] (.e (.a (.a (.m 4 (.s V0)) K1) K1) (.a (.m 4 V0) K1) K0) rfl hn1)),?_,g1,?_⟩
  ·show (w.out++w.core.flush w.data).length≤_
   rw [List.length_append];exact(Nl fun hn1=>fk [_,_,_] (.e V0 (.m 4 V1) (.e V2 K1 (.e (.a (.m 4 (.s V1)) K1) (.a V0 V2) K0))) rfl o1 hfl hn1)
  ·show (Bx (u,p) w.nss).length=w.pre.length+1
   rw [e3,← l2,e2];simp
  ·show (flat (Bx (u,p) w.nss)).length≤_
   rw [e3,Ck];simp;exact(Nl fun hn1=>fk [_,_,_] (.e (.a V0 V1) (.a V2 (.k 7)) (.e (.a (.a (.s V2) (.k 7)) K1) (.a V0 (.s V1)) K0)) rfl f2 hn1)
  ·show ∀ q∈flat (Bx (u,p) w.nss),Ep q
   rw [e3,Ck];intro q hq
   simp only [List.mem_append,List.mem_singleton] at hq
   rcases hq with (z | rfl) | z
   ·exact g2 q (Ml _ z)
   ·exact hc
   ·exact g2 q (Mr _ z)
end Mine
namespace Mine
open PySem.Calls
open PySem.Builtin PySem.Builtin.Str PySem.Builtin.Int
theorem Vi{n:Nat}{w:WS}(h:Fit n w)(hn:n≤100):JoinOk Str.empty w.data=true∧(Txt.join Str.empty w.data).length≤2000:=by
 have hb:∀ l:List Str,(∀ d∈l,d.length≤2)→(l.map (·.length)).sum≤2 * l.length:=by
  intro l
  induction l with
  | nil=>intro _;simp
  | cons q l ih =>
   intro h
   have:=ih fun r hr=>h r (.tail _ hr)
   have h2:=h q (.head _)
   simp only [List.map_cons,List.sum_cons,List.length_cons]
   exact(Nl fun hn1=>fk [_,_,_] (.e V0 (.m 2 V1) (.e V2 (.k 2) (.e (.a (.m 2 (.s V1)) K1) (.a V2 V0) K0))) rfl this h2 hn1)
 have h2:=hb w.data h.d2;have h1:=h.d1
 constructor
 ·have:=joinOk_filter (sep:=Str.empty) (ss:=w.data) (pz:=fun _=>true) (by exact(Nl fun hn1=>fk [_,_,_] (.c 3 V0 (.k 100) (.e V1 (.m 2 V2) (.c 3 V2 V0 (.e (.s (.k 1048576)) (.a V1 V2) K0)))) rfl hn h2 h1 hn1)) (by decide)
  rw [List.filter_eq_self.mpr (fun _ _=>rfl)] at this
  simpa using this
 ·have h3:(Txt.join Str.empty w.data).length≤(w.data.map (·.length)).sum+w.data.length * Str.empty.length:=by
   show (Builtin.Str.glued Str.empty w.data).length≤_
   rw [StrLaws.glued_eq_join];exact StrLaws.join_length_le Str.empty w.data
  have h4:Str.empty.length=0:=rfl;rw [h4] at h3
  exact(Nl fun hn1=>fk [_,_,_,_] (.c 2 V0 (.k 100) (.e V1 (.m 2 V2) (.c 2 V2 V0 (.e V3 (.a V1 (.w V2 0)) (.e (.s (.k 2000)) V3 K0))))) rfl hn h2 h1 h3 hn1)
end Mine
namespace Mine
open PySem.Calls
open PyProof.Rows.LCg
section
variable{prog:Program}{w:World}{A:Around}{E:Value→Shared→Prop}{s:Shared}{h₀:Heap}{L:Addr}{m:Str→Option Value}{news:List (Addr × Obj)}{env:Env}{os:OsState}
theorem Ts{d:Nat}{e target:PySem.Expr}{ipos:Pos}{emit:Sem Unit}{it acc:Value}{cenv:Env}{R:Result→Shared→Prop}(I:Nat→Shared→Prop)
  (hq:(Code.compLoop e d it acc cenv).quiet=true)
  (hden:∀ (s:Shared) (Q:PySem.Fin→Shared→Prop) (E':Value→Shared→Prop),wpAny (model prog w) A ((compTurn e d it acc cenv).onRaise (fun x=>do noteFrame x cenv;theTreesLotGoes x)) Q E' s→wpAny (model prog w) (A.under (.compLoop e d it acc cenv)) ((model prog w).den (.compLoop e d it acc cenv)) Q E' s)
  (ht:compTurn e d it acc cenv=(standAt ipos >>= fun _=>pyNext it >>= fun r=>match r with
   | none=>pure (.done .next)
   | some v=>letOwnedTupleGo target it v >>= fun _=>assign target cenv v >>= fun _=>emit >>= fun _=>again (.compLoop e d it acc cenv)))
  (turn:∀ n s,I n s→wpAny (model prog w) A (pyNext it) (fun r s₁=>match r with
   | none=>R (.ok .next) s₁
   | some v=>wpAny (model prog w) A (letOwnedTupleGo target it v) (fun _ s₂=>wpAny (model prog w) A (assign target cenv v) (fun _ s₃=>wpAny (model prog w) A emit (fun _ s₄=>∃ m,m<n∧I m s₄)
     (notedBy (model prog w) A cenv fun e s'=>R (.error e) s') s₃) (notedBy (model prog w) A cenv fun e s'=>R (.error e) s') s₂) (notedBy (model prog w) A cenv fun e s'=>R (.error e) s') s₁) (notedBy (model prog w) A cenv fun e s'=>R (.error e) s') s)
  (n:Nat) (h:I n s):codeAny (model prog w) A (.compLoop e d it acc cenv) R s:=by
 refine codeAny_loop hq I (fun n s hI=>hden _ _ _ ?_) n h
 refine wpAny_noted ?_;rw [ht]
 refine Wb (wpAny_standAt (Wb (wpAny_mono (turn n s hI) (fun r s₁ h₁=>?_) fun _ _ h'=>h')))
 cases r with
 | none=>exact Wp h₁
 | some v =>
  exact Wb (wpAny_mono h₁ (fun _ s₂ h₂=>Wb (wpAny_mono h₂ (fun _ s₃ h₃=>Wb (wpAny_mono h₃ (fun _ s₄ h₄=>Wp ⟨rfl,h₄⟩) fun _ _ h'=>h')) fun _ _ h'=>h')) fun _ _ h'=>h')
theorem Tr{d:Nat}{e target:PySem.Expr}{ipos:Pos}{tail:Sem PySem.Fin}{it acc:Value}{cenv:Env}{R:Result→Shared→Prop}(I:Nat→Shared→Prop)
  (hq:(Code.compLoop e d it acc cenv).quiet=true)
  (hden:∀ (s:Shared) (Q:PySem.Fin→Shared→Prop) (E':Value→Shared→Prop),wpAny (model prog w) A ((compTurn e d it acc cenv).onRaise (fun x=>do noteFrame x cenv;theTreesLotGoes x)) Q E' s→wpAny (model prog w) (A.under (.compLoop e d it acc cenv)) ((model prog w).den (.compLoop e d it acc cenv)) Q E' s)
  (ht:compTurn e d it acc cenv=(standAt ipos >>= fun _=>pyNext it >>= fun r=>match r with
   | none=>pure (.done .next)
   | some v=>letOwnedTupleGo target it v >>= fun _=>assign target cenv v >>= fun _=>tail))
  (turn:∀ n s,I n s→wpAny (model prog w) A (pyNext it) (fun r s₁=>match r with
   | none=>R (.ok .next) s₁
   | some v=>wpAny (model prog w) A (letOwnedTupleGo target it v) (fun _ s₂=>wpAny (model prog w) A (assign target cenv v) (fun _ s₃=>wpAny (model prog w) A tail (fun f s₄=>f=.again (.compLoop e d it acc cenv)∧∃ m,m<n∧I m s₄)
     (notedBy (model prog w) A cenv fun e s'=>R (.error e) s') s₃) (notedBy (model prog w) A cenv fun e s'=>R (.error e) s') s₂) (notedBy (model prog w) A cenv fun e s'=>R (.error e) s') s₁) (notedBy (model prog w) A cenv fun e s'=>R (.error e) s') s)
  (n:Nat) (h:I n s):codeAny (model prog w) A (.compLoop e d it acc cenv) R s:=by
 refine codeAny_loop hq I (fun n s hI=>hden _ _ _ ?_) n h
 refine wpAny_noted ?_;rw [ht]
 refine Wb (wpAny_standAt (Wb (wpAny_mono (turn n s hI) (fun r s₁ h₁=>?_) fun _ _ h'=>h')))
 cases r with
 | none=>exact Wp h₁
 | some v =>
  exact Wb (wpAny_mono h₁ (fun _ s₂ h₂=>Wb (wpAny_mono h₂ (fun _ s₃ h₃=>wpAny_mono h₃ (fun f s₄ h₄=>by obtain⟨rfl,z⟩:=h₄;exact⟨rfl,z⟩) fun _ _ h'=>h') fun _ _ h'=>h')) fun _ _ h'=>h')
noncomputable def Fi(w:World)(A:Around)(s:Shared)(prog:Program)(E:Value→Shared→Prop)(h₀:Heap)(L:Addr)(m:Str→Option Value)(env:Env)(os:OsState)(e target:PySem.Expr)(ipos:Pos)(scope:Scope)(cl:List (Str × Addr))(newAcc:Sem Value)(o0:Obj)(tail:Addr→Addr→Addr→Sem PySem.Fin)(ax:Addr)(its:Array Value)(news:List (Addr × Obj))(RR:Value→Addr→Result→Shared→Prop)(J:Addr→List Value→List (Addr × Obj)→Prop):Prop :=
 ∀ (B:List (Addr × Obj)→Value→(Str→Option Value)→Prop) (hacc:∀ (s:Shared) (Q:Value→Shared→Prop),Q (.ref s.heap.objs.size) { s with heap:=s.heap.push o0 }→wpAny (model prog w) A newAcc Q E s) (ho0:Obj.isFreed o0=false) (hst:∀ (I D C:Addr) (R:Result→Shared→Prop) (s:Shared),codeAny (model prog w) A (.compLoop e 0 (.ref I) (.ref D) (compEnvC scope cl C env)) R s →
   wpAny (model prog w) A (pyIter (.ref I)) (fun it' s'=>codeAny (model prog w) A (.compLoop e 0 it' (.ref D) (compEnvC scope cl C env)) R s') (notedBy (model prog w) A (compEnvC scope cl C env) fun x s'=>R (.error x) s') s→codeAny (model prog w) A (.compStart e 0 (.ref I) (.ref D) (compEnvC scope cl C env)) R s) (hq:∀ I D C,(Code.compLoop e 0 (.ref I) (.ref D) (compEnvC scope cl C env)).quiet=true) (hden:∀ (I D C:Addr) (s:Shared) (Q:PySem.Fin→Shared→Prop) (E':Value→Shared→Prop),wpAny (model prog w) A ((compTurn e 0 (.ref I) (.ref D) (compEnvC scope cl C env)).onRaise (fun x=>do noteFrame x (compEnvC scope cl C env);theTreesLotGoes x)) Q E' s→wpAny (model prog w) (A.under (.compLoop e 0 (.ref I) (.ref D) (compEnvC scope cl C env))) ((model prog w).den (.compLoop e 0 (.ref I) (.ref D) (compEnvC scope cl C env))) Q E' s) (ht:∀ I D C,compTurn e 0 (.ref I) (.ref D) (compEnvC scope cl C env)=(standAt ipos >>= fun _=>pyNext (.ref I) >>= fun r=>match r with
   | none=>pure (.done .next)
   | some v=>letOwnedTupleGo target (.ref I) v >>= fun _=>assign target (compEnvC scope cl C env) v >>= fun _=>tail I D C)) (hown:∀ (I:Addr) (i:Nat) (v:Value) (s:Shared) (Q:Unit→Shared→Prop) (E':Value→Shared→Prop),s.heap.IsListIter I ax i→v∈its.toList→Q () s→wpAny (model prog w) A (letOwnedTupleGo target (.ref I) v) Q E' s) (hasg:∀ (s1:Shared) (v:Value) (rem:List Value) (own:List (Addr × Obj)) (D C:Addr) (mC:Str→Option Value) (Q:Unit→Shared→Prop) (E':Value→Shared→Prop),J D (v::rem) own→(∀ b o,h₀.get? b=some o→s1.heap.get? b=some o)→(∀ p∈own,s1.heap.get? p.1=some p.2)→s1.heap.Ns C mC →
   (∀ h' tk m₂,h'.Ns C m₂→B own v m₂→(∀ b o,b≠C→s1.heap.get? b=some o→h'.get? b=some o)→Q () { s1 with heap:=h',toks:=tk })→wpAny (model prog w) A (assign target (compEnvC scope cl C env) v) Q E' s1) (hcell:∀ y∈scope.names,y.2≠.cell) (hkind:scope.kind=.function) (hh:A.handled=none) (F:Fr h₀ L s.heap m) (N:News h₀ L s.heap news) (hos:s.os=os) (hb:AllBare s.gens) (hsrc0:SrcAt h₀ ax its news) (hsz:its.size≤sizeLine) (hJ0:∀ D,(∀ p∈news,p.1<D)→J D its.toList ((D,o0)::news)) (hsrc:∀ D rem own,J D rem own→SrcAt h₀ ax its own) (step:∀ (s1:Shared) D v rem own I oI C oC m₂ (E':Value→Shared→Prop),J D (v::rem) own→NsObj oC m₂→B own v m₂→Fr h₀ L s1.heap m→News h₀ L s1.heap ((I,oI)::(C,oC)::own)→(∀ p∈own,p.1≠I∧p.1≠C)→I≠C→s1.os=os→AllBare s1.gens →
   wpAny (model prog w) A (tail I D C) (fun f s3=>f=.again (.compLoop e 0 (.ref I) (.ref D) (compEnvC scope cl C env))∧∃ own' oC' m₂',NsObj oC' m₂'∧J D rem own'∧Fr h₀ L s3.heap m∧News h₀ L s3.heap ((I,oI)::(C,oC')::own')∧(∀ p∈own',p.1≠I∧p.1≠C)∧s3.os=os∧AllBare s3.gens) E' s1) (fin:∀ (s1:Shared) D C own mC,J D [] own→Fr h₀ L s1.heap m→News h₀ L s1.heap own→s1.heap.Ns C mC→h₀.get? C=none→C≠L→(∀ p∈own,p.1≠C)→s1.os=os→AllBare s1.gens→RR (.ref D) C (.ok .next) s1),wpAny (model prog w) A (pyIter (.ref ax)) (fun it s₂=>wpAny (model prog w) A newAcc (fun acc s₃=>wpAny (model prog w) A (newFunctionEnv scope env.globals cl [] env.qual none .none (some env)) (fun cenv s₄ =>
   codeAny (model prog w) A (.compStart e 0 it acc { cenv with scope:=relabel scope env }) (RR acc cenv.locals) s₄) E s₃) E s₂) E s
theorem Lh:∀ a b c d e f g h i j k l m n o p q r s t u v w,Fi a b c d e f g h i j k l m n o p q r s t u v w:=by
 refine Ab (Ao neW)<|Ab neI<|Eu neI<|let_mvar% ?n:=(fun w A s prog E h₀ L m env os e target ipos scope cl newAcc o0 tail ax its news RR J=>?_:∀ a b c d e f g h i j k l m n o p q r s t u v w,Fi a b c d e f g h i j k l m n o p q r s t u v w);?n _ _ _ _ _ _ _ _ _ _ _ _ _ _ _ _ _ _ _ _ _ _ _
 intro B hacc ho0 hst hq hden ht hown hasg hcell hkind hh F N hos hb hsrc0 hsz hJ0 hsrc step fin;have hl:=hsrc0.list F.keep N
 have hlt:ax<s.heap.objs.size:=by obtain⟨_,e,_⟩:=hl;exact Heap.lt_size e
 refine wpAny_pyIter_list hl ?_
 generalize hIeq:s.heap.objs.size=I
 have hI1:(s.heap.push { cls:=.type "list_iterator",data:=.fields #[.ref ax,.int 0 0] }).IsListIter I ax 0:=⟨_,by rw [← hIeq];exact Heap.get?_push_size _ rfl,rfl,rfl⟩
 have up1:∀ b o,s.heap.get? b=some o→(s.heap.push { cls:=.type "list_iterator",data:=.fields #[.ref ax,.int 0 0] }).get? b=some o:=fun b o e=>Heap.get?_push_of_some _ e
 have hz1:(s.heap.push { cls:=.type "list_iterator",data:=.fields #[.ref ax,.int 0 0] }).objs.size=I+1:=by rw [Heap.size_push,hIeq]
 generalize s.heap.push { cls:=.type "list_iterator",data:=.fields #[.ref ax,.int 0 0] }=H1 at hI1 up1 hz1
 refine hacc _ _ ?_;dsimp only;rw [hz1]
 have hD2:(H1.push o0).get? (I+1)=some o0:=by rw [← hz1];exact Heap.get?_push_size _ ho0
 have up2:∀ b o,H1.get? b=some o→(H1.push o0).get? b=some o:=fun b o e=>Heap.get?_push_of_some _ e
 have hz2:(H1.push o0).objs.size=I+1+1:=by rw [Heap.size_push,hz1]
 generalize H1.push o0=H2 at hD2 up2 hz2
 refine wpAny_newFunctionEnv hcell (by intro y hy;simp at hy) (fun h₁ hns₁ hsb₁=>?_) hkind
 dsimp only at hns₁ hsb₁ ⊢;rw [hz2] at hns₁ hsb₁ ⊢
 have up3:∀ b o,H2.get? b=some o→h₁.get? b=some o:=fun b o e=>hsb₁.extBut b o (Nat.ne_of_lt (by have:=Heap.lt_size e;rw [hz2] at this;exact this)) (Heap.get?_push_of_some _ e)
 have up:∀ b o,s.heap.get? b=some o→h₁.get? b=some o:=fun b o e=>up3 b o (up2 b o (up1 b o e))
 have hLI:L<I:=by rw [← hIeq];exact F.ns.lt
 have fresh₀:∀ a,L<a→h₀.get? a=none:=fun a ha=>Heap.get?_none_of_le (Nat.le_trans F.above (Nat.le_of_lt ha))
 have hI0:=fresh₀ I hLI;have hD0:=fresh₀ (I+1) (Nat.lt_succ_of_lt hLI);have hC0:=fresh₀ (I+1+1) (Nat.lt_succ_of_lt (Nat.lt_succ_of_lt hLI));have hIC:I≠I+1+1:=Nat.ne_of_lt (Nat.lt_succ_of_lt (Nat.lt_succ_self _));have hCL:I+1+1≠L:=Nat.ne_of_gt (Nat.lt_succ_of_lt (Nat.lt_succ_of_lt hLI));have hIL:I≠L:=Nat.ne_of_gt hLI
 have hnI:∀ p∈news,p.1<I:=fun p hp=>by rw [← hIeq];exact Heap.lt_size (N p hp).1
 have hj0:=hJ0 (I+1) fun p hp=>Nat.lt_succ_of_lt (hnI p hp)
 have hi1:h₁.IsListIter I ax 0:=by obtain⟨o,ho,r⟩:=hI1;exact⟨o,up3 _ _ (up2 _ _ ho),r⟩
 have loop:codeAny (model prog w) A (.compLoop e 0 (.ref I) (.ref (I+1)) (compEnvC scope cl (I+1+1) env)) (RR (.ref (I+1)) (I+1+1)) { s with heap:=h₁,toks:=s.toks+([]:List (Str × Value)).length }:=by
  refine Tr (d:=0) (target:=target) (ipos:=ipos) (tail:=tail I (I+1) (I+1+1)) (fun k s'=>∃ i rem own mC,k=rem.length∧its.toList.drop i=rem∧i+rem.length=its.size∧J (I+1) rem own∧Fr h₀ L s'.heap m∧News h₀ L s'.heap own∧(∀ p∈own,p.1≠I∧p.1≠I+1+1) ∧
   s'.heap.Ns (I+1+1) mC∧s'.heap.IsListIter I ax i∧s'.os=os∧AllBare s'.gens) (hq _ _ _) (hden _ _ _) (ht _ _ _) ?_ its.size
   ⟨0,its.toList,(I+1,o0)::news,_,by simp,rfl,by simp,hj0,F.keeps up,fun p hp=>?_,fun p hp=>?_,hns₁,hi1,hos,hb⟩
  ·rintro k s' ⟨i,rem,own,mC,rfl,hrem,zd,hJ,F',N',off,hns,hit,hos',hb'⟩
   have hl':s'.heap.IsList ax its:=(hsrc _ _ _ hJ).list F'.keep N'
   cases rem with
   | nil =>
    refine wpAny_pyNext_list_end hh hit hl' ?_ fun h₂ he₂=>?_
    ·have:its.size≤i:=by simp at zd;exact(Es zd)
     simp;exact this
    ·dsimp only
     refine fin _ (I+1) (I+1+1) own mC hJ (Dh F' he₂ (Ne.symm hIL) hI0) (fun p hp=>⟨he₂ _ _ (off p hp).1 (N' p hp).1,(N' p hp).2⟩) ?_ hC0 hCL (fun p hp=>(off p hp).2) hos' hb'
     obtain⟨o,es,ep,e,r⟩:=hns;exact⟨o,es,ep,he₂ _ _ (Ne.symm hIC) e,r⟩
   | cons v rem =>
    have hlt':i<its.size:=by simp at zd;exact(Nt fun hn1=>fk [_,_,_] (.e (.a V0 (.s V1)) V2 (.e V2 V0 K0)) rfl (El zd) hn1)
    have hget:its[i]?=some v:=by
     rw [← Array.getElem?_toList];have:=congrArg (·[0]?) hrem
     simp only [List.getElem?_drop,Nat.add_zero,List.getElem?_cons_zero] at this
     exact this
    refine wpAny_pyNext_list_item hit hl' hget fun h₂ hit₂ hs₂=>?_
    dsimp only
    have hmem:v∈its.toList:=by rw [← Array.getElem?_toList] at hget;exact List.mem_of_getElem? hget
    refine hown I (i+1) v _ _ _ hit₂ hmem ?_;have F₂:=Dh F' hs₂.extBut (Ne.symm hIL) hI0
    have N₂:News h₀ L h₂ own:=fun p hp=>⟨hs₂.extBut _ _ (off p hp).1 (N' p hp).1,(N' p hp).2⟩
    have hns₂:h₂.Ns (I+1+1) mC:=by
     obtain⟨o,es,ep,e,r⟩:=hns;exact⟨o,es,ep,hs₂.extBut _ _ (Ne.symm hIC) e,r⟩
    refine hasg _ v rem own (I+1) (I+1+1) mC _ _ hJ F₂.keep (fun p hp=>(N₂ p hp).1) hns₂ fun h₃ tk₃ m₂ hns₃ hB hk₃=>?_
    obtain⟨oI,heI,hcI,hdI⟩:=id hit₂;obtain⟨oC,heC,hoC⟩:=ns_obj hns₃
    have F₃:Fr h₀ L h₃ m:=Dh F₂ (fun b o hb e=>hk₃ b o hb e) (Ne.symm hCL) hC0
    have N₃:News h₀ L h₃ ((I,oI)::(I+1+1,oC)::own):=fun p hp=>by
     rcases List.mem_cons.mp hp with rfl | hp
     ·exact⟨hk₃ _ _ hIC heI,hIL,hI0⟩
     ·rcases List.mem_cons.mp hp with rfl | hp
      ·exact⟨heC,hCL,hC0⟩
      ·exact⟨hk₃ _ _ (off p hp).2 (N₂ p hp).1,(N₂ p hp).2⟩
    refine wpAny_mono (step { s' with heap:=h₃,toks:=tk₃ } (I+1) v rem own I oI (I+1+1) oC m₂ _ hJ hoC hB F₃ N₃ off hIC hos' hb') (fun _ s₄ h₄=>?_) fun _ _ z=>z
    obtain⟨ef,own',oC',m₂',hoC',hJ',F₄,N₄,off₄,hos₄,hb₄⟩:=h₄
    refine⟨ef,rem.length,Nat.lt_succ_self _,i+1,rem,own',m₂',rfl,?_,by simp at zd ⊢;exact(Nat.le_antisymm (Nl fun hn2=>fk [_,_,_] (.e (.a V0 (.s V1)) V2 (.e (.s V2) (.a (.s V0) V1) K0)) rfl (El zd) hn2) (Nl fun hn3=>fk [_,_,_] (.e V0 (.a V1 (.s V2)) (.e (.a (.a (.s V1) V2) K1) V0 K0)) rfl (Es zd) hn3)),hJ',F₄,fun p hp=>N₄ p (.tail _ (.tail _ hp)),off₄,hoC'.ns (N₄ (I+1+1,oC') (.tail _ (.head _))).1,⟨oI,(N₄ (I,oI) (.head _)).1,hcI,hdI⟩,hos₄,hb₄⟩
    rw [← List.drop_drop,hrem];rfl
  ·rcases List.mem_cons.mp hp with rfl | hp
   ·exact⟨up3 _ _ hD2,Nat.ne_of_gt (Nat.lt_succ_of_lt hLI),hD0⟩
   ·exact⟨up _ _ (N p hp).1,(N p hp).2⟩
  ·rcases List.mem_cons.mp hp with rfl | hp
   ·exact⟨Nat.ne_of_gt (Nat.lt_succ_self _),Nat.ne_of_lt (Nat.lt_succ_self _)⟩
   ·exact⟨Nat.ne_of_lt (hnI p hp),Nat.ne_of_lt (Nat.lt_succ_of_lt (Nat.lt_succ_of_lt (hnI p hp)))⟩
 exact hst _ _ _ _ _ loop (wpAny_pyIter_listiter (s:={ s with heap:=h₁,toks:=s.toks+([]:List (Str × Value)).length }) hi1 loop)
theorem Qy{w A s prog E h₀ L m env os e target ipos scope cl newAcc o0 tail ax its news RR}(J):Fi w A s prog E h₀ L m env os e target ipos scope cl newAcc o0 tail ax its news RR J:=Lh _ _ _ _ _ _ _ _ _ _ _ _ _ _ _ _ _ _ _ _ _ _ _
noncomputable def Iq(w:World)(A:Around)(s:Shared)(prog:Program)(E:Value→Shared→Prop)(h₀:Heap)(L:Addr)(m:Str→Option Value)(env:Env)(os:OsState)(e:PySem.Expr)(ipos:Pos)(x:Str)(px pe:Pos)(scope:Scope)(cl:List (Str × Addr))(ax I0 C D:Addr)(oI0 oC:Obj)(its:Array Value)(ys:List Value)(own:List (Addr × Obj))(m₂:Str→Option Value)(R:Result→Shared→Prop):Prop :=
 ∀ (hst:∀ (I:Addr) (R:Result→Shared→Prop) (s:Shared),codeAny (model prog w) A (.compLoop e 1 (.ref I) (.ref D) (compEnvC scope cl C env)) R s →
   wpAny (model prog w) A (pyIter (.ref I)) (fun it' s'=>codeAny (model prog w) A (.compLoop e 1 it' (.ref D) (compEnvC scope cl C env)) R s') (notedBy (model prog w) A (compEnvC scope cl C env) fun x s'=>R (.error x) s') s→codeAny (model prog w) A (.compStart e 1 (.ref I) (.ref D) (compEnvC scope cl C env)) R s) (hq:∀ I,(Code.compLoop e 1 (.ref I) (.ref D) (compEnvC scope cl C env)).quiet=true) (hden:∀ (I:Addr) (s:Shared) (Q:PySem.Fin→Shared→Prop) (E':Value→Shared→Prop),wpAny (model prog w) A ((compTurn e 1 (.ref I) (.ref D) (compEnvC scope cl C env)).onRaise (fun x=>do noteFrame x (compEnvC scope cl C env);theTreesLotGoes x)) Q E' s→wpAny (model prog w) (A.under (.compLoop e 1 (.ref I) (.ref D) (compEnvC scope cl C env))) ((model prog w).den (.compLoop e 1 (.ref I) (.ref D) (compEnvC scope cl C env))) Q E' s) (ht:∀ I,compTurn e 1 (.ref I) (.ref D) (compEnvC scope cl C env)=(standAt ipos >>= fun _=>pyNext (.ref I) >>= fun r=>match r with
   | none=>pure (.done .next)
   | some v=>letOwnedTupleGo (.Name x px) (.ref I) v >>= fun _=>assign (.Name x px) (compEnvC scope cl C env) v >>= fun _=>(eval (.Name x pe) (compEnvC scope cl C env) >>= fun y=>call (.builtin "list.append") [.ref D,y] >>= fun _=>pure ()) >>= fun _=>again (.compLoop e 1 (.ref I) (.ref D) (compEnvC scope cl C env)))) (hkind:scope.kind=.function) (hx:scope.names.lookup x=some .local) (hd:(x == ("__debug__":Str))=false) (hh:A.handled=none) (F:Fr h₀ L s.heap m) (N:News h₀ L s.heap ((I0,oI0)::(C,oC)::(D,lst ys)::own)) (hC:NsObj oC m₂) (off:Off3 I0 C D own) (hne:I0≠C∧I0≠D∧C≠D) (hos:s.os=os) (hb:AllBare s.gens) (hsrc:SrcAt h₀ ax its own) (hsz:ys.length+its.size≤1000) (fin:∀ (s1:Shared) oC' m₂',NsObj oC' m₂'→Fr h₀ L s1.heap m→News h₀ L s1.heap ((I0,oI0)::(C,oC')::(D,lst (ys++its.toList))::own)→s1.os=os→AllBare s1.gens→R (.ok .next) s1),wpAny (model prog w) A (pyIter (.ref ax)) (fun it s₂=>codeAny (model prog w) A (.compStart e 1 it (.ref D) (compEnvC scope cl C env)) R s₂) E s
theorem Tp:∀ {w A s prog E h₀ L m env os e ipos x px pe scope cl ax I0 C D oI0 oC its ys own m₂ R},Iq w A s prog E h₀ L m env os e ipos x px pe scope cl ax I0 C D oI0 oC its ys own m₂ R:=by
 refine @(Ab (Ao neW)<|@(Ab neI<|@(Ab neI<|@(Ed neI<|let_mvar% ?n:=(fun w A s prog E h₀ L m env os e ipos x px pe scope cl ax I0 C D oI0 oC its ys own m₂ R=>?_:∀ a b c d e f g h i j k l m n o p q r s t u v w x y z a1 b1,Iq a b c d e f g h i j k l m n o p q r s t u v w x y z a1 b1);?n _ _ _ _ _ _ _ _ _ _ _ _ _ _ _ _ _ _ _ _ _ _ _ _ _ _ _ _))))
 intro hst hq hden ht hkind hx hd hh F N hC off hne hos hb hsrc hsz fin
 have No:News h₀ L s.heap own:=fun p hp=>N p (.tail _ (.tail _ (.tail _ hp)))
 have hl:=hsrc.list F.keep No;refine wpAny_pyIter_list hl ?_
 generalize hIeq:s.heap.objs.size=I
 have hI1:(s.heap.push { cls:=.type "list_iterator",data:=.fields #[.ref ax,.int 0 0] }).IsListIter I ax 0:=⟨_,by rw [← hIeq];exact Heap.get?_push_size _ rfl,rfl,rfl⟩
 have up1:∀ b o,s.heap.get? b=some o→(s.heap.push { cls:=.type "list_iterator",data:=.fields #[.ref ax,.int 0 0] }).get? b=some o:=fun b o e=>Heap.get?_push_of_some _ e
 have hLI:L<I:=by rw [← hIeq];exact F.ns.lt
 have hI0:h₀.get? I=none:=Heap.get?_none_of_le (Nat.le_trans F.above (Nat.le_of_lt hLI));have hIL:I≠L:=Nat.ne_of_gt hLI
 have nI:∀ p∈(I0,oI0)::(C,oC)::(D,lst ys)::own,p.1≠I:=fun p hp=>Nat.ne_of_lt (by rw [← hIeq];exact Heap.lt_size (N p hp).1)
 have nC:C≠I:=nI (C,oC) (.tail _ (.head _));have nD:D≠I:=nI (D,lst ys) (.tail _ (.tail _ (.head _)));have n0:I0≠I:=nI (I0,oI0) (.head _)
 have nO:∀ p∈own,p.1≠I:=fun p hp=>nI p (.tail _ (.tail _ (.tail _ hp)))
 have o3:=off.mem;have hC0:=(N (C,oC) (.tail _ (.head _))).2;have hD0:=(N (D,lst ys) (.tail _ (.tail _ (.head _)))).2
 have loop:codeAny (model prog w) A (.compLoop e 1 (.ref I) (.ref D) (compEnvC scope cl C env)) R { s with heap:=s.heap.push { cls:=.type "list_iterator",data:=.fields #[.ref ax,.int 0 0] } }:=by
  refine Ts (target:=.Name x px) (ipos:=ipos) (emit:=(eval (.Name x pe) (compEnvC scope cl C env) >>= fun y=>call (.builtin "list.append") [.ref D,y] >>= fun _=>pure ()))
   (fun k s'=>∃ i rem oC' mC,k=rem.length∧its.toList.drop i=rem∧i+rem.length=its.size∧NsObj oC' mC∧Fr h₀ L s'.heap m∧News h₀ L s'.heap ((I0,oI0)::(C,oC')::(D,lst (ys++its.toList.take i))::own)∧s'.heap.IsListIter I ax i∧s'.os=os∧AllBare s'.gens) (hq I) (hden I) (ht I) ?_ its.size
   ⟨0,its.toList,oC,m₂,by simp,rfl,by simp,hC,F.keeps up1,by rw [List.take_zero,List.append_nil];exact fun p hp=>⟨up1 _ _ (N p hp).1,(N p hp).2⟩,hI1,hos,hb⟩
  rintro k s' ⟨i,rem,oC',mC,rfl,hrem,zd,hC',F',N',hit,hos',hb'⟩
  have No':News h₀ L s'.heap own:=fun p hp=>N' p (.tail _ (.tail _ (.tail _ hp)))
  have hl':s'.heap.IsList ax its:=hsrc.list F'.keep No'
  cases rem with
  | nil =>
   have hi:its.size≤i:=by simp at zd;exact(Es zd)
   refine wpAny_pyNext_list_end hh hit hl' (by simp;exact hi) fun h₂ he₂=>?_
   dsimp only
   have et:its.toList.take i=its.toList:=List.take_of_length_le (by simpa using hi)
   rw [et] at N'
   refine fin _ oC' mC hC' (Dh F' he₂ (Ne.symm hIL) hI0) (fun p hp=>⟨he₂ _ _ ?_ (N' p hp).1,(N' p hp).2⟩) hos' hb'
   simp only [List.mem_cons] at hp
   rcases hp with rfl | rfl | rfl | hp
   ·exact n0
   ·exact nC
   ·exact nD
   ·exact nO p hp
  | cons v rem =>
   have hlt':i<its.size:=by simp at zd;exact(Nt fun hn1=>fk [_,_,_] (.e (.a V0 (.s V1)) V2 (.e V2 V0 K0)) rfl (El zd) hn1)
   have hget:its[i]?=some v:=by
    rw [← Array.getElem?_toList];have:=congrArg (·[0]?) hrem
    simp only [List.getElem?_drop,Nat.add_zero,List.getElem?_cons_zero] at this
    exact this
   refine wpAny_pyNext_list_item hit hl' hget fun h₂ hit₂ hs₂=>?_
   dsimp only;refine Wp ?_
   have N₂:News h₀ L h₂ ((I0,oI0)::(C,oC')::(D,lst (ys++its.toList.take i))::own):=fun p hp=>by
    refine⟨hs₂.extBut _ _ ?_ (N' p hp).1,(N' p hp).2⟩
    simp only [List.mem_cons] at hp
    rcases hp with rfl | rfl | rfl | hp
    ·exact n0
    ·exact nC
    ·exact nD
    ·exact nO p hp
   have F₂:=Dh F' hs₂.extBut (Ne.symm hIL) hI0;have zC:=N₂ (C,oC') (.tail _ (.head _))
   refine wpAny_assign_Name (wpAny_storeName_local (lookup_relabel_local hx) (hC'.ns zC.1) (fun h₃ hn₃ hs₃=>?_) (by simp [compEnvC,relabel,hkind]))
   obtain⟨oC3,heC,hoC⟩:=ns_obj hn₃;have F₃:Fr h₀ L h₃ m:=Dh F₂ hs₃.extBut (Ne.symm hC0.1) hC0.2
   have N₃:News h₀ L h₃ ((I0,oI0)::(C,oC3)::(D,lst (ys++its.toList.take i))::own):=fun p hp=>by
    rcases List.mem_cons.mp hp with rfl | hp
    ·have z:=N₂ (I0,oI0) (.head _)
     exact⟨hs₃.extBut _ _ hne.1 z.1,z.2⟩
    rcases List.mem_cons.mp hp with rfl | hp
    ·exact⟨heC,hC0⟩
    rcases List.mem_cons.mp hp with rfl | hp
    ·have z:=N₂ (D,lst (ys++its.toList.take i)) (.tail _ (.tail _ (.head _)))
     exact⟨hs₃.extBut _ _ (Ne.symm hne.2.2) z.1,z.2⟩
    ·have z:=N₂ p (.tail _ (.tail _ (.tail _ hp)))
     exact⟨hs₃.extBut _ _ (o3 p hp).2.1 z.1,z.2⟩
   have hit₃:h₃.IsListIter I ax (i+1):=by
    obtain⟨o,e1,r⟩:=hit₂;exact⟨o,hs₃.extBut _ _ (Ne.symm nC) e1,r⟩
   refine Wb (LCgL.ld_own (s:={ s' with heap:=h₃,toks:=s'.toks+1 }) (v:=v) N₃ (.tail _ (.head _)) hoC (by simp) ?_ (by simp [compEnvC,relabel,hkind]) (lookup_relabel_local hx) hd)
   have zD:=N₃ (D,lst (ys++its.toList.take i)) (.tail _ (.tail _ (.head _)))
   refine Wb (append_at (hsz:=by
    show (ys++its.toList.take i).toArray.size≤sizeLine
    rw [List.size_toArray,sizeLine_eq,List.length_append,List.length_take];exact(Nl fun hn1=>fk [_,_,_] (.e (.a V0 V1) (.k 1000) (.e V2 V1 (.e (.s (.k 16777216)) (.a V0 V2) K0))) rfl hsz (Nat.min_le_right _ _) hn1)) zD.1 fun h₅ hs₅ hD₅=>Wp ?_)
   have et:its.toList.take (i+1)=its.toList.take i++[v]:=by
    rw [List.take_succ_eq_append_getElem (by simpa using hlt')]
    have:=Array.getElem?_eq_getElem hlt';rw [this] at hget
    simp only [Option.some.injEq] at hget
    simp [hget]
   refine⟨rem.length,Nat.lt_succ_self _,i+1,rem,oC3,_,rfl,?_,by simp at zd ⊢;exact(Nat.le_antisymm (Nl fun hn2=>fk [_,_,_] (.e (.a V0 (.s V1)) V2 (.e (.s V2) (.a (.s V0) V1) K0)) rfl (El zd) hn2) (Nl fun hn3=>fk [_,_,_] (.e V0 (.a V1 (.s V2)) (.e (.a (.a (.s V1) V2) K1) V0 K0)) rfl (Es zd) hn3)),hoC,F₃.change hs₅ hD0.1 hD0.2,fun p hp=>?_,?_,hos',hb'⟩
   ·rw [← List.drop_drop,hrem];rfl
   ·rw [et,← List.append_assoc] at hp
    rcases List.mem_cons.mp hp with rfl | hp
    ·have z:=N₃ (I0,oI0) (.head _)
     exact⟨hs₅.extBut _ _ hne.2.1 z.1,z.2⟩
    rcases List.mem_cons.mp hp with rfl | hp
    ·have z:=N₃ (C,oC3) (.tail _ (.head _))
     exact⟨hs₅.extBut _ _ hne.2.2 z.1,z.2⟩
    rcases List.mem_cons.mp hp with rfl | hp
    ·exact⟨hD₅.trans (congrArg some (lst_snoc _ v)),hD0⟩
    ·have z:=N₃ p (.tail _ (.tail _ (.tail _ hp)))
     exact⟨hs₅.extBut _ _ (o3 p hp).2.2 z.1,z.2⟩
   ·obtain⟨o,e1,r⟩:=hit₃
    exact⟨o,hs₅.extBut _ _ (Ne.symm nD) e1,r⟩
 exact hst _ _ _ loop (wpAny_pyIter_listiter (s:={ s with heap:=s.heap.push { cls:=.type "list_iterator",data:=.fields #[.ref ax,.int 0 0] } }) hI1 loop)
end
end Mine
namespace Mine
open PySem.Calls
local macro_rules | `(tactic| walk_at "eval Name")=>`(tactic| k_dflt (first
  | (refine' nameX_L ?_ ?_ ?_ ?_ ?_;k_asm;rotate_left 2;iterate 3 rfl;k_whole)
  | (refine' nameX_K ?_ ?_ ?_ ?_ ?_ ?_ ?_;iterate 3 k_asm;rotate_left 2;iterate 2 rfl;k_is;k_whole)
  | (refine' nameX_B ?_ ?_ ?_ ?_ ?_ ?_ ?_ ?_ ?_;iterate 3 k_asm;rotate_left 4;iterate 2 rfl;k_is;boot_fast;decide;k_whole)))
local macro_rules | `(tactic| walk_at "ite")=>`(tactic| first | refine ite_pos (by with_reducible assumption) ?_ | refine ite_neg (ne_true_of_eq_false (by with_reducible assumption)) ?_ | refine ite_pos (Eq.refl true) ?_ | refine ite_neg Bool.false_ne_true ?_ | refine ite_pos Bool.not_false ?_ | refine ite_neg nnt ?_ | (k_closed;k_dflt (first | refine ite_pos (by decide) ?_ | refine ite_neg (by decide) ?_)) | ((refine Bb ?_ ?_<;>intro hq)<;>try (exfalso;revert hq;decide;done)))
local macro_rules | `(tactic| walk_at "getMethod ref")=>`(tactic| k_dflt (refine method_inst (by k_asm) (by k_asm) (by k_inst) (by k_is) (by k_is) (by k_is) (by k_get) ?_;k_whole))
local macro_rules | `(tactic| walk_at "getAttr ref")=>`(tactic| k_dflt (refine get_own (by k_asm) (by k_asm) (by k_inst) (by k_is) (by k_is) (by k_is) (by k_is) (by k_get) (by k_handed) ?_;k_whole))
local macro_rules | `(tactic| walk_at "callWith ref")=>`(tactic| k_dflt (refine callWith_K (by k_asm) (by k_is) ?_;k_whole))
local macro_rules | `(tactic| walk_at "exec Assign")=>`(tactic| refine wpAny_Assign_Name ?_)
local macro_rules | `(tactic| walk_at "exec Expr")=>`(tactic| refine wpAny_Expr_any ?_)
local macro_rules | `(tactic| walk_at "exec If")=>`(tactic| refine wpAny_If ?_)
local macro_rules | `(tactic| walk_at "eval Call Attribute")=>`(tactic| refine MethodCall_ ?_)
local macro_rules | `(tactic| walk_at "eval Call")=>`(tactic| refine Call_ ?_)
local macro_rules | `(tactic| walk_at "isTrue Compare")=>`(tactic| refine wpAny_isTrue_Compare1 ?_)
local macro_rules | `(tactic| walk_at "eval Attribute Name")=>`(tactic| refine Attribute_Name_ ?_)
local macro_rules | `(tactic| walk_at "eval Tuple")=>`(tactic| refine Tuple_ ?_)
local macro_rules | `(tactic| walk_at "eval IfExp")=>`(tactic| with_reducible refine IfExp_ ?_)
local macro_rules | `(tactic| walk_at "execs cons")=>`(tactic| refine wpAny_execs_cons ?_)
local macro_rules | `(tactic| walk_at "execs nil")=>`(tactic| refine wpAny_execs_nil ?_)
local macro_rules | `(tactic| walk_at "in")=>`(tactic| (intros;(try k_sweep)))
local macro_rules | `(tactic| walk_at "storeName")=>`(tactic| (k_dflt (refine storeX_L (by k_asm) (by k_asm) ?_ (by rfl) (by rfl);k_whole);walk_at "eps";walk_at "in"))
local macro_rules | `(tactic| walk_at "compareOp Eq str str")=>`(tactic| refine eq_str ?_)
local macro_rules | `(tactic| walk_at "truthy bool")=>`(tactic| refine wpAny_truthy_bool ?_)
local macro_rules | `(tactic| walk_at "isTrue BoolOp")=>`(tactic| with_reducible first | refine isTrue_and_nil ?_ | refine isTrue_or_nil ?_ | refine isTrue_and ?_ | refine isTrue_or ?_)
local macro_rules | `(tactic| walk_at "go1")=>`(tactic| first | (k_unfold;(try dsimp only)) | ((with_reducible first | show wpAny _ _ _ _ _ _ | show (if _ then _ else _) | show _∧_ | show _≤sizeLine);walk1))
local macro_rules | `(tactic| walk_at "go")=>`(tactic| first | walk_at "go1" | (dsimp only;walk_at "go1"))
local macro_rules | `(tactic| walk_at "l_mem")=>`(tactic| repeat' (first | exact List.forall_mem_nil _ | refine Fc (by k_mem) ?_))
local macro_rules | `(tactic| walk_at "l_ne")=>`(tactic| ((try dsimp only);first | (with_reducible assumption) | (exact Ne.symm (by with_reducible assumption)) | k_ne))
local macro_rules | `(tactic| walk_at "l_allne")=>`(tactic| first | (with_reducible assumption) | exact List.forall_mem_nil _ | (refine Fc ?_ ?_;walk_at "l_ne";walk_at "l_allne"))
local macro_rules | `(tactic| walk_at "l_notin")=>`(tactic| repeat' (first | exact List.forall_mem_nil _ | refine Fc ?_ ?_ | exact Aq | refine Ac ?_ ?_ | walk_at "l_ne"))
local macro_rules | `(tactic| walk_at "l_upd")=>`(tactic| first | (refine' Upd.head ?a;(case a=>walk_at "l_allne")) | (refine' Upd.tail ?a ?b;(case a=>walk_at "l_ne");(case b=>walk_at "l_upd")))
local macro_rules | `(tactic| walk_at "eps")=>`(tactic| with_reducible refine let_mvar% ?n:=(fun z=>?_:Fa _);Bo neI (tie:Tie _ (type_of% ?n)) (?n _))
local macro_rules | `(tactic| walk_at "eps2")=>`(tactic| with_reducible refine let_mvar% ?n:=(fun y z=>?_:Fa2 _);Al neI (Bn:Tie _ (type_of% ?n)) (?n _ _))
local macro_rules | `(tactic| walk_at "newList")=>`(tactic| (k_dflt (refine newList_K (by k_asm) (by k_asm) ?_;k_whole);walk_at "eps2";intro F' N' l1;(try k_lt l1);(try k_sweep)))
local macro_rules | `(tactic| walk_at "newTuple")=>`(tactic| (k_dflt (refine kup_newTuple (by k_asm) (by k_asm) ?_ ?_;rotate_left;kmk_size);walk_at "eps2";intro F' N' l1;(try k_lt l1);(try k_sweep)))
local macro_rules | `(tactic| walk_at "call builtin:list.append")=>`(tactic| (k_dflt (refine append_K (by k_asm) (by k_asm) (by k_upd) ?_ ?_;rotate_left;size_fits;k_whole);walk_at "eps";walk_at "in"))
local macro_rules | `(tactic| walk_at "setAttr ref")=>`(tactic| (k_dflt (refine set_dict (by k_asm) (by k_asm) (by k_asm) (by k_inst) (by rfl) (by k_is) (by k_is) (by k_is) (by k_is) (by k_get) (by k_put) (by k_upd) (by k_units) ?_;k_whole);walk_at "eps";walk_at "in"))
local macro_rules | `(tactic| walk_at "eval Dict nil nil")=>`(tactic| (k_dflt (refine newDict_K (by k_asm) (by k_asm) (TopRead.nolimit (by k_asm)) ?_;k_whole);walk_at "eps2";walk_at "eps";intro F' N' l1 lo' hs' fs' hi' fi';(try k_lt l1);(try k_sweep)))
local macro_rules | `(tactic| walk_at "l_in")=>`(tactic| with_reducible first | exact List.mem_cons_self | assumption | (refine Ml _ ?_;walk_at "l_in") | (refine Mr _ ?_;walk_at "l_in") | (refine List.mem_cons_of_mem _ ?_;walk_at "l_in"))
local macro_rules | `(tactic| walk_at "l_sub")=>`(tactic| repeat' (first | (with_reducible first | exact List.forall_mem_nil _ | refine Fp ?_ ?_ | refine Fc ?_ ?_) | walk_at "l_in" | (intro q hq;walk_at "l_in")))
local macro_rules | `(tactic| k_ne)=>`(tactic| first | exact Gi (by with_reducible assumption) (by k_mem) | exact Gh (by with_reducible assumption) (by k_mem))
local macro_rules | `(tactic| walk_at "s_le")=>`(tactic| first | with_reducible assumption | exact Nat.le_of_eq (by kln_w) | exact Dl | (apply KT.len_app;walk_at "s_le";walk_at "s_le"))
local macro_rules | `(tactic| walk_at "And")=>`(tactic| ((with_reducible show Str.length (_++_)≤sizeLine∧wpAny _ _ (joinParts _ _) _ _ _);k_dflt (refine And.intro (Dk (by walk_at "s_le") (by exact rfl)) ?_)))
theorem rs1:True∧True:=by
 (try walk1);(try w_top off)
 all_goals (first | trivial | exact ⟨trivial,trivial⟩)
section

local macro_rules | `(tactic| walk_at "call type:set nil nil")=>`(tactic| (k_dflt (refine kse_new (by k_asm) (by k_asm) ?_);with_reducible refine let_mvar% ?n:=(fun x y z=>?_:Fa3 _);Am neI (Bu:Tie _ (type_of% ?n)) (?n _ _ _);intro F' N' l1 hs' hz';(try k_lt l1)))
local macro_rules | `(tactic| walk_at "call builtin:str.rsplit")=>`(tactic| (refine rsplit1 (by k_asm) (by k_asm) (by assumption) (by assumption) ?_;intro h' t1 t2 tk F' N';(try k_sweep)))
local macro_rules | `(tactic| walk_at "compareOp NotIn")=>`(tactic| ((with_reducible show wpAny _ _ (compareOp CmpOp.NotIn (.str _ _) (.ref _)) _ _ _);refine Wi (by k_asm) (by k_mem) (by assumption) ?_))
theorem zero_of{n:Int}(h:(!(n != 0))=true):n=0:=by simpa using h
theorem nil_of{n:Int}(h:¬ (n != 0)=true):n=0:=by simpa using h
noncomputable def Jf(w:World)(A:Around)(s:Shared)(g:Heap)(os:OsState)(p:Program)(zw:List Str)(zr:ExcName→Option Value)(mg mb:Str→Option Value)(R:Result→Shared→Prop)(x dx dl:Addr)(hsh:Nat→Int)(tkn:Nat→Tok)(wr da de ns pm pr:Addr)(rs rd:Bool)(ig:Int)(its:Array Value)(ep n:Nat)(q uri tag:Str)(tq:Tok)(dlv nlv:List (Addr × Array Value))(dps nps:List Pr):Prop :=
 ∀ (X:(hd11.heap_39 w.params).In g) (T:Top p zw zr mg mb g) (H:Ok g os [(x,instObj 143 dx),(dx,dictOf (wd hsh tkn (.bool true) (.bool true) .none .none (.bool false) .none .none .none wr da de ns pm pr rs rd ig) ep),(dl,listOf its n)] s) (hDe:g.IsList de ((dlv++[(dl,its)]).map fun p=>.ref p.1).toArray) (hDl:∀ p∈dlv,g.IsList p.1 p.2) (hDz:∀ p∈dlv++[(dl,its)],(p.2.size:Int)<2 ^ 63) (hDp:All2 (Cg g) (comes (dlv++[(dl,its)])) dps) (hDn:dps.length<3000) (hDs:∀ q∈dps,q.1.length≤1000∧q.2.length≤1000) (hNs:g.IsList ns (nlv.map fun p=>.ref p.1).toArray) (hNl:∀ p∈nlv,g.IsList p.1 p.2∧(p.2.size:Int)<2 ^ 63) (hNp:All2 (Cg g) (comes nlv) nps) (hNq:∀ q∈nps,q.1.length≤1000∧q.2.length≤1000) (hxl:x≠dl) (hdl:dx≠dl) (hitz:its.size≤sizeLine) (hh:A.handled=none) (zq:A.depth<900) (hq:q.length≤1000) (hut:uri.length≤1000∧tag.length≤1000) (hn:Mv q uri tag=true) (hN1:∀ s' txt ta t1 t2 t3,qn dps nps uri tag=some (txt,none)→x<ta→dx<ta→dl<ta→Ok g os [(ta,Ae #[.str txt t1,.str tag t2,.str uri t3]),(x,instObj 143 dx),(dx,dictOf (wd hsh tkn (.bool true) (.bool true) .none .none (.bool false) .none .none .none wr da de ns pm pr rs rd ig) ep),(dl,listOf its n)] s'→R (.ok (.ret (.ref ta))) s') (hN2:∀ s' txt pf ta tb t1 t2 t3 t4 t5,qn dps nps uri tag=some (txt,some (uri,pf))→x<ta→dx<ta→dl<ta→x<tb→dx<tb→dl<tb→ta≠tb→Ok g os [(ta,Ae #[.str txt t1,.str tag t2,.str uri t3]),(tb,Ae #[.str uri t4,.str pf t5]),(x,instObj 143 dx),(dx,dictOf (wd hsh tkn (.bool true) (.bool true) .none .none (.bool false) .none .none .none wr da de ns pm pr rs rd ig) ep),(dl,listOf (its.push (.ref tb)) (n+1))] s'→R (.ok (.ret (.ref ta))) s') (hsome:qn dps nps uri tag≠none),codeAny (model rw_dn0283_11.row.prog w) A (.call (.ref 83) ⟨[.ref x,.str q tq],[]⟩) R s
theorem Mx:∀ {w A s g os p zw zr mg mb R x dx dl hsh tkn wr da de ns pm pr rs rd ig its ep n q uri tag tq dlv nlv dps nps},Jf w A s g os p zw zr mg mb R x dx dl hsh tkn wr da de ns pm pr rs rd ig its ep n q uri tag tq dlv nlv dps nps:=by
 refine @(Ab (Ao neW)<|@(Ab neI<|@(Ab neI<|@(Ab neI<|@(Ed neI<|let_mvar% ?n:=(fun w A s g os p zw zr mg mb R x dx dl hsh tkn wr da de ns pm pr rs rd ig its ep n q uri tag tq dlv nlv dps nps=>?_:∀ a b c d e f g h i j k l m n o p q r s t u v w x y z a1 b1 c1 d1 e1 f1 g1 h1 i1 j1,Jf a b c d e f g h i j k l m n o p q r s t u v w x y z a1 b1 c1 d1 e1 f1 g1 h1 i1 j1);?n _ _ _ _ _ _ _ _ _ _ _ _ _ _ _ _ _ _ _ _ _ _ _ _ _ _ _ _ _ _ _ _ _ _ _ _)))))
 intro X T H hDe hDl hDz hDp hDn hDs hNs hNl hNp hNq hxl hdl hitz hh zq hq hut hn hN1 hN2 hsome
 have hq1:q.length≤sizeLine:=by rw [sizeLine_eq];exact(Nl fun hn1=>fk [_] (.e V0 (.k 1000) (.e (.s (.k 16777216)) V0 K0)) rfl hq hn1)
 have hDe':g.IsList de (dlv.map (fun(p:Addr × Array Value)=>Value.ref p.1)++[Value.ref dl]).toArray:=by simpa using hDe
 revert X
 k_fill
 intro X
 refine' Ha H X T ?k6 ?k7 (Nat.lt_trans zq (by decide)) ?k9 ?kB ?_ ?c1 ?c2 ?c3 ?c4
 (case k6=>k_is)
 (case k7=>k_is)
 (case k9=>first | exact binds_K (X.keeps H.keep) rfl (by k_is) rfl rfl rfl | exact BindsTo.of_eq rfl)
 (case kB=>exact locs rfl)
 (case c1=>exact rfl)
 (case c2=>exact rfl)
 (case c3=>exact rfl)
 (case c4=>decide)
 k_whole;walk_at "eps2";rename_i L' h1;intro F0 N1 l1;k_lt l1;(try dsimp only)
 have F1:Fr g L' h1 (fun y=>List.lookup y [("uri",.none),("qname",.str q tq),("self",.ref x)]):=F0
 clear F0
 (try k_fold)
 -- the name is cut
 refine wpAny_execs_cons (Ds (R:=fun s'=>∃ h2 t1 t2 k,s'={ s with heap:=h2,toks:=k }∧Fr g L' h2 (fun y=>if y="tag" then some (.str tag t2) else if y="uri" then some (.str uri t1) else List.lookup y [("uri",.none),("qname",.str q tq),("self",.ref x)]) ∧
   News g L' h2 [(x,instObj 143 dx),(dx,dictOf (wd hsh tkn (.bool true) (.bool true) .none .none (.bool false) .none .none .none wr da de ns pm pr rs rd ig) ep),(dl,listOf its n)]) ?_ ?_)
 ·unfold Mv at hn
  cases hc:Txt.slice q none (some 1) == "{" with
  | true =>
   rw [hc] at hn;have hq2:(Txt.slice q (some 1) none).length≤sizeLine:=Nat.le_trans (Txt.slice_le ..) hq1
   k_steps
   rename Fr ..=>F2
   rename News ..=>N2
   refine Jt F2 N2 ⟨_,(N2 _ (List.Mem.head _)).1,rfl,_,rfl⟩ hh fun h3 tk3 F3 N3=>?_
   refine Wp ⟨rfl,h3,_,_,tk3,rfl,F3,News.sub N3 fun p hp=>List.Mem.tail _ hp⟩
  | false =>
   rw [hc] at hn
   obtain⟨hu,ht⟩:uri=Str.empty∧tag=q:=by simpa using hn
   subst hu ht
   k_steps
   rename Fr ..=>F2
   rename News ..=>N2
   refine Ke F2 N2 ⟨_,(N2 _ (List.Mem.head _)).1,rfl,_,rfl⟩ hh fun h3 tk3 F3 N3=>?_
   refine Wp ⟨rfl,h3,_,_,tk3,rfl,F3,News.sub N3 fun p hp=>List.Mem.tail _ hp⟩
 ·refine exs4 ?_;with_reducible refine let_mvar% ?zq2:=(fun s99 h2 t1 t2 k=>?_:Fa5 _);Ee Cb (Lm:Tie _ (type_of% ?zq2)) (?zq2 _ _ _ _ _);rintro⟨rfl,F2,N2⟩
  dsimp only
  k_steps
  refine wpAny_For ?_
  k_steps
  rename Fr ..=>F3
  rename News ..=>N3
  refine wpAny_call (Xm (lvs:=dlv++[(dl,its)]) (binds:=[("self",.ref x),("ns_stack",.ref de),("_reversed",.type "reversed")]) F3 N3 X T.nolimit H.os H.bare hh (by k_is) (by k_is) ?zq ?zh (locs rfl) rfl rfl (Ai F3.keep hDe) ?hlv ?_ rfl rfl rfl rfl rfl rfl (by decide))
  case zq=>exact Nat.lt_of_lt_of_le (Nat.succ_lt_succ zq) (by decide)
  case zh=>exact binds_K (X.keeps F3.keep) rfl (by k_is) rfl rfl rfl
  case hlv =>
   intro z hz;refine⟨?_,hDz z hz⟩
   rcases List.mem_append.mp hz with q | q
   ·exact Ai F3.keep (hDl z q)
   ·rw [List.mem_singleton.mp q]
    exact⟨_,(N3 (dl,listOf its n) (by k_mem)).1,rfl,_,rfl⟩
  with_reducible refine let_mvar% ?zq3:=(fun s4 B ga gn oG priv=>?_:Fa6 _);Ew Cb (Nx:Tie _ (type_of% ?zq3)) (?zq3 _ _ _ _ _ _);intro F4 N4 hG4 hos4 hb4 G4 hsB hlB hnB hLB hga hpB
  dsimp only;refine wpAny_pyIter_gen (hG4.at (N4 _ (.head _)).1) ?_;rename_i sa hA led hsI hsS l2 hB;have F5:=F4
  rw [m2_none (a:="prefix") (b:="u") (m0:=fun y=>if y="prefixes_seen" then some (.ref sa) else if y="tag" then some (.str tag t2) else if y="uri" then some (.str uri t1) else List.lookup y [("uri",.none),("qname",.str q tq),("self",.ref x)]) rfl rfl] at F5
  refine Uo (fun ps own=>∃ seen oS nn,own=[(sa,oS),(x,instObj 143 dx),(dx,dictOf (wd hsh tkn (.bool true) (.bool true) .none .none (.bool false) .none .none .none wr da de ns pm pr rs rd ig) ep),(dl,listOf its n)]∧scan uri dps []=scan uri ps seen∧Cy rw_dn0283_11.row.prog w oS (fun z=>decide (z∈seen)) nn∧nn≤seen.length∧seen.length+ps.length=dps.length∧∀ q∈ps,q.1.length≤1000∧q.2.length≤1000) hh (Nat.lt_of_lt_of_le (Nat.succ_lt_succ zq) (by decide)) T.nolimit hG4 hga hLB ?hstack ?hown ?step ?done ⟨[],_,0,rfl,rfl,Qf.congr (by simp),Nat.le_refl _,by simp,hDs⟩ F5 N4 hDp G4 hos4 hb4 rfl rfl rfl
  case hstack =>
   rintro hp ps own hk Nk ⟨seen,oS,nn,rfl,_⟩
   refine⟨hsB,Ai hk hDe,fun z hz=>⟨hlB z hz,?_,hDz z hz⟩⟩
   rcases List.mem_append.mp hz with q | q
   ·exact Ai hk (hDl z q)
   ·rw [List.mem_singleton.mp q]
    exact⟨_,(Nk (dl,listOf its n) (by k_mem)).1,rfl,_,rfl⟩
  case hown =>
   rintro ps own ⟨seen,oS,nn,rfl,_⟩ z hz;refine .inl ?_
   simp only [List.mem_cons,List.not_mem_nil,or_false] at hz
   rcases hz with rfl | rfl | rfl | rfl
   ·have z:=hnB _ (.head _);exact z
   ·exact hnB (x,_) (.tail _ (.head _))
   ·exact hnB (dx,_) (.tail _ (.tail _ (.head _)))
   ·exact hnB (dl,_) (.tail _ (.tail _ (.tail _ (.head _))))
  case step =>
   with_reducible refine let_mvar% ?zq5:=(fun s5 q5 ta tb ps5 own5 rest=>?_:Fa7 _);Dr Cb (Kc:Tie _ (type_of% ?zq5)) (?zq5 _ _ _ _ _ _ _);refine Lz ?_;with_reducible refine let_mvar% ?zq6:=(fun seen oS nn=>?_:Fa3 _);Am neI (Bu:Tie _ (type_of% ?zq6)) (?zq6 _ _ _);rintro⟨rfl,hsc,hS,hnn,zd,hlq⟩ F6 N6 hrest hos6 hb6
   dsimp only [List.cons_append,List.nil_append] at N6
   have hne:∀ p∈(x,instObj 143 dx)::(dx,dictOf (wd hsh tkn (.bool true) (.bool true) .none .none (.bool false) .none .none .none wr da de ns pm pr rs rd ig) ep)::(dl,listOf its n)::rest,p.1≠sa:=by
    refine Fc (Nat.ne_of_lt l2.1) (Fc (Nat.ne_of_lt l2.2.1) (Fc (Nat.ne_of_lt l2.2.2) (fun p hp=>Nat.ne_of_gt (Nat.lt_of_lt_of_le (hnB _ (.head _)) (hrest p hp)))))
   have hn4:nn<4000:=by simp only [List.length_cons] at zd;exact(Nt fun hn1=>fk [_,_,_,_] (.e (.s V0) (.k 3000) (.e V1 V2 (.e (.a V2 (.s V3)) V0 (.e (.k 4000) V1 K0)))) rfl hDn hnn (El zd) hn1)
   cases hf:decide (q5.1=uri∧q5.2∉seen) with
   | true =>
    have hcond:q5.1=uri∧q5.2∉seen:=of_decide_eq_true hf;have hu:(q5.1 == uri)=true:=beq_iff_eq.mpr hcond.1
    have hs:(!decide (q5.2∈seen))=true:=by simpa using hcond.2
    have hz1:q5.2.length≤1000:=(hlq q5 (.head _)).2;have hz2:tag.length≤1000:=hut.2
    repeat' (first
      | walk_at "go")
    all_goals (rename Fr ..=>F7;rename News ..=>N7;rename_i l7)
    ·refine leaveM_ F7 (News.drop2 N7) hos6 hb6 fun H'=>hN1 _ _ _ _ _ _ ?_ l7.2.1 l7.2.2.1 l7.2.2.2.1 H'
     rw [Sh (p:=q5.2) (seen:=seen) (by rw [hsc,scan,if_pos hcond]),Rj (by first | assumption | exact bne_iff_ne.mp (by assumption))]
    ·refine leaveM_ F7 (News.drop2 N7) hos6 hb6 fun H'=>hN1 _ _ _ _ _ _ ?_ l7.2.1 l7.2.2.1 l7.2.2.2.1 H'
     rw [Sh (p:=q5.2) (seen:=seen) (by rw [hsc,scan,if_pos hcond]),Ri (by first | assumption | exact nil_of (by assumption))]
   | false =>
    have hcond:¬ (q5.1=uri∧q5.2∉seen):=of_decide_eq_false hf
    have hsc':scan uri dps []=scan uri ps5 (q5.2::seen):=by rw [hsc,scan,if_neg hcond]
    cases hu:q5.1 == uri with
    | false =>
     repeat' (first
      | ((with_reducible show wpAny _ _ (getMethod (.ref _) "add" _) _ _ _);refine getMethod_set_add (Cy.at hS (News.get (by k_asm) (by k_mem))) ?_)
      | ((with_reducible show wpAny _ _ (call (.builtin "set.add") _) _ _ _);refine Uz (by k_asm) (by k_asm) (List.Mem.head _) hS hn4 (fun o'=>Upd.head hne) fun h7 o7 F7 N7 hS7=>Wp ⟨_,_,_,⟨q5.2::seen,o7,_,rfl,hsc',hS7.congr fun z=>by simp [Bool.or_comm,eq_comm],by simp only [List.length_cons];split<;>lia,by simp only [List.length_cons] at zd ⊢;exact(Nat.le_antisymm (Nl fun hn2=>fk [_,_,_] (.e (.a V0 (.s V1)) V2 (.e (.s V2) (.a (.s V0) V1) K0)) rfl (El zd) hn2) (Nl fun hn3=>fk [_,_,_] (.e V0 (.a V1 (.s V2)) (.e (.a (.a (.s V1) V2) K1) V0 K0)) rfl (Es zd) hn3)),fun z hz=>hlq z (.tail _ hz)⟩,F7,N7,hos6,rfl⟩)
      | walk_at "go")
    | true =>
     have hs:(!decide (q5.2∈seen))=false:=by
      have:=beq_iff_eq.mp hu
      simp only [Bool.not_eq_false',decide_eq_true_eq]
      exact Classical.byContradiction fun z=>hcond ⟨this,z⟩
     repeat' (first
      | ((with_reducible show wpAny _ _ (getMethod (.ref _) "add" _) _ _ _);refine getMethod_set_add (Cy.at hS (News.get (by k_asm) (by k_mem))) ?_)
      | ((with_reducible show wpAny _ _ (call (.builtin "set.add") _) _ _ _);refine Uz (by k_asm) (by k_asm) (List.Mem.head _) hS hn4 (fun o'=>Upd.head hne) fun h7 o7 F7 N7 hS7=>Wp ⟨_,_,_,⟨q5.2::seen,o7,_,rfl,hsc',hS7.congr fun z=>by simp [Bool.or_comm,eq_comm],by simp only [List.length_cons];split<;>lia,by simp only [List.length_cons] at zd ⊢;exact(Nat.le_antisymm (Nl fun hn2=>fk [_,_,_] (.e (.a V0 (.s V1)) V2 (.e (.s V2) (.a (.s V0) V1) K0)) rfl (El zd) hn2) (Nl fun hn3=>fk [_,_,_] (.e V0 (.a V1 (.s V2)) (.e (.a (.a (.s V1) V2) K1) V0 K0)) rfl (Es zd) hn3)),fun z hz=>hlq z (.tail _ hz)⟩,F7,N7,hos6,rfl⟩)
      | walk_at "go")
  case done =>
   with_reducible refine let_mvar% ?zq7:=(fun s6 own6 p6 u6=>?_:Fa4 _);Bk Cb (Ek:Tie _ (type_of% ?zq7)) (?zq7 _ _ _ _);refine Lz ?_;with_reducible refine let_mvar% ?zq8:=(fun seen oS nn=>?_:Fa3 _);Am neI (Bu:Tie _ (type_of% ?zq8)) (?zq8 _ _ _);rintro⟨rfl,hsc,hS,hnn,zd,hlq⟩ F6 N6 hos6 hb6
   dsimp only
   have hsc1:scan uri dps []=(none,seen):=by rw [hsc,scan]
   by_cases hret:uri=Str.empty∧Str.empty∉seen
   ·have hs:(!decide (Str.ofString ""∈seen))=true:=by have:=hret.2;simp only [Bool.not_eq_true',decide_eq_false_iff_not];exact this
    repeat' (first | walk_at "go")
    ·rename Fr ..=>F7;rename News ..=>N7;rename_i l7
     refine leaveM_ F7 (News.drop2 N7) hos6 hb6 fun H'=>hN1 _ _ _ _ _ _ (Yi hsc1 hret) l7.2.1 l7.2.2.1 l7.2.2.2 H'
    ·exfalso
     rename_i hz
     exact hz (by rw [hret.1];rfl)
   ·repeat' ((fail_if_success (with_reducible show wpAny _ _ (execs (Stmt.If (Expr.BoolOp _ _ _) _ _ _::_) _) _ _ _));walk_at "go")
    refine' wpAny_execs_cons (Ds (R:=fun s'=>∃ k,s'={ s6 with toks:=k }) ?c1 ?c2)
    case c1 =>
     rcases Classical.em (Str.ofString ""∈seen) with hA | hA
     ·have hs:(!decide (Str.ofString ""∈seen))=false:=by simpa using hA
      repeat' (first | ((with_reducible show Flow.next=_∧_);exact⟨rfl,_,rfl⟩) | walk_at "go")
     ·have hs:(!decide (Str.ofString ""∈seen))=true:=by simpa using hA
      repeat' (first | ((with_reducible show Flow.next=_∧_);exact⟨rfl,_,rfl⟩) | ((with_reducible show Flow.ret _=_∧_);exfalso;exact hret ⟨Ge (zero_of (by assumption)),hA⟩) | walk_at "go")
    refine exs1 ?_;with_reducible refine let_mvar% ?zq9:=(fun s98 k6=>?_:Fa2 _);Al Cb (Bn:Tie _ (type_of% ?zq9)) (?zq9 _ _);rintro rfl
    dsimp only
    repeat' (first
      | ((with_reducible show wpAny _ _ (exec (Stmt.For _ _ _ _ _) _) _ _ _);refine wpAny_For ?_)
      | ((with_reducible show wpAny _ _ (call (.ref 68) _) _ _ _);refine wpAny_call (Xm (lvs:=nlv) (binds:=[("self",.ref x),("ns_stack",.ref ns),("_reversed",.type "reversed")]) F6 N6 X T.nolimit hos6 hb6 hh (by k_is) (by k_is) (Nat.lt_of_lt_of_le (Nat.succ_lt_succ zq) (by decide)) (binds_K (X.keeps F6.keep) rfl (by k_is) rfl rfl rfl) (locs rfl) rfl rfl (Ai F6.keep hNs) (fun z hz=>⟨Ai F6.keep (hNl z hz).1,(hNl z hz).2⟩) ?_ rfl rfl rfl rfl rfl rfl (by decide)))
      | walk_at "go")
    with_reducible refine let_mvar% ?zq4:=(fun s7 B7 ga7 gn7 oG7 priv7=>?_:Fa6 _);Ew Cb (Nx:Tie _ (type_of% ?zq4)) (?zq4 _ _ _ _ _ _);intro F7 N7 hG7 hos7 hb7 G7 hsB7 hlB7 hnB7 hLB7 hga7 hpB7
    dsimp only;refine wpAny_pyIter_gen (hG7.at (N7 _ (.head _)).1) ?_
    refine Uo (fun ps own=>own=[(sa,oS),(x,instObj 143 dx),(dx,dictOf (wd hsh tkn (.bool true) (.bool true) .none .none (.bool false) .none .none .none wr da de ns pm pr rs rd ig) ep),(dl,listOf its n)]∧find uri nps=find uri ps∧∀ q∈ps,q.1.length≤1000∧q.2.length≤1000) hh (Nat.lt_of_lt_of_le (Nat.succ_lt_succ zq) (by decide)) T.nolimit hG7 hga7 hLB7 ?hstack ?hown ?step ?done ⟨rfl,rfl,hNq⟩ F7 N7 hNp G7 hos7 hb7 rfl rfl rfl
    case hstack =>
     rintro hp ps own hk Nk _
     exact⟨hsB7,Ai hk hNs,fun z hz=>⟨hlB7 z hz,Ai hk (hNl z hz).1,(hNl z hz).2⟩⟩
    case hown =>
     rintro ps own ⟨rfl,_⟩ z hz;exact .inl (hnB7 z hz)
    case step =>
     with_reducible refine let_mvar% ?zq10:=(fun s8 q8 ta tb ps8 own8 rest=>?_:Fa7 _);Dr Cb (Kc:Tie _ (type_of% ?zq10)) (?zq10 _ _ _ _ _ _ _);rintro⟨rfl,hfd,hlq8⟩ F8 N8 hrest hos8 hb8
     dsimp only [List.cons_append,List.nil_append] at N8
     cases hu:q8.1 == uri with
     | false =>
      have hfd':find uri nps=find uri ps8:=by rw [hfd,find,if_neg (fun z=>by rw [z] at hu;simp at hu)]
      repeat' (first
       | ((with_reducible show Exists _);exact⟨_,_,_,⟨rfl,hfd',fun z hz=>hlq8 z (.tail _ hz)⟩,F8,N8,hos8,rfl⟩)
       | walk_at "go")
     | true =>
      have hrest':∀ p∈rest,p.1≠dl:=fun p hp=>Nat.ne_of_gt (Nat.lt_of_lt_of_le (hnB7 (dl,listOf its n) (.tail _ (.tail _ (.tail _ (.head _))))) (hrest p hp))
      have hz1:q8.2.length≤1000:=(hlq8 q8 (.head _)).2;have hz2:tag.length≤1000:=hut.2
      repeat' (first
       | ((with_reducible show wpAny _ _ (subscriptTail _ _ (.ref de) (.int (-1) _)) _ _ _);refine De (vs:=dlv.map fun p=>.ref p.1) (v:=.ref dl) (Ai (Fr.keep (by k_asm)) hDe') ?_)
       | ((with_reducible show wpAny _ _ (call (.builtin "list.append") [.ref dl,_]) _ _ _);rename_i l8;refine append_K (by k_asm) (by k_asm) (Upd.tail (Nat.ne_of_gt l8.2.2.2.1) (Upd.tail (Nat.ne_of_gt l2.2.2) (Upd.tail hxl (Upd.tail hdl (Upd.head hrest'))))) ?_ hitz;walk_at "eps";rename_i h';intro F' N';(try k_sweep))
       | walk_at "go")
      all_goals (rename Fr ..=>F9;rename News ..=>N9;rename_i l9)
      ·refine leaveM_ F9 (News.drop3 N9) hos8 hb8 fun H'=>hN2 _ _ q8.2 _ _ _ _ _ _ _ ?_ l9.2.2.1 l9.2.2.2.1 l9.2.2.2.2.1 l8.2.1 l8.2.2.1 l8.2.2.2.1 (Nat.ne_of_gt l9.1) H'
       rw [Ux hsc1 hret (by rw [hfd,find,if_pos (beq_iff_eq.mp hu)]),Rj (by first | assumption | exact bne_iff_ne.mp (by assumption))]
      ·refine leaveM_ F9 (News.drop3 N9) hos8 hb8 fun H'=>hN2 _ _ q8.2 _ _ _ _ _ _ _ ?_ l9.2.2.1 l9.2.2.2.1 l9.2.2.2.2.1 l8.2.1 l8.2.2.1 l8.2.2.2.1 (Nat.ne_of_gt l9.1) H'
       rw [Ux hsc1 hret (by rw [hfd,find,if_pos (beq_iff_eq.mp hu)]),Ri (by first | assumption | exact nil_of (by assumption))]
    case done =>
     with_reducible refine let_mvar% ?zq11:=(fun s8 own8 p8 u8=>?_:Fa4 _);Bk Cb (Ek:Tie _ (type_of% ?zq11)) (?zq11 _ _ _ _);rintro⟨rfl,hfd,_⟩ F8 N8 hos8 hb8
     dsimp only;have hqn:=qn_none (tag:=tag) hsc1 hret (hfd.trans rfl)
     by_cases he:uri=Str.empty
     ·rw [if_pos he] at hqn
      have hz0:(uri.length:Int)=0:=by rw [he];rfl
      repeat' ((fail_if_success (with_reducible show wpAny _ _ (exec (Stmt.Raise _ _ _) _) _ _ _));walk_at "go")
      ·rename Fr ..=>F9;rename News ..=>N9;rename_i l9
       refine leaveM_ F9 (News.drop2 N9) hos8 hb8 fun H'=>hN1 _ _ _ _ _ _ hqn l9.2.1 l9.2.2.1 l9.2.2.2 H'
      ·exfalso
       rename_i hz
       exact hz (by rw [he];rfl)
     ·rw [if_neg he] at hqn
      exact absurd hqn hsome
end
section

open PyProof.Rows.LCg
section
variable{w:World}{A:Around}{E:Value→Shared→Prop}{s:Shared}{g:Heap}{os:OsState}{p:Program}{zw:List Str}{zr:ExcName→Option Value}{mg mb:Str→Option Value}{L:Addr}{m:Str→Option Value}{news:List (Addr × Obj)}
 {x dx:Addr} {hsh:Nat→Int} {tkn:Nat→Tok} {wr da de ns pm pr:Addr} {rs rd:Bool} {ep:Nat} {dl:Addr}
noncomputable abbrev WQ(x dx:Addr)(hsh:Nat→Int)(tkn:Nat→Tok)(wr da de ns pm pr:Addr)(rs rd:Bool)(ep:Nat)(dl:Addr)(itsd:Array Value)(nd:Nat):List (Addr × Obj) :=
 [(x,instObj 143 dx),(dx,dictOf (wd hsh tkn (.bool true) (.bool true) .none .none (.bool false) .none .none .none wr da de ns pm pr rs rd 0) ep),(dl,listOf itsd nd)]
noncomputable def Uw(w:World)(A:Around)(s:Shared)(E:Value→Shared→Prop)(g:Heap)(os:OsState)(p:Program)(zw:List Str)(zr:ExcName→Option Value)(mg mb:Str→Option Value)(L:Addr)(m:Str→Option Value)(news:List (Addr × Obj))(x dx:Addr)(hsh:Nat→Int)(tkn:Nat→Tok)(wr da de ns pm pr:Addr)(rs rd:Bool)(ep:Nat)(dl qm:Addr)(itsd:Array Value)(nd nns:Nat)(dlv nlv:List (Addr × Array Value))(lower nps lv:List Pr)(n:Str)(tn:Tok)(prs rest:List (Addr × Obj))(Q:Value→Shared→Prop):Prop :=
 ∀ (X:(hd11.heap_39 w.params).In g) (T:Top p zw zr mg mb g) (hh:A.handled=none) (zq:A.depth<900) (F:Fr g L s.heap m) (N:News g L s.heap news) (hos:s.os=os) (hb:AllBare s.gens) (hqm:(qm,methodObj (.ref 83) (.ref x))∈news) (h1:∀ q∈WQ x dx hsh tkn wr da de ns pm pr rs rd ep dl itsd nd,q∈news) (h2:∀ q∈rest,q∈news) (h3:∀ q∈rest,q.1≠x∧q.1≠dx∧q.1≠dl) (hDe:g.IsList de ((dlv++[(dl,(#[]:Array Value))]).map fun p=>.ref p.1).toArray) (hDl:∀ p∈dlv,g.IsList p.1 p.2) (hDz:∀ p∈dlv,(p.2.size:Int)<2 ^ 63) (hDp:All2 (Cg g) (comes dlv) lower) (hDn:lower.length<2900) (hDs:∀ q∈lower,q.1.length≤200∧q.2.length≤200) (hNs:(ns,listOf (nlv.map fun p=>.ref p.1).toArray nns)∈rest) (hNl:∀ p∈nlv,g.IsList p.1 p.2∧(p.2.size:Int)<2 ^ 63) (hNp:All2 (Cg g) (comes nlv) nps) (hNq:∀ q∈nps,q.1.length≤200∧q.2.length≤200) (hpr:∀ q∈prs,q∈rest) (hits:All2 (Ap prs) itsd.toList lv) (hlv:lv.length≤50) (hlq:∀ q∈lv,q∈nps) (hg:Di n=true) (hk:known nps (cutName n).1) (hxl:x≠dl) (hdl:dx≠dl) (h:∀ s' txt o ta t1 t2 t3 new its' nd',qn (lv++lower) nps (cutName n).1 (cutName n).2=some (txt,o)→All2 (Ap (new++prs)) its'.toList (lv++o.toList)→(∀ q∈(ta,Ae #[.str txt t1,.str (cutName n).2 t2,.str (cutName n).1 t3])::new,q.1≠x∧q.1≠dx∧q.1≠dl∧∀ r∈rest,q.1≠r.1)→(∀ q∈new,ta≠q.1) →
   Fr g L s'.heap m→News g L s'.heap ((ta,Ae #[.str txt t1,.str (cutName n).2 t2,.str (cutName n).1 t3])::(new++(WQ x dx hsh tkn wr da de ns pm pr rs rd ep dl its' nd'++rest)))→s'.os=os→AllBare s'.gens→Q (.ref ta) s'),wpAny (model rw_dn0283_11.row.prog w) A (call (.ref qm) [.str n tn]) Q E s
theorem qcall:∀ {w A s E g os p zw zr mg mb L m news x dx hsh tkn wr da de ns pm pr rs rd ep dl qm itsd nd nns dlv nlv lower nps lv n tn prs rest Q},Uw w A s E g os p zw zr mg mb L m news x dx hsh tkn wr da de ns pm pr rs rd ep dl qm itsd nd nns dlv nlv lower nps lv n tn prs rest Q:=by
 refine @(Ab (Ao neW)<|@(Ab neI<|@(Ab neI<|@(Ab neI<|@(Ab neI<|@(Gm neI<|let_mvar% ?n:=(fun w A s E g os p zw zr mg mb L m news x dx hsh tkn wr da de ns pm pr rs rd ep dl qm itsd nd nns dlv nlv lower nps lv n tn prs rest Q=>?_:∀ a b c d e f g h i j k l m n o p q r s t u v w x y z a1 b1 c1 d1 e1 f1 g1 h1 i1 j1 k1 l1 m1 n1 o1 p1,Uw a b c d e f g h i j k l m n o p q r s t u v w x y z a1 b1 c1 d1 e1 f1 g1 h1 i1 j1 k1 l1 m1 n1 o1 p1);?n _ _ _ _ _ _ _ _ _ _ _ _ _ _ _ _ _ _ _ _ _ _ _ _ _ _ _ _ _ _ _ _ _ _ _ _ _ _ _ _ _ _))))))
 intro X T hh zq F N hos hb hqm h1 h2 h3 hDe hDl hDz hDp hDn hDs hNs hNl hNp hNq hpr hits hlv hlq hg hk hxl hdl h;obtain⟨g1,g2,g3,g4⟩:=Dd hg
 obtain⟨H₂,K₂,r₂,back⟩:=Nq (own:=WQ x dx hsh tkn wr da de ns pm pr rs rd ep dl itsd nd) (rest:=rest) F N hos hb h1 h2 (fun q hq z=>by
  obtain⟨a1,a2,a3⟩:=h3 q hq
  simp only [List.map_cons,List.map_nil,List.mem_cons,List.not_mem_nil,or_false] at z
  rcases z with z | z | z
  ·exact a1 z
  ·exact a2 z
  ·exact a3 z)
 generalize hideAll s.heap ((WQ x dx hsh tkn wr da de ns pm pr rs rd ep dl itsd nd).map (·.1))=g₂ at H₂ K₂ r₂ back
 have hcm:comes (dlv++[(dl,itsd)])=itsd.toList++comes dlv:=by simp [comes]
 have hneq:∀ {q:Addr × Obj} {own':List (Addr × Obj)} {s':Shared},Ok g₂ os own' s'→q∈own'→∀ r∈rest,q.1≠r.1:=fun H' hq r hr=>Ie H' r₂ hq hr
 refine call_meth N hqm ?_
 refine Mx (dlv:=dlv) (nlv:=nlv) (dps:=lv++lower) (nps:=nps) (uri:=(cutName n).1) (tag:=(cutName n).2) (X.keeps K₂) (T.keeps K₂) H₂ ?_ (fun q hq=>Ai K₂ (hDl q hq)) ?_ ?_ (by rw [List.length_append];exact(Nt fun hn1=>fk [_,_] (.e (.s V0) (.k 2900) (.e V1 (.k 50) (.e (.k 3000) (.a V1 V0) K0))) rfl hDn hlv hn1)) ?_ ⟨_,r₂ _ hNs,rfl,_,rfl⟩ (fun q hq=>⟨Ai K₂ (hNl q hq).1,(hNl q hq).2⟩) (hNp.mono fun _ _ z=>z.keeps K₂) (fun q hq=>⟨Nat.le_trans (hNq q hq).1 (by decide),Nat.le_trans (hNq q hq).2 (by decide)⟩) hxl hdl ?_ hh zq (Nat.le_trans g2 (by decide)) ⟨Nat.le_trans g3 (by decide),Nat.le_trans g4 (by decide)⟩ g1 ?_ ?_ (Je hk)
 ·have:=Ai K₂ hDe
  rw [List.map_append] at this ⊢;exact this
 ·intro q hq
  rcases List.mem_append.mp hq with hq | hq
  ·exact hDz q hq
  ·rw [List.mem_singleton.mp hq]
   have:itsd.size=lv.length:=by rw [← hits.length];simp
   show (itsd.size:Int)<2 ^ 63
   rw [this]
   have e:(2:Int) ^ 63=9223372036854775808:=by decide
   lia
 ·rw [hcm]
  exact(hits.mono fun _ _ z=>Fm (fun q hq=>r₂ q (hpr q hq)) z).append (hDp.mono fun _ _ z=>z.keeps K₂)
 ·intro q hq
  rcases List.mem_append.mp hq with hq | hq
  ·have:=hNq q (hlq q hq);exact⟨Nat.le_trans this.1 (by decide),Nat.le_trans this.2 (by decide)⟩
  ·have:=hDs q hq;exact⟨Nat.le_trans this.1 (by decide),Nat.le_trans this.2 (by decide)⟩
 ·have:itsd.size=lv.length:=by rw [← hits.length];simp
  rw [this,sizeLine_eq];exact(Nl fun hn1=>fk [_] (.e V0 (.k 50) (.e (.s (.k 16777216)) V0 K0)) rfl hlv hn1)
 ·intro s7 txt ta t1 t2 t3 hqn l1 l2 l3 H7
  obtain⟨F7,N7,o7,b7⟩:=back _ _ H7
  refine h s7 txt none ta t1 t2 t3 [] itsd nd hqn (by simpa using hits) ?_ (fun _ z=>nomatch z) F7 N7 o7 b7
  intro q hq;rw [List.mem_singleton.mp hq];exact⟨Nat.ne_of_gt l1,Nat.ne_of_gt l2,Nat.ne_of_gt l3,hneq H7 (.head _)⟩
 ·intro s7 txt pf ta tb t1 t2 t3 t4 t5 hqn l1 l2 l3 l4 l5 l6 l7 H7
  obtain⟨F7,N7,o7,b7⟩:=back _ _ H7;refine h s7 txt (some ((cutName n).1,pf)) ta t1 t2 t3 [(tb,Ae #[.str (cutName n).1 t4,.str pf t5])] (itsd.push (.ref tb)) (nd+1) hqn ?_ ?_ ?_ F7 N7 o7 b7
  ·rw [Array.toList_push]
   exact(hits.mono fun _ _ z=>z.mono fun _ hq=>.tail _ hq).append (.cons ⟨tb,t4,t5,rfl,.head _⟩ .nil)
  ·intro q hq
   simp only [List.mem_cons,List.not_mem_nil,or_false] at hq
   rcases hq with rfl | rfl
   ·exact⟨Nat.ne_of_gt l1,Nat.ne_of_gt l2,Nat.ne_of_gt l3,hneq H7 (.head _)⟩
   ·exact⟨Nat.ne_of_gt l4,Nat.ne_of_gt l5,Nat.ne_of_gt l6,hneq H7 (.tail _ (.head _))⟩
  ·intro q hq
   rw [List.mem_singleton.mp hq];exact l7
end
end
section

open PyProof.Rows.LCg
noncomputable abbrev Cx:Scope:={ kind:=.function,names:=[(".0",.local),("n",.local),("parse_qname",.free)],isGenerator:=false,isCoroutine:=false,more:=[] }
theorem Vr{prog:Program}{w:World}:(dictOf [] 0).IsDictOf (PySem.strKind prog w) []:=⟨#[],0,⟨rfl,rfl,rfl⟩,rfl,fun e he=>by simp at he,.nil,List.nodup_nil⟩
noncomputable def Lr(w:World)(A:Around)(E:Value→Shared→Prop)(env:Env)(iter:PySem.Expr)(cl:List (Str × Addr))(q1 q2 q3 q4 q5 q6 q7:Pos)(Q:Flow→Shared→Prop)(xv:Value)(s₁:Shared):Prop :=
 wpAny (model rw_dn0283_11.row.prog w) A (pyIter xv) (fun it s₂=>wpAny (model rw_dn0283_11.row.prog w) A newDict (fun acc s₃=>wpAny (model rw_dn0283_11.row.prog w) A (newFunctionEnv Cx env.globals cl [] env.qual none .none (some env)) (fun cenv s₄ =>
   codeAny (model rw_dn0283_11.row.prog w) A (.compStart (.DictComp (.Name "n" q1) (.Call (.Name "parse_qname" q2) [.Name "n" q3] [] q4) [⟨.Name "n" q5,iter,[],0⟩] Cx q6) 0 it acc { cenv with scope:=relabel Cx env })
    (compPost (model rw_dn0283_11.row.prog w) A E (some (assign (.Name "parsed_qnames" q7) env)) (fun _ s'=>Q .next s') acc cenv.locals) s₄) E s₃) E s₂) E s₁
section
variable{w:World}{A:Around}{E:Value→Shared→Prop}{s:Shared}{g:Heap}{os:OsState}{p:Program}{zw:List Str}{zr:ExcName→Option Value}{mg mb:Str→Option Value}{L:Addr}{m:Str→Option Value}
 {x dx:Addr} {hsh:Nat→Int} {tkn:Nat→Tok} {wr da de ns pm pr:Addr} {rs rd:Bool} {ep:Nat} {dl:Addr} {env:Env}
theorem Ud{iter:PySem.Expr}{cl:List (Str × Addr)}{q1 q2 q3 q4 q5 q6 q7 q8:Pos}{Q:Flow→Shared→Prop}
  (hsw:swapsWith (.DictComp (.Name "n" q1) (.Call (.Name "parse_qname" q2) [.Name "n" q3] [] q4) [⟨.Name "n" q5,iter,[],0⟩] Cx q6) (some (.Name "parsed_qnames" q7)) q8.line env=pure true)
  (hclos:closureFor Cx env=pure cl) (hfs:∀ x,foldedSetIterable iter env x=pure x)
  (h:wpAny (model rw_dn0283_11.row.prog w) A (eval iter env) (Lr w A E env iter cl q1 q2 q3 q4 q5 q6 q7 Q) E s) :
  wpAny (model rw_dn0283_11.row.prog w) A (exec (.Assign [.Name "parsed_qnames" q7] (.DictComp (.Name "n" q1) (.Call (.Name "parse_qname" q2) [.Name "n" q3] [] q4) [⟨.Name "n" q5,iter,[],0⟩] Cx q6) q8) env) Q E s:=by
 rw [exec_Assign_Name_used _ _ _ _ hsw];refine Wb (wpAny_standAt (Wb ?_))
 show wpAny _ A (do let _ ← comprehension (.DictComp (.Name "n" q1) (.Call (.Name "parse_qname" q2) [.Name "n" q3] [] q4) [⟨.Name "n" q5,iter,[],0⟩] Cx q6) Cx env _ newDict false (eval iter env) (some (assign (.Name "parsed_qnames" q7) env))) _ _ s
 exact Wb (wpAny_mono (wpAny_comprehension_free (use:=some (assign (.Name "parsed_qnames" q7) env)) (Q:=fun _ s'=>Q .next s') rfl hfs hclos rfl (by decide) h) (fun _ s' hq=>Wp (Wp hq)) fun _ _ e=>e)
noncomputable def Hq(w:World)(A:Around)(s:Shared)(E:Value→Shared→Prop)(g:Heap)(os:OsState)(p:Program)(zw:List Str)(zr:ExcName→Option Value)(mg mb:Str→Option Value)(L:Addr)(m:Str→Option Value)(x dx:Addr)(hsh:Nat→Int)(tkn:Nat→Tok)(wr da de ns pm pr:Addr)(rs rd:Bool)(ep:Nat)(dl:Addr)(env:Env)(qm ax c:Addr)(oc1:Obj)(nns c1 nd0:Nat)(dlv nlv:List (Addr × Array Value))(lower nps:List Pr)(O4 tmp:List (Addr × Obj))(outn:List (Str × Tok))(iter:PySem.Expr)(cl:List (Str × Addr))(q1 q2 q3 q4 q5 q6 q7:Pos)(Q:Flow→Shared→Prop):Prop :=
 ∀ (X:(hd11.heap_39 w.params).In g) (T:Top p zw zr mg mb g) (hh:A.handled=none) (zq:A.depth<900) (hL:env.locals=L) (hcl:cl.lookup (Str.ofString "parse_qname")=some c) (hkp:∀ C,(compEnvC Cx cl C env).kindOf (Str.ofString "parse_qname")=some .cell) (hkn:∀ C,(compEnvC Cx cl C env).kindOf (Str.ofString "n")=some .local) (hy:env.kindOf (Str.ofString "parsed_qnames")=some .local) (hp:(env.scope.kind == .class || (env.scope.kind == .module && env.locals != env.globals))=false) (hDe:g.IsList de ((dlv++[(dl,(#[]:Array Value))]).map fun p=>Value.ref p.1).toArray) (hDl:∀ p∈dlv,g.IsList p.1 p.2) (hDz:∀ p∈dlv,(p.2.size:Int)<2 ^ 63) (hDp:All2 (Cg g) (comes dlv) lower) (hDn:lower.length<2900) (hDs:∀ q∈lower,q.1.length≤200∧q.2.length≤200) (hNs:(ns,listOf (nlv.map fun p=>Value.ref p.1).toArray nns)∈O4) (hNl:∀ p∈nlv,g.IsList p.1 p.2∧(p.2.size:Int)<2 ^ 63) (hNp:All2 (Cg g) (comes nlv) nps) (hNq:∀ q∈nps,q.1.length≤200∧q.2.length≤200) (hxl:x≠dl) (hdl:dx≠dl) (hrest:∀ q∈O4++tmp,q.1≠x∧q.1≠dx∧q.1≠dl) (hax:(ax,listOf (strValues outn).toArray c1)∈tmp) (hcc:(c,oc1)∈tmp) (hcd:oc1.data=.cell (some (.ref qm))) (hqm:(qm,methodObj (.ref 83) (.ref x))∈tmp) (hol:outn.length≤40) (hnodup:(outn.map (·.1)).Nodup) (hng:∀ n∈outn.map (·.1),Di n=true∧known nps (cutName n).1) (F₁:Fr g L s.heap m) (N₁:News g L s.heap (WQ x dx hsh tkn wr da de ns pm pr rs rd ep dl #[] nd0++(O4++tmp))) (os₁:s.os=os) (b₁:AllBare s.gens) (fin:∀ (s1:Shared) D oD itsd nd kvs tups prs,All2 (Ap prs) itsd.toList (declare lower nps (outn.map (·.1)) [] []).1→oD.IsDictOf (PySem.strKind rw_dn0283_11.row.prog w) kvs→All2 (Dx tups) kvs (declare lower nps (outn.map (·.1)) [] []).2 →
   (∀ q∈(D,oD)::(tups++prs),q.1≠x∧q.1≠dx∧q.1≠dl∧∀ r∈O4++tmp,q.1≠r.1) →
   Fr g L s1.heap (fun y=>if y="parsed_qnames" then some (.ref D) else m y)→News g L s1.heap (WQ x dx hsh tkn wr da de ns pm pr rs rd ep dl itsd nd++(O4++((D,oD)::(tups++(prs++tmp)))))→s1.os=os→AllBare s1.gens→Q .next s1),Lr w A E env iter cl q1 q2 q3 q4 q5 q6 q7 Q (.ref ax) s
theorem Sb:∀ {w A s E g os p zw zr mg mb L m x dx hsh tkn wr da de ns pm pr rs rd ep dl env qm ax c oc1 nns c1 nd0 dlv nlv lower nps O4 tmp outn iter cl q1 q2 q3 q4 q5 q6 q7 Q},Hq w A s E g os p zw zr mg mb L m x dx hsh tkn wr da de ns pm pr rs rd ep dl env qm ax c oc1 nns c1 nd0 dlv nlv lower nps O4 tmp outn iter cl q1 q2 q3 q4 q5 q6 q7 Q:=by
 refine @(Ab (Ao neW)<|@(Ab neI<|@(Ab neI<|@(Ab neI<|@(Ab neI<|@(Ab neI<|@(Ed neI<|let_mvar% ?n:=(fun w A s E g os p zw zr mg mb L m x dx hsh tkn wr da de ns pm pr rs rd ep dl env qm ax c oc1 nns c1 nd0 dlv nlv lower nps O4 tmp outn iter cl q1 q2 q3 q4 q5 q6 q7 Q=>?_:∀ a b c d e f g h i j k l m n o p q r s t u v w x y z a1 b1 c1 d1 e1 f1 g1 h1 i1 j1 k1 l1 m1 n1 o1 p1 q1 r1 s1 t1 u1 v1 w1 x1 y1 z1,Hq a b c d e f g h i j k l m n o p q r s t u v w x y z a1 b1 c1 d1 e1 f1 g1 h1 i1 j1 k1 l1 m1 n1 o1 p1 q1 r1 s1 t1 u1 v1 w1 x1 y1 z1);?n _ _ _ _ _ _ _ _ _ _ _ _ _ _ _ _ _ _ _ _ _ _ _ _ _ _ _ _ _ _ _ _ _ _ _ _ _ _ _ _ _ _ _ _ _ _ _ _ _ _ _ _)))))))
 intro X T hh zq hL hcl hkp hkn hy hp hDe hDl hDz hDp hDn hDs hNs hNl hNp hNq hxl hdl hrest hax hcc hcd hqm hol hnodup hng F₁ N₁ os₁ b₁ fin;unfold Lr
 have hknown:∀ n∈outn.map (·.1),known nps (cutName n).1:=fun n hn=>(hng n hn).2
 refine Lu (o0:=dictOf [] 0) (target:=.Name "n" q5) (ipos:=iter.pos)
  (emit:=fun D C=>do
   let kv ← eval (.Name "n" q1) (compEnvC Cx cl C env)
   let vv ← holding [kv] (eval (.Call (.Name "parse_qname" q2) [.Name "n" q3] [] q4) (compEnvC Cx cl C env))
   standAt { q1 with endLine:=q4.endLine,endCol:=q4.endCol }
   holding [kv,vv] (dictSet D kv vv))
  (its:=(strValues outn).toArray) (ax:=ax) (h₀:=g) (L:=L) (m:=m) (news:=WQ x dx hsh tkn wr da de ns pm pr rs rd ep dl #[] nd0++(O4++tmp)) (os:=os)
  (fun D rem own=>∃ l1 l2 itsd nd oD kvs tups prs,outn=l1++l2∧rem=strValues l2∧own=(D,oD)::(WQ x dx hsh tkn wr da de ns pm pr rs rd ep dl itsd nd++(tups++(prs++(O4++tmp)))) ∧
   All2 (Ap prs) itsd.toList (declare lower nps (l1.map (·.1)) [] []).1∧oD.IsDictOf (PySem.strKind rw_dn0283_11.row.prog w) kvs∧All2 (Dx tups) kvs (declare lower nps (l1.map (·.1)) [] []).2 ∧
   (∀ q∈(D,oD)::(tups++prs),q.1≠x∧q.1≠dx∧q.1≠dl∧∀ r∈O4++tmp,q.1≠r.1)∧(∀ q∈tups++prs,q.1≠D))
  (fun _ v m₂=>m₂ "n"=some v)
  (fun s Q h=>wpAny_newObj_type h) rfl (fun I D C R s h1 h2=>codeAny_compStart_dict h1 h2) (fun _ _ _=>rfl) (fun _ _ _ _ _ _ z=>z) (fun _ _ _=>rfl) ?_ ?_ (by decide) rfl hh F₁ N₁ os₁ b₁ ?_ ?_ ?_ ?_ ?_ ?_
 ·intro I i v s1 Q' E' hit hv hq
  exact Wp hq
 ·intro s1 v rem own D C mC Q' E' hJ hk ho hns h
  refine wpAny_assign_Name (wpAny_storeName_local (hkn C) hns (fun h₃ hn₃ hs₃=>?_) (by simp [compEnvC,relabel]))
  exact h h₃ _ _ hn₃ (by rfl) fun b o hb e=>hs₃.extBut b o hb e
 ·exact .inr ⟨_,Mr _ (Mr _ hax),rfl,_,rfl⟩
 ·simp [strValues];rw [sizeLine_eq];exact(Nl fun hn1=>fk [_] (.e V0 (.k 40) (.e (.s (.k 16777216)) V0 K0)) rfl hol hn1)
 ·intro D hD
  refine⟨[],outn,#[],nd0,dictOf [] 0,[],[],[],rfl,rfl,rfl,.nil,Vr,.nil,fun q hq=>?_,fun q hq=>nomatch hq⟩
  rw [List.mem_singleton.mp hq]
  refine⟨Nat.ne_of_gt (hD (x,_) (Ml _ (.head _))),Nat.ne_of_gt (hD (dx,_) (Ml _ (.tail _ (.head _)))),Nat.ne_of_gt (hD (dl,_) (Ml _ (.tail _ (.tail _ (.head _))))),fun r hr=>Nat.ne_of_gt (hD r (Mr _ hr))⟩
 ·rintro D rem own ⟨l1,l2,itsd,nd,oD,kvs,tups,prs,_,_,rfl,_⟩
  exact .inr ⟨_,.tail _ (Mr _ (Mr _ (Mr _ (Mr _ hax)))),rfl,_,rfl⟩
 ·rintro s1 D v rem own I oI C oC m₂ E' ⟨l1,l2,itsd,nd,oD,kvs,tups,prs,ho,hr,rfl,hp1,hd1,hk1,hn1,hn2⟩ hC hB F2 N2 off hIC ho2 hb2
  obtain⟨n,tn,l2',rfl,rfl,rfl⟩:∃ n tn l2',l2=(n,tn)::l2'∧v=.str n tn∧rem=strValues l2':=by
   cases l2 with
   | nil=>cases hr
   | cons q l2'=>obtain⟨n,tn⟩:=q;injection hr with e1 e2;exact⟨n,tn,l2',rfl,e1,e2⟩
  have hnm:n∈outn.map (·.1):=by rw [ho];simp
  have hl1k:∀ n∈l1.map (·.1),known nps (cutName n).1:=fun n hn=>hknown n (by rw [ho,List.map_append];exact Ml _ hn)
  obtain⟨i1,i2,i3⟩:=Cd lower nps (l1.map (·.1)) [] [] hl1k
  have hl1len:l1.length≤40:=by have:=congrArg List.length ho;simp at this;exact(Nl fun hn1=>fk [_,_,_] (.e V0 (.k 40) (.e (.a V1 (.s V2)) V0 (.e (.s (.k 40)) V1 K0))) rfl hol (Es this) hn1)
  refine Wb (LCgL.ld_own N2 (.tail _ (.head _)) hC hB ?_ rfl (hkn C));refine Wb (wpAny_holding (Call_ ?_));have hccN:(c,oc1)∈(I,oI)::(C,oC)::(D,oD)::(WQ x dx hsh tkn wr da de ns pm pr rs rd ep dl itsd nd++(tups++(prs++(O4++tmp)))):=.tail _ (.tail _ (.tail _ (Mr _ (Mr _ (Mr _ (Mr _ hcc))))));have hqmN:(qm,methodObj (.ref 83) (.ref x))∈(I,oI)::(C,oC)::(D,oD)::(WQ x dx hsh tkn wr da de ns pm pr rs rd ep dl itsd nd++(tups++(prs++(O4++tmp)))):=.tail _ (.tail _ (.tail _ (Mr _ (Mr _ (Mr _ (Mr _ hqm))))));refine lcf_cell N2 hcl hccN hcd ?_ rfl (hkp C);refine callWith_M X N2 hqmN rfl ?_;refine args_cons (LCgL.ld_own N2 (.tail _ (.head _)) hC hB (args_nil ?_) rfl (hkn C));refine⟨methP N2 hqmN (X.keeps F2.keep),?_⟩
  have hoff:∀ q∈(D,oD)::(tups++(prs++(O4++tmp))),q∈(D,oD)::(WQ x dx hsh tkn wr da de ns pm pr rs rd ep dl itsd nd++(tups++(prs++(O4++tmp)))):=fun q hq=>by
   rcases List.mem_cons.mp hq with rfl | hq
   ·exact .head _
   ·exact .tail _ (Mr _ hq)
  have offW:=fun q hq=>off q (.tail _ (Ml _ hq))
  refine qcall (rest:=(I,oI)::(C,oC)::(D,oD)::(tups++(prs++(O4++tmp)))) (prs:=prs) (itsd:=itsd) (nd:=nd) (lv:=(declare lower nps (l1.map (·.1)) [] []).1) (dlv:=dlv) (nlv:=nlv) (lower:=lower) (nps:=nps) X T hh zq F2 N2 ho2 hb2 hqmN (fun q hq=>.tail _ (.tail _ (.tail _ (Ml _ hq)))) (fun q hq=>?_) (fun q hq=>?_) hDe hDl hDz hDp hDn hDs (.tail _ (.tail _ (.tail _ (Mr _ (Mr _ (Ml _ hNs)))))) hNl hNp hNq (fun q hq=>.tail _ (.tail _ (.tail _ (Mr _ (Ml _ hq))))) hp1 (by simp at i3;exact(Nl fun hn1=>fk [_,_] (.e V0 (.k 40) (.e V1 V0 (.e (.s (.k 50)) V1 K0))) rfl hl1len i3 hn1)) (fun q hq=>by rcases i2 q hq with z | z;exact nomatch z;exact z) (hng n hnm).1 (hng n hnm).2 hxl hdl ?_
  ·rcases List.mem_cons.mp hq with rfl | hq
   ·exact .head _
   ·rcases List.mem_cons.mp hq with rfl | hq
    ·exact .tail _ (.head _)
    ·exact .tail _ (.tail _ (hoff q hq))
  ·rcases List.mem_cons.mp hq with rfl | hq
   ·exact⟨Ne.symm (offW (x,_) (.head _)).1,Ne.symm (offW (dx,_) (.tail _ (.head _))).1,Ne.symm (offW (dl,_) (.tail _ (.tail _ (.head _)))).1⟩
   ·rcases List.mem_cons.mp hq with rfl | hq
    ·exact⟨Ne.symm (offW (x,_) (.head _)).2,Ne.symm (offW (dx,_) (.tail _ (.head _))).2,Ne.symm (offW (dl,_) (.tail _ (.tail _ (.head _)))).2⟩
    ·have all:q∈(D,oD)::(tups++prs)∨q∈O4++tmp:=by
      rcases List.mem_cons.mp hq with rfl | hq
      ·exact .inl (.head _)
      ·rcases List.mem_append.mp hq with hq | hq
       ·exact .inl (.tail _ (Ml _ hq))
       ·rcases List.mem_append.mp hq with hq | hq
        ·exact .inl (.tail _ (Mr _ hq))
        ·exact .inr hq
     rcases all with z | z
     ·exact⟨(hn1 q z).1,(hn1 q z).2.1,(hn1 q z).2.2.1⟩
     ·exact hrest q z
  intro s3 txt o ta t1 t2 t3 new its' nd' hqn hits' hfr htn F3 N3 os3 b3;refine Wb (wpAny_standAt (wpAny_holding ?_))
  have zD:=N3 (D,oD) (by simp)
  have hdict:s3.heap.DictOf (PySem.strKind rw_dn0283_11.row.prog w) D kvs:=Heap.dictOf_iff.mpr ⟨oD,zD.1,hd1⟩
  have hkeys:kvs.map (·.1)=l1.map (·.1):=by
   have:kvs.map (·.1)=(declare lower nps (l1.map (·.1)) [] []).2.map (·.1):=by
    clear hdict hd1
    generalize (declare lower nps (l1.map (·.1)) [] []).2=pp at hk1
    induction hk1 with
    | nil=>rfl
    | cons z _ ih=>simp [z.1,ih]
   rw [this,i1];rfl
  have habs:valueAt kvs n=none:=by
   unfold valueAt;rw [Option.map_eq_none_iff,List.find?_eq_none];intro kv hkv hz
   have h1:kv.1∈l1.map (·.1):=by rw [← hkeys];exact List.mem_map_of_mem hkv
   have h2:kv.1=n:=by simpa using hz
   rw [ho,List.map_append,List.nodup_append] at hnodup
   exact hnodup.2.2 _ h1 n (by k_mem) h2
  refine wpAny_dictSet_pairs (knd:=PySem.strKind rw_dn0283_11.row.prog w) (k:=n) (by simp [PySem.strKind,Value.isStrOf]) hdict (fun h4 hd4 hs4=>?_) (by rw [← List.length_map (f:=(·.1)),hkeys,List.length_map,sizeLine_eq];exact(Nl fun hn1=>fk [_] (.e V0 (.k 40) (.e (.s (.k 16777216)) V0 K0)) rfl hl1len hn1))
  rw [stored_absent habs] at hd4;obtain⟨oD',hoD',hdD'⟩:=Heap.dictOf_iff.mp hd4
  have hds:declare lower nps ((l1++[(n,tn)]).map (·.1)) [] []=((declare lower nps (l1.map (·.1)) [] []).1++o.toList,(declare lower nps (l1.map (·.1)) [] []).2++[(n,txt,(cutName n).2,(cutName n).1)]):=by
   rw [List.map_append,Kg _ _ _ _ _ _ hl1k];exact Qz hqn
  have hDne:∀ q∈WQ x dx hsh tkn wr da de ns pm pr rs rd ep dl its' nd',q.1≠D:=fun q hq=>by
   have hD:=hn1 (D,oD) (.head _)
   simp only [List.mem_cons,List.not_mem_nil,or_false] at hq
   rcases hq with rfl | rfl | rfl
   ·exact Ne.symm hD.1
   ·exact Ne.symm hD.2.1
   ·exact Ne.symm hD.2.2.1
  have hDrest:∀ q∈tups++(prs++(O4++tmp)),q.1≠D:=fun q hq=>by
   rcases List.mem_append.mp hq with hq | hq
   ·exact hn2 q (Ml _ hq)
   ·rcases List.mem_append.mp hq with hq | hq
    ·exact hn2 q (Mr _ hq)
    ·exact Ne.symm ((hn1 (D,oD) (.head _)).2.2.2 q hq)
  refine⟨(D,oD')::(WQ x dx hsh tkn wr da de ns pm pr rs rd ep dl its' nd'++(((ta,Ae #[.str txt t1,.str (cutName n).2 t2,.str (cutName n).1 t3])::tups)++((new++prs)++(O4++tmp)))),⟨l1++[(n,tn)],l2',its',nd',oD',kvs++[(n,.ref ta)],(ta,Ae #[.str txt t1,.str (cutName n).2 t2,.str (cutName n).1 t3])::tups,new++prs,by rw [ho,List.append_assoc];rfl,rfl,rfl,?_,hdD',?_,?_,?_⟩,?_,?_,?_,os3,b3⟩
  ·rw [hds];exact hits'
  ·rw [hds]
   exact(hk1.mono fun _ _ z=>z.mono fun _ hq=>.tail _ hq).snoc ⟨rfl,ta,t1,t2,t3,rfl,.head _⟩
  ·intro q hq
   rcases List.mem_cons.mp hq with rfl | hq
   ·exact hn1 (D,oD) (.head _)
   ·have hcase:q∈(ta,Ae #[.str txt t1,.str (cutName n).2 t2,.str (cutName n).1 t3])::new∨q∈tups++prs:=by
     rcases List.mem_append.mp hq with hq | hq
     ·rcases List.mem_cons.mp hq with rfl | hq
      ·exact .inl (.head _)
      ·exact .inr (Ml _ hq)
     ·rcases List.mem_append.mp hq with hq | hq
      ·exact .inl (.tail _ hq)
      ·exact .inr (Mr _ hq)
    rcases hcase with z | z
    ·obtain⟨a1,a2,a3,a4⟩:=hfr q z
     exact⟨a1,a2,a3,fun r hr=>a4 r (.tail _ (.tail _ (.tail _ (Mr _ (Mr _ hr)))))⟩
    ·exact hn1 q (.tail _ z)
  ·intro q hq
   have hcase:q∈(ta,Ae #[.str txt t1,.str (cutName n).2 t2,.str (cutName n).1 t3])::new∨q∈tups++prs:=by
    rcases List.mem_append.mp hq with hq | hq
    ·rcases List.mem_cons.mp hq with rfl | hq
     ·exact .inl (.head _)
     ·exact .inr (Ml _ hq)
    ·rcases List.mem_append.mp hq with hq | hq
     ·exact .inl (.tail _ hq)
     ·exact .inr (Mr _ hq)
   rcases hcase with z | z
   ·exact(hfr q z).2.2.2 (D,oD) (.tail _ (.tail _ (.head _)))
   ·exact hn2 q z
  ·exact F3.change hs4 zD.2.1 zD.2.2
  ·intro q hq
   by_cases hqD:q.1=D
   ·have:q=(D,oD'):=by
     simp only [List.mem_cons,List.mem_append] at hq
     rcases hq with rfl | rfl | rfl | hq
     ·exact absurd hqD (Ne.symm (off (D,oD) (.head _)).1)
     ·exact absurd hqD (Ne.symm (off (D,oD) (.head _)).2)
     ·rfl
     ·exfalso
      rcases hq with hq | (hq | hq) | (hq | hq) | hq
      ·exact hDne q (by simpa using hq) hqD
      ·exact(hfr q (by rw [hq];exact .head _)).2.2.2 (D,oD) (.tail _ (.tail _ (.head _))) hqD
      ·exact hDrest q (Ml _ hq) hqD
      ·exact(hfr q (.tail _ hq)).2.2.2 (D,oD) (.tail _ (.tail _ (.head _))) hqD
      ·exact hDrest q (Mr _ (Ml _ hq)) hqD
      ·exact hDrest q (Mr _ (Mr _ (List.mem_append.mpr hq))) hqD
    rw [this];exact⟨hoD',zD.2⟩
   ·have z:=N3 q (by
     simp only [List.mem_cons,List.mem_append] at hq ⊢
     rcases hq with h | h | h | h | (h | h) | (h | h) | h
     ·exact .inr (.inr (.inr (.inl h)))
     ·exact .inr (.inr (.inr (.inr (.inl h))))
     ·rw [h] at hqD;exact absurd rfl hqD
     ·exact .inr (.inr (.inl h))
     ·exact .inl h
     ·exact .inr (.inr (.inr (.inr (.inr (.inr (.inl h))))))
     ·exact .inr (.inl h)
     ·exact .inr (.inr (.inr (.inr (.inr (.inr (.inr (.inl h)))))))
     ·exact .inr (.inr (.inr (.inr (.inr (.inr (.inr (.inr h))))))))
    exact⟨hs4.extBut _ _ hqD z.1,z.2⟩
  ·intro q hq
   have hI:∀ r,r=(I,oI)∨r=(C,oC)→r∈(I,oI)::(C,oC)::(D,oD)::(tups++(prs++(O4++tmp))):=fun r hr=>by
    rcases hr with rfl | rfl
    ·exact .head _
    ·exact .tail _ (.head _)
   simp only [List.mem_cons,List.mem_append] at hq
   rcases hq with rfl | hq | (hq | hq) | (hq | hq) | hq
   ·exact off (D,oD) (.head _)
   ·have hq':q∈WQ x dx hsh tkn wr da de ns pm pr rs rd ep dl its' nd':=by simpa using hq
    simp only [List.mem_cons,List.not_mem_nil,or_false] at hq'
    rcases hq' with rfl | rfl | rfl
    ·exact offW (x,_) (.head _)
    ·exact offW (dx,_) (.tail _ (.head _))
    ·exact offW (dl,listOf itsd nd) (.tail _ (.tail _ (.head _)))
   ·have z:=(hfr q (by rw [hq];exact .head _)).2.2.2
    exact⟨z _ (hI _ (.inl rfl)),z _ (hI _ (.inr rfl))⟩
   ·exact off q (.tail _ (Mr _ (Ml _ hq)))
   ·have z:=(hfr q (.tail _ hq)).2.2.2
    exact⟨z _ (hI _ (.inl rfl)),z _ (hI _ (.inr rfl))⟩
   ·exact off q (.tail _ (Mr _ (Mr _ (Ml _ hq))))
   ·exact off q (.tail _ (Mr _ (Mr _ (Mr _ (List.mem_append.mpr hq)))))
 ·rintro s1 D C own mC ⟨l1,l2,itsd,nd,oD,kvs,tups,prs,ho,hr,rfl,hp1,hd1,hk1,hn1,hn2⟩ F2 N2 hns hC0 hCL hoC ho2 hb2
  have hl2:l2=[]:=by cases l2 with
   | nil=>rfl
   | cons q r=>obtain⟨a,b⟩:=q;cases hr
  subst hl2;rw [List.append_nil] at ho;subst ho
  show wpAny _ A (assign (.Name "parsed_qnames" q7) env (.ref D)) _ _ _
  subst hL
  refine wpAny_assign_Name (wpAny_storeName_local hy F2.ns (fun h₂ hn₂ hs₂=>?_) hp)
  have hL₀:g.get? env.locals=none:=Heap.get?_none_of_le F2.above
  have F₂:Fr g env.locals h₂ (fun z=>if z="parsed_qnames" then some (.ref D) else m z):=⟨hn₂,fun b o e=>hs₂.extBut b o (fun q=>by rw [q,hL₀] at e;cases e) (F2.keep b o e),F2.above⟩
  refine⟨mC,hns.sameBut hs₂ hCL,fun h'' hs''=>?_⟩
  refine fin _ D oD itsd nd kvs tups prs hp1 hd1 hk1 hn1 (F₂.change hs'' hCL hC0) (fun q hq=>?_) ho2 hb2
  have hq':q∈(D,oD)::(WQ x dx hsh tkn wr da de ns pm pr rs rd ep dl itsd nd++(tups++(prs++(O4++tmp)))):=by
   simp only [List.mem_cons,List.mem_append] at hq ⊢
   rcases hq with h | h | h | h | h | h
   ·exact .inr (.inl h)
   ·exact .inr (.inr (.inr (.inr (.inl h))))
   ·exact .inl h
   ·exact .inr (.inr (.inl h))
   ·exact .inr (.inr (.inr (.inl h)))
   ·exact .inr (.inr (.inr (.inr (.inr h))))
  have z:=N2 q hq';exact⟨hs''.extBut _ _ (hoC q hq') (hs₂.extBut _ _ z.2.1 z.1),z.2⟩
end
end
theorem rs2:True∧True:=by
 (try walk1);(try w_top off)
 all_goals (first | trivial | exact ⟨trivial,trivial⟩)
section

noncomputable def Kk(w:World)(A:Around)(s:Shared)(g:Heap)(os:OsState)(own:List (Addr × Obj))(p:Program)(zw:List Str)(zr:ExcName→Option Value)(mg mb:Str→Option Value)(R:Result→Shared→Prop)(x:Str)(tx:Tok):Prop :=
 ∀ (X:(hd11.heap_39 w.params).In g) (T:Top p zw zr mg mb g) (H:Ok g os own s) (zq:A.depth<900) (hx:x.length≤2000) (hN:∀ s' t',Ok g os own s'→R (.ok (.ret (.str (Fv x) t'))) s'),codeAny (model rw_dn0283_11.row.prog w) A (.call (.ref 154) ⟨[.str x tx],[]⟩) R s
theorem Hc:∀ {a b c d e f g h i j k l m n},Kk a b c d e f g h i j k l m n:=by
 refine @(Ab (Ao neW)<|@(Dq neI<|let_mvar% ?n:=(fun w A s g os own p zw zr mg mb R x tx=>?_:∀ a b c d e f g h i j k l m n,Kk a b c d e f g h i j k l m n);?n _ _ _ _ _ _ _ _ _ _ _ _ _ _))
 intro X T H zq hx hN;revert X
 k_fill
 intro X
 refine' Ha H X T ?k6 ?k7 (Nat.lt_trans zq (by decide)) ?k9 ?kB ?_ ?c1 ?c2 ?c3 ?c4
 (case k6=>k_is)
 (case k7=>k_is)
 (case k9=>exact BindsTo.of_eq rfl)
 (case kB=>exact locs rfl)
 (case c1=>exact rfl)
 (case c2=>exact rfl)
 (case c3=>exact rfl)
 (case c4=>decide)
 k_whole;intro L' h1 F0 N1 l1;(try dsimp only)
 have F1:Fr g L' h1 (fun y=>if y="text" then some (.str x tx) else none):=by
  have e:=Ow "text" (.str x tx) []
  have F0':Fr g L' h1 (fun y=>List.lookup y [("text",.str x tx)]):=F0
  rw [e] at F0';exact F0'
 clear F0
 have z1:(Cp "&" "&amp;" x).length≤12005:=Nat.le_trans (Fd (k:=5) hx (by decide)) (by decide)
 have z2:(Cp "<" "&lt;" (Cp "&" "&amp;" x)).length≤60029:=Nat.le_trans (Fd (k:=4) z1 (by decide)) (by decide)
 have z3:(Cp ">" "&gt;" (Cp "<" "&lt;" (Cp "&" "&amp;" x))).length≤300149:=Nat.le_trans (Fd (k:=4) z2 (by decide)) (by decide)
 refine wpAny_execs_cons (wpAny_Try_except ?_)
 refine wpAny_execs_cons (Cs F1 N1 (Nat.succ_pos _) (Nat.le_trans hx (by decide)) (by decide) (by decide +kernel) fun h2 t2 k2 F2 N2=>?_)
 refine wpAny_execs_cons (Cs F2 N2 (Nat.succ_pos _) (Nat.le_trans z1 (by decide)) (by decide) (by decide +kernel) fun h3 t3 k3 F3 N3=>?_)
 refine wpAny_execs_cons (Cs F3 N3 (Nat.succ_pos _) (Nat.le_trans z2 (by decide)) (by decide) (by decide +kernel) fun h4 t4 k4 F4 N4=>?_)
 refine wpAny_execs_cons (Cs F4 N4 (Nat.succ_pos _) (Nat.le_trans z3 (by decide)) (by decide) (by decide +kernel) fun h5 t5 k5 F5 N5=>?_)
 refine wpAny_execs_cons (wpAny_Return_some (ld F5 rfl ?_));dsimp only
 exact leaveM_ F5 N5 H.os H.bare fun H'=>hN _ _ H'
noncomputable def Kj(w:World)(A:Around)(s:Shared)(g:Heap)(os:OsState)(own:List (Addr × Obj))(p:Program)(zw:List Str)(zr:ExcName→Option Value)(mg mb:Str→Option Value)(R:Result→Shared→Prop)(x:Str)(tx:Tok):Prop :=
 ∀ (X:(hd11.heap_39 w.params).In g) (T:Top p zw zr mg mb g) (H:Ok g os own s) (zq:A.depth<900) (hx:x.length≤100) (hN:∀ s' t',Ok g os own s'→R (.ok (.ret (.str (Ey x) t'))) s'),codeAny (model rw_dn0283_11.row.prog w) A (.call (.ref 161) ⟨[.str x tx],[]⟩) R s
theorem Vn:∀ {a b c d e f g h i j k l m n},Kj a b c d e f g h i j k l m n:=by
 refine @(Ab (Ao neW)<|@(Dq neI<|let_mvar% ?n:=(fun w A s g os own p zw zr mg mb R x tx=>?_:∀ a b c d e f g h i j k l m n,Kj a b c d e f g h i j k l m n);?n _ _ _ _ _ _ _ _ _ _ _ _ _ _))
 intro X T H zq hx hN;revert X
 k_fill
 intro X
 refine' Ha H X T ?k6 ?k7 (Nat.lt_trans zq (by decide)) ?k9 ?kB ?_ ?c1 ?c2 ?c3 ?c4
 (case k6=>k_is)
 (case k7=>k_is)
 (case k9=>exact BindsTo.of_eq rfl)
 (case kB=>exact locs rfl)
 (case c1=>exact rfl)
 (case c2=>exact rfl)
 (case c3=>exact rfl)
 (case c4=>decide)
 k_whole;intro L' h1 F0 N1 l1;(try dsimp only)
 have F1:Fr g L' h1 (fun y=>if y="text" then some (.str x tx) else none):=by
  have e:=Ow "text" (.str x tx) []
  have F0':Fr g L' h1 (fun y=>List.lookup y [("text",.str x tx)]):=F0
  rw [e] at F0';exact F0'
 clear F0
 have z1:(Cp "&" "&amp;" x).length≤605:=Nat.le_trans (Fd (k:=5) hx (by decide)) (by decide)
 have z2:(Cp "<" "&lt;" (Cp "&" "&amp;" x)).length≤3029:=Nat.le_trans (Fd (k:=4) z1 (by decide)) (by decide)
 have z3:(Cp "\"" "&quot;" (Cp "<" "&lt;" (Cp "&" "&amp;" x))).length≤21209:=Nat.le_trans (Fd (k:=6) z2 (by decide)) (by decide)
 have z4:(Cp "\t" "&#x9;" (Cp "\"" "&quot;" (Cp "<" "&lt;" (Cp "&" "&amp;" x)))).length≤127259:=Nat.le_trans (Fd (k:=5) z3 (by decide)) (by decide)
 have z5:(Cp "\n" "&#xA;" (Cp "\t" "&#x9;" (Cp "\"" "&quot;" (Cp "<" "&lt;" (Cp "&" "&amp;" x))))).length≤763559:=Nat.le_trans (Fd (k:=5) z4 (by decide)) (by decide)
 refine wpAny_execs_cons (wpAny_Try_except ?_)
 refine wpAny_execs_cons (Cs F1 N1 (Nat.succ_pos _) (Nat.le_trans hx (by decide)) (by decide) (by decide +kernel) fun h2 t2 k2 F2 N2=>?_)
 refine wpAny_execs_cons (Cs F2 N2 (Nat.succ_pos _) (Nat.le_trans z1 (by decide)) (by decide) (by decide +kernel) fun h3 t3 k3 F3 N3=>?_)
 refine wpAny_execs_cons (Cs F3 N3 (Nat.succ_pos _) (Nat.le_trans z2 (by decide)) (by decide) (by decide +kernel) fun h4 t4 k4 F4 N4=>?_)
 refine wpAny_execs_cons (Cs F4 N4 (Nat.succ_pos _) (Nat.le_trans z3 (by decide)) (by decide) (by decide +kernel) fun h5 t5 k5 F5 N5=>?_)
 refine wpAny_execs_cons (Cs F5 N5 (Nat.succ_pos _) (Nat.le_trans z4 (by decide)) (by decide) (by decide +kernel) fun h6 t6 k6 F6 N6=>?_)
 refine wpAny_execs_cons (Cs F6 N6 (Nat.succ_pos _) (Nat.le_trans z5 (by decide)) (by decide) (by decide +kernel) fun h7 t7 k7 F7 N7=>?_)
 refine wpAny_execs_cons (wpAny_Return_some (ld F7 rfl ?_));dsimp only
 exact leaveM_ F7 N7 H.os H.bare fun H'=>hN _ _ H'
end
theorem rs3:True∧True:=by
 (try walk1);(try w_top off)
 all_goals (first | trivial | exact ⟨trivial,trivial⟩)
section

open PyProof.Rows.LCg
noncomputable abbrev Hf:Scope:={ kind:=.function,names:=[(".0",.local),("uri",.local),("prefix",.local)],isGenerator:=false,isCoroutine:=false,more:=[] }
noncomputable abbrev Uu(p1 p2 p3 p4 p5 p6 p7 p8:Pos):PySem.Expr:=.Tuple [.IfExp (.Name "prefix" p1) (.BinOp (.Constant (.str "xmlns:") 0 p2) .Add (.Name "prefix" p3) p4) (.Constant (.str "xmlns") 0 p5) p6,.Name "uri" p7] 0 p8
noncomputable def Rx(w:World)(A:Around)(s:Shared)(E:Value→Shared→Prop)(g:Heap)(p:Program)(zw:List Str)(zr:ExcName→Option Value)(mg mb:Str→Option Value)(L C:Addr)(m m₂:Str→Option Value)(news:List (Addr × Obj))(env:Env)(cl:List (Str × Addr))(oC:Obj)(q:Pr)(t1 t2:Tok)(p1 p2 p3 p4 p5 p6 p7 p8:Pos)(Q:Value→Shared→Prop):Prop :=
 ∀ (X:(hd11.heap_39 w.params).In g) (T:Top p zw zr mg mb g) (F1:Fr g L s.heap m) (N1:News g L s.heap ((C,oC)::news)) (hC:NsObj oC m₂) (hu:m₂ "uri"=some (.str q.1 t1)) (hpf:m₂ "prefix"=some (.str q.2 t2)) (hz:q.2.length≤1000) (h:∀ (T':Addr) t3 h' tk,Fr g L h' m→News g L h' ((T',Ae #[.str (Cm q).1 t3,.str (Cm q).2 t1])::(C,oC)::news)→(∀ r∈(C,oC)::news,r.1<T')→Q (.ref T') { s with heap:=h',toks:=tk }),wpAny (model rw_dn0283_11.row.prog w) A (eval (Uu p1 p2 p3 p4 p5 p6 p7 p8) (compEnvC Hf cl C env)) Q E s
theorem ns_elt:∀ {w A s E g p zw zr mg mb L C m m₂ news env cl oC q t1 t2 p1 p2 p3 p4 p5 p6 p7 p8 Q},Rx w A s E g p zw zr mg mb L C m m₂ news env cl oC q t1 t2 p1 p2 p3 p4 p5 p6 p7 p8 Q:=by
 refine @(Ab (Ao neW)<|@(Ab neI<|@(Ab neI<|@(Dq neI<|let_mvar% ?n:=(fun w A s E g p zw zr mg mb L C m m₂ news env cl oC q t1 t2 p1 p2 p3 p4 p5 p6 p7 p8 Q=>?_:∀ a b c d e f g h i j k l m n o p q r s t u v w x y z a1 b1 c1 d1,Rx a b c d e f g h i j k l m n o p q r s t u v w x y z a1 b1 c1 d1);?n _ _ _ _ _ _ _ _ _ _ _ _ _ _ _ _ _ _ _ _ _ _ _ _ _ _ _ _ _ _))))
 intro X T F1 N1 hC hu hpf hz h
 repeat' (first
    | walk_at "go")
 ·rename_i hq t' k _ D' h' F' N' l9
  have e:Cm q=("xmlns:"++q.2,q.1):=by unfold Cm;rw [if_neg (He hq)]
  exact h D' t' h' _ F' (by rw [e];exact N') fun r hr=>by
   rcases List.mem_cons.mp hr with rfl | hr
   ·exact l9.1
   ·exact kst_ltOf l9.2 r hr
 ·rename_i hq D' h' F' N' l9
  have e:Cm q=(Str.ofString "xmlns",q.1):=by unfold Cm;rw [if_pos (Hb hq)]
  exact h D' _ h' _ F' (by rw [e];exact N') fun r hr=>by
   rcases List.mem_cons.mp hr with rfl | hr
   ·exact l9.1
   ·exact kst_ltOf l9.2 r hr
noncomputable abbrev Ps:Scope:={ kind:=.function,names:=[(".0",.local),("k",.local),("v",.local),("_escape_attrib_c14n",.globalImplicit)],isGenerator:=false,isCoroutine:=false,more:=[] }
noncomputable abbrev atElt(p1 p2 p3 p4 p5 p6 p7 p8 p9 p10:Pos):PySem.Expr:=.JoinedStr [.Constant (.str " ") 0 p1,.FormattedValue (.Name "k" p2) (-1) none p3,.Constant (.str "=\"") 0 p4,.FormattedValue (.Call (.Name "_escape_attrib_c14n" p5) [.Name "v" p6] [] p7) (-1) none p8,.Constant (.str "\"") 0 p9] p10
noncomputable def Qt(w:World)(A:Around)(s:Shared)(E:Value→Shared→Prop)(g:Heap)(os:OsState)(p:Program)(zw:List Str)(zr:ExcName→Option Value)(mg mb:Str→Option Value)(L C:Addr)(m m₂:Str→Option Value)(news:List (Addr × Obj))(cn:Str)(cs:Scope)(a:Addr)(ccd:Value)(cl' cl:List (Str × Addr))(oC:Obj)(q:Pr)(t1 t2:Tok)(p1 p2 p3 p4 p5 p6 p7 p8 p9 p10:Pos)(Q:Value→Shared→Prop):Prop :=
 ∀ (X:(hd11.heap_39 w.params).In g) (T:Top p zw zr mg mb g) (zq:A.depth<890) (F1:Fr g L s.heap m) (N1:News g L s.heap ((C,oC)::news)) (hC:NsObj oC m₂) (hu:m₂ "k"=some (.str q.1 t1)) (hpf:m₂ "v"=some (.str q.2 t2)) (hz:q.1.length≤1000) (hz2:q.2.length≤100) (hz3:(Ey q.2).length≤1000) (o1:s.os=os) (b1:AllBare s.gens) (h:∀ t3 (s':Shared),Fr g L s'.heap m→News g L s'.heap ((C,oC)::news)→s'.os=os→AllBare s'.gens→Q (.str (Cj q) t3) s'),wpAny (model rw_dn0283_11.row.prog w) A (eval (atElt p1 p2 p3 p4 p5 p6 p7 p8 p9 p10) (compEnvC Ps cl C (envX cn cs L a ccd cl'))) Q E s
theorem at_elt:∀ {w A s E g os p zw zr mg mb L C m m₂ news cn cs a ccd cl' cl oC q t1 t2 p1 p2 p3 p4 p5 p6 p7 p8 p9 p10 Q},Qt w A s E g os p zw zr mg mb L C m m₂ news cn cs a ccd cl' cl oC q t1 t2 p1 p2 p3 p4 p5 p6 p7 p8 p9 p10 Q:=by
 refine @(Ab (Ao neW)<|@(Ab neI<|@(Ab neI<|@(Ab neI<|@(Et neI<|let_mvar% ?n:=(fun w A s E g os p zw zr mg mb L C m m₂ news cn cs a ccd cl' cl oC q t1 t2 p1 p2 p3 p4 p5 p6 p7 p8 p9 p10 Q=>?_:∀ a b c d e f g h i j k l m n o p q r s t u v w x y z a1 b1 c1 d1 e1 f1 g1 h1 i1 j1 k1,Qt a b c d e f g h i j k l m n o p q r s t u v w x y z a1 b1 c1 d1 e1 f1 g1 h1 i1 j1 k1);?n _ _ _ _ _ _ _ _ _ _ _ _ _ _ _ _ _ _ _ _ _ _ _ _ _ _ _ _ _ _ _ _ _ _ _ _ _)))))
 intro X T zq F1 N1 hC hu hpf hz hz2 hz3 o1 b1 h;revert X
 k_fill
 intro X
 repeat' (first
    | ((with_reducible show wpAny _ _ (eval (Expr.Name "_escape_attrib_c14n" _) _) _ _ _);refine LCgL.ld_global (by k_asm) X T (by k_is) ?_)
    | ((with_reducible show wpAny _ _ (call (.ref 161) _) _ _ _);(rename Fr ..=>F9);(rename News ..=>N9);refine As [] ((C,oC)::news) F9 N9 o1 b1 (List.forall_mem_nil _) (fun _ z=>z) (fun _ _ z=>nomatch z) fun g₂ H₂ K₂ _ back=>Vn (X.keeps K₂) (T.keeps K₂) H₂ (Nat.lt_trans zq (by decide)) hz2 fun s5 t5 H5=>?_;obtain⟨F5,N5,o5,b5⟩:=back _ _ H5;clear back F9 N9 H₂ H5;(try dsimp only))
    | ((fail_if_success (with_reducible show wpAny _ _ (call (.ref 161) _) _ _ _));walk_at "go"))
 have e:Str.empty++" "++q.1++"=\""++Ey q.2++"\""=Cj q:=by rw [Str.empty_append];rfl
 rw [e];exact h _ _ F5 N5 o5 b5
noncomputable def Pa(w:World)(A:Around)(s:Shared)(E:Value→Shared→Prop)(g:Heap)(os:OsState)(p:Program)(zw:List Str)(zr:ExcName→Option Value)(mg mb:Str→Option Value)(L ax:Addr)(m:Str→Option Value)(base:List (Addr × Obj))(env:Env)(cl:List (Str × Addr))(its:Array Value)(lv:List Pr)(prs:List (Addr × Obj))(iter:PySem.Expr)(k:Nat)(p1 p2 p3 p4 p5 p6 p7 p8 px px2 tp pos py spos:Pos)(Q:Flow→Shared→Prop):Prop :=
 ∀ (X:(hd11.heap_39 w.params).In g) (T:Top p zw zr mg mb g) (hh:A.handled=none) (hL:env.locals=L) (hsw:swapsWith (.ListComp (Uu p1 p2 p3 p4 p5 p6 p7 p8) [⟨.Tuple [.Name "uri" px,.Name "prefix" px2] k tp,iter,[],0⟩] Hf pos) (some (.Name "attr_list" py)) spos.line env=pure true) (hclos:closureFor Hf env=pure cl) (hfs:∀ x,foldedSetIterable iter env x=pure x) (hy:env.kindOf "attr_list"=some .local) (hp:(env.scope.kind == .class || (env.scope.kind == .module && env.locals != env.globals))=false) (hiter:∀ Q':Value→Shared→Prop,Q' (.ref ax) s→wpAny (model rw_dn0283_11.row.prog w) A (eval iter env) Q' E s) (F:Fr g L s.heap m) (N:News g L s.heap base) (o1:s.os=os) (b1:AllBare s.gens) (hax:∃ n,(ax,listOf its n)∈base) (hprs:∀ q∈prs,q∈base) (hits:All2 (Ap prs) its.toList lv) (hlz:lv.length≤50) (hlq:∀ q∈lv,q.2.length≤200) (fin:∀ (s1:Shared) D ys tl,All2 (Ap tl) ys (lv.map Cm)→(∀ q∈tl,q.1≠D∧∀ r∈base,q.1≠r.1)→(∀ r∈base,D≠r.1)→Fr g L s1.heap (fun y=>if y="attr_list" then some (.ref D) else m y)→News g L s1.heap ((D,LCg.lst ys)::(tl++base))→s1.os=os→AllBare s1.gens→Q .next s1),wpAny (model rw_dn0283_11.row.prog w) A (exec (.Assign [.Name "attr_list" py] (.ListComp (Uu p1 p2 p3 p4 p5 p6 p7 p8) [⟨.Tuple [.Name "uri" px,.Name "prefix" px2] k tp,iter,[],0⟩] Hf pos) spos) env) Q E s
theorem ns_stmt:∀ {w A s E g os p zw zr mg mb L ax m base env cl its lv prs iter k p1 p2 p3 p4 p5 p6 p7 p8 px px2 tp pos py spos Q},Pa w A s E g os p zw zr mg mb L ax m base env cl its lv prs iter k p1 p2 p3 p4 p5 p6 p7 p8 px px2 tp pos py spos Q:=by
 refine @(Ab (Ao neW)<|@(Ab neI<|@(Ab neI<|@(Ab neI<|@(Et neI<|let_mvar% ?n:=(fun w A s E g os p zw zr mg mb L ax m base env cl its lv prs iter k p1 p2 p3 p4 p5 p6 p7 p8 px px2 tp pos py spos Q=>?_:∀ a b c d e f g h i j k l m n o p q r s t u v w x y z a1 b1 c1 d1 e1 f1 g1 h1 i1 j1 k1,Pa a b c d e f g h i j k l m n o p q r s t u v w x y z a1 b1 c1 d1 e1 f1 g1 h1 i1 j1 k1);?n _ _ _ _ _ _ _ _ _ _ _ _ _ _ _ _ _ _ _ _ _ _ _ _ _ _ _ _ _ _ _ _ _ _ _ _ _)))))
 intro X T hh hL hsw hclos hfs hy hp hiter F N o1 b1 hax hprs hits hlz hlq fin;rw [exec_Assign_Name_used _ _ _ _ hsw];refine Wb (wpAny_standAt (Wb ?_))
 show wpAny _ A (do let _ ← comprehension (.ListComp (Uu p1 p2 p3 p4 p5 p6 p7 p8) [⟨.Tuple [.Name "uri" px,.Name "prefix" px2] k tp,iter,[],0⟩] Hf pos) Hf env _ (newList []) false (eval iter env) (some (assign (.Name "attr_list" py) env))) _ _ s
 refine Wb (wpAny_mono (wpAny_comprehension_free (use:=some (assign (.Name "attr_list" py) env)) (Q:=fun _ s'=>Q .next s') rfl hfs hclos rfl (by decide) (hiter _ ?_)) (fun _ s' hq=>Wp (Wp hq)) fun _ _ e=>e)
 obtain⟨n,hax⟩:=hax
 refine Rr (os:=os) (its:=its) (ax:=ax) (news:=base) (fun rem ys own=>∃ q1 q2 tl,lv=q1++q2∧All2 (Ap prs) rem q2∧own=tl++base∧All2 (Ap tl) ys (q1.map Cm)∧∀ q∈tl,∀ r∈base,q.1≠r.1)
  (by decide) rfl rfl rfl (by decide) hh F N o1 b1 (.inr ⟨_,hax,rfl,_,rfl⟩) ?_ ⟨[],lv,[],rfl,hits,rfl,.nil,fun _ z=>nomatch z⟩ ?_ ?_ ?_ ?_ ?_
 ·have:its.size=lv.length:=by rw [← hits.length];simp
  rw [this,sizeLine_eq];exact(Nl fun hn1=>fk [_] (.e V0 (.k 50) (.e (.s (.k 16777216)) V0 K0)) rfl hlz hn1)
 ·rintro rem ys own ⟨q1,q2,tl,_,_,rfl,_⟩
  exact .inr ⟨_,Mr _ hax,rfl,_,rfl⟩
 ·rintro v rem ys own ⟨q1,q2,tl,_,h2,rfl,_⟩
  cases h2 with
  | cons z _=>exact⟨_,z.mono fun r hr=>Mr _ (hprs r hr)⟩
 ·intro v hv
  obtain⟨i,hi⟩:=List.mem_iff_getElem?.mp hv
  have hlt:i<lv.length:=by
   rw [← hits.length]
   rcases Nat.lt_or_ge i its.toList.length with z | z
   ·exact z
   ·rw [List.getElem?_eq_none z] at hi;cases hi
  obtain⟨v',e,a,_,_,e2,_⟩:=hits.get (List.getElem?_eq_getElem hlt);rw [hi] at e;cases e;exact⟨a,e2⟩
 ·rintro s1 D v rem ys own I oI C oC m₂ q t1 t2 E' ⟨q1,q2,tl,e1,h2,rfl,h4,h5⟩ ⟨a,rfl,hm⟩ hC b1' b2' F1 N1 off hIC hDI hDC ho hb
  cases h2 with
  | @cons _ q' _ q2' z h2' =>
   obtain⟨a',u1,u2,ea,hma⟩:=z
   cases ea
   have hqq:q=q'∧t1=u1∧t2=u2:=by
    have g1:=(N1 (a,_) (.tail _ (.tail _ (.tail _ hm)))).1;have g2:=(N1 (a,_) (.tail _ (.tail _ (.tail _ (Mr _ (hprs _ hma)))))).1;rw [g1] at g2;have:=congrArg Obj.data (Option.some.inj g2)
    simp only [Data.seq.injEq,Array.mk.injEq,List.cons.injEq,Value.str.injEq,and_true] at this
    obtain⟨q1a,q1b⟩:=q;obtain⟨q2a,q2b⟩:=q'
    simp only at this
    obtain⟨⟨rfl,rfl⟩,rfl,rfl⟩:=this;exact⟨rfl,rfl,rfl⟩
   obtain⟨rfl,rfl,rfl⟩:=hqq;have o3:=off.mem
   refine ns_elt (m:=m) (news:=(I,oI)::(D,LCg.lst ys)::(tl++base)) X T F1 (News.sub N1 fun r hr=>?_) hC b1' b2' (Nat.le_trans (hlq q (by rw [e1];simp)) (by decide)) fun T' t3 h' tk F2 N2 hlt=>?_
   ·simp only [List.mem_cons] at hr ⊢
    rcases hr with h | h | h | h
    ·exact .inr (.inl h)
    ·exact .inl h
    ·exact .inr (.inr (.inl h))
    ·exact .inr (.inr (.inr h))
   ·refine⟨(T',Ae #[.str (Cm q).1 t3,.str (Cm q).2 t1])::(tl++base),⟨q1++[q],q2',(T',_)::tl,by rw [e1,List.append_assoc];rfl,h2',rfl,?_,?_⟩,F2,News.sub N2 fun r hr=>?_,?_,ho,hb⟩
    ·rw [List.map_append]
     exact(h4.mono fun _ _ z=>z.mono fun _ hr=>.tail _ hr).snoc ⟨T',t3,t1,rfl,.head _⟩
    ·intro r hr r' hr'
     rcases List.mem_cons.mp hr with rfl | hr
     ·exact Nat.ne_of_gt (hlt r' (.tail _ (.tail _ (.tail _ (Mr _ hr')))))
     ·exact h5 r hr r' hr'
    ·simp only [List.mem_cons] at hr ⊢
     rcases hr with h | h | h | h | h
     ·exact .inr (.inr (.inl h))
     ·exact .inr (.inl h)
     ·exact .inr (.inr (.inr (.inl h)))
     ·exact .inl h
     ·exact .inr (.inr (.inr (.inr h)))
    ·refine Off3.of fun r hr=>?_
     rcases List.mem_cons.mp hr with rfl | hr
     ·exact⟨Nat.ne_of_gt (hlt (I,oI) (.tail _ (.head _))),Nat.ne_of_gt (hlt (C,oC) (.head _)),Nat.ne_of_gt (hlt (D,_) (.tail _ (.tail _ (.head _))))⟩
     ·exact o3 r hr
 ·rintro s1 D C ys own mC ⟨q1,q2,tl,e1,h2,rfl,h4,h5⟩ F1 N1 hneD hns hC0 hCL hDC hoC ho hb
  cases h2
  rw [List.append_nil] at e1;subst e1
  show wpAny _ A (assign (.Name "attr_list" py) env (.ref D)) _ _ _
  subst hL
  refine wpAny_assign_Name (wpAny_storeName_local hy F1.ns (fun h₂ hn₂ hs₂=>?_) hp)
  have hL₀:g.get? env.locals=none:=Heap.get?_none_of_le F1.above
  have F₂:Fr g env.locals h₂ (fun z=>if z="attr_list" then some (.ref D) else m z):=⟨hn₂,fun b o e=>hs₂.extBut b o (fun q=>by rw [q,hL₀] at e;cases e) (F1.keep b o e),F1.above⟩
  refine⟨mC,hns.sameBut hs₂ hCL,fun h'' hs''=>?_⟩
  refine fin _ D ys tl h4 (fun q hq=>⟨hneD q (Ml _ hq),h5 q hq⟩) (fun r hr=>Ne.symm (hneD r (Mr _ hr))) (F₂.change hs'' hCL hC0) (fun q hq=>?_) ho hb
  have hqC:q.1≠C:=by
   rcases List.mem_cons.mp hq with rfl | hq
   ·exact hDC
   ·exact hoC q hq
  have z:=N1 q hq;exact⟨hs''.extBut _ _ hqC (hs₂.extBut _ _ z.2.1 z.1),z.2⟩
noncomputable def Oj(w:World)(A:Around)(s:Shared)(E:Value→Shared→Prop)(g:Heap)(os:OsState)(p:Program)(zw:List Str)(zr:ExcName→Option Value)(mg mb:Str→Option Value)(L ax:Addr)(m:Str→Option Value)(base:List (Addr × Obj))(cn:Str)(cs:Scope)(a:Addr)(ccd:Value)(cl' cl:List (Str × Addr))(its:Array Value)(al:List Pr)(prs:List (Addr × Obj))(iter:PySem.Expr)(k:Nat)(p1 p2 p3 p4 p5 p6 p7 p8 p9 p10 px px2 tp pos:Pos)(Q:Value→Shared→Prop):Prop :=
 ∀ (X:(hd11.heap_39 w.params).In g) (T:Top p zw zr mg mb g) (hh:A.handled=none) (zq:A.depth<890) (hclos:closureFor Ps (envX cn cs L a ccd cl')=pure cl) (hfs:∀ x,foldedSetIterable iter (envX cn cs L a ccd cl') x=pure x) (hiter:∀ Q':Value→Shared→Prop,Q' (.ref ax) s→wpAny (model rw_dn0283_11.row.prog w) A (eval iter (envX cn cs L a ccd cl')) Q' E s) (F:Fr g L s.heap m) (N:News g L s.heap base) (o1:s.os=os) (b1:AllBare s.gens) (hax:∃ n,(ax,listOf its n)∈base) (hprs:∀ q∈prs,q∈base) (hits:All2 (Ap prs) its.toList al) (hlz:al.length≤50) (hlq:∀ q∈al,q.1.length≤1000∧q.2.length≤100∧(Ey q.2).length≤1000) (fin:∀ (s1:Shared) D ts,ts.map (·.1)=al.map Cj→(∀ r∈base,D≠r.1)→Fr g L s1.heap m→News g L s1.heap ((D,LCg.lst (strValues ts))::base)→s1.os=os→AllBare s1.gens→Q (.ref D) s1),wpAny (model rw_dn0283_11.row.prog w) A (eval (.ListComp (atElt p1 p2 p3 p4 p5 p6 p7 p8 p9 p10) [⟨.Tuple [.Name "k" px,.Name "v" px2] k tp,iter,[],0⟩] Ps pos) (envX cn cs L a ccd cl')) Q E s
theorem at_list:∀ {w A s E g os p zw zr mg mb L ax m base cn cs a ccd cl' cl its al prs iter k p1 p2 p3 p4 p5 p6 p7 p8 p9 p10 px px2 tp pos Q},Oj w A s E g os p zw zr mg mb L ax m base cn cs a ccd cl' cl its al prs iter k p1 p2 p3 p4 p5 p6 p7 p8 p9 p10 px px2 tp pos Q:=by
 refine @(Ab (Ao neW)<|@(Ab neI<|@(Ab neI<|@(Ab neI<|@(Ab neI<|@(Au neI<|let_mvar% ?n:=(fun w A s E g os p zw zr mg mb L ax m base cn cs a ccd cl' cl its al prs iter k p1 p2 p3 p4 p5 p6 p7 p8 p9 p10 px px2 tp pos Q=>?_:∀ a b c d e f g h i j k l m n o p q r s t u v w x y z a1 b1 c1 d1 e1 f1 g1 h1 i1 j1 k1 l1 m1 n1 o1,Oj a b c d e f g h i j k l m n o p q r s t u v w x y z a1 b1 c1 d1 e1 f1 g1 h1 i1 j1 k1 l1 m1 n1 o1);?n _ _ _ _ _ _ _ _ _ _ _ _ _ _ _ _ _ _ _ _ _ _ _ _ _ _ _ _ _ _ _ _ _ _ _ _ _ _ _ _ _))))))
 intro X T hh zq hclos hfs hiter F N o1 b1 hax hprs hits hlz hlq fin;rw [eval_ListComp]
 refine wpAny_comprehension_free (use:=none) rfl hfs hclos rfl (by decide) (hiter _ ?_)
 obtain⟨n,hax⟩:=hax
 refine Rr (os:=os) (its:=its) (ax:=ax) (news:=base) (fun rem ys own=>∃ q1 q2 ts,al=q1++q2∧All2 (Ap prs) rem q2∧base=own∧ys=strValues ts∧ts.map (·.1)=q1.map Cj)
  (by decide) rfl rfl rfl (by decide) hh F N o1 b1 (.inr ⟨_,hax,rfl,_,rfl⟩) ?_ ⟨[],al,[],rfl,hits,rfl,rfl,rfl⟩ ?_ ?_ ?_ ?_ ?_
 ·have:its.size=al.length:=by rw [← hits.length];simp
  rw [this,sizeLine_eq];exact(Nl fun hn1=>fk [_] (.e V0 (.k 50) (.e (.s (.k 16777216)) V0 K0)) rfl hlz hn1)
 ·rintro rem ys own ⟨q1,q2,ts,_,_,rfl,_⟩
  exact .inr ⟨_,hax,rfl,_,rfl⟩
 ·rintro v rem ys own ⟨q1,q2,ts,_,h2,rfl,_⟩
  cases h2 with
  | cons z _=>exact⟨_,z.mono fun r hr=>hprs r hr⟩
 ·intro v hv
  obtain⟨i,hi⟩:=List.mem_iff_getElem?.mp hv
  have hlt:i<al.length:=by
   rw [← hits.length]
   rcases Nat.lt_or_ge i its.toList.length with z | z
   ·exact z
   ·rw [List.getElem?_eq_none z] at hi;cases hi
  obtain⟨v',e,a,_,_,e2,_⟩:=hits.get (List.getElem?_eq_getElem hlt);rw [hi] at e;cases e;exact⟨a,e2⟩
 ·rintro s1 D v rem ys own I oI C oC m₂ q t1 t2 E' ⟨q1,q2,ts,e1,h2,rfl,rfl,h4⟩ ⟨a,rfl,hm⟩ hC b1' b2' F1 N1 off hIC hDI hDC ho hb
  cases h2 with
  | @cons _ q' _ q2' z h2' =>
   obtain⟨a',u1,u2,ea,hma⟩:=z
   cases ea
   have hqq:q=q':=by
    have g1:=(N1 (a,_) (.tail _ (.tail _ (.tail _ hm)))).1;have g2:=(N1 (a,_) (.tail _ (.tail _ (.tail _ (hprs _ hma))))).1;rw [g1] at g2;have:=congrArg Obj.data (Option.some.inj g2)
    simp only [Data.seq.injEq,Array.mk.injEq,List.cons.injEq,Value.str.injEq,and_true] at this
    obtain⟨q1a,q1b⟩:=q;obtain⟨q2a,q2b⟩:=q'
    simp only at this
    obtain⟨⟨rfl,_⟩,rfl,_⟩:=this
    rfl
   subst hqq
   have hq:=hlq q (by rw [e1];simp)
   have hsub:∀ r,r∈(C,oC)::(I,oI)::(D,LCg.lst (strValues ts))::base↔r∈(I,oI)::(C,oC)::(D,LCg.lst (strValues ts))::base:=fun r=>by
    simp only [List.mem_cons]
    exact⟨fun h=>by rcases h with h | h | h<;>simp [h],fun h=>by rcases h with h | h | h<;>simp [h]⟩
   refine at_elt (m:=m) (news:=(I,oI)::(D,LCg.lst (strValues ts))::base) X T zq F1 (News.sub N1 fun r hr=>(hsub r).mp hr) hC b1' b2' hq.1 hq.2.1 hq.2.2 ho hb fun t3 s' F2 N2 ho2 hb2=>?_
   refine⟨base,⟨q1++[q],q2',ts++[(Cj q,t3)],by rw [e1,List.append_assoc];rfl,h2',rfl,by simp [strValues],by rw [List.map_append,List.map_append,h4];rfl⟩,F2,News.sub N2 fun r hr=>(hsub r).mpr hr,off,ho2,hb2⟩
 ·rintro s1 D C ys own mC ⟨q1,q2,ts,e1,h2,rfl,rfl,h4⟩ F1 N1 hneD hns hC0 hCL hDC hoC ho hb
  cases h2
  rw [List.append_nil] at e1;subst e1
  refine⟨mC,hns,fun h'' hs''=>?_⟩
  refine fin _ D ts h4 (fun r hr=>Ne.symm (hneD r hr)) (F1.change hs'' hCL hC0) (fun q hq=>?_) ho hb
  have hqC:q.1≠C:=by
   rcases List.mem_cons.mp hq with rfl | hq
   ·exact hDC
   ·exact hoC q hq
  have z:=N1 q hq;exact⟨hs''.extBut _ _ hqC z.1,z.2⟩
end
theorem rs4:True∧True:=by
 (try walk1);(try w_top off)
 all_goals (first | trivial | exact ⟨trivial,trivial⟩)
section

noncomputable def Iv(w:World)(A:Around)(s:Shared)(g:Heap)(os:OsState)(p:Program)(zw:List Str)(zr:ExcName→Option Value)(mg mb:Str→Option Value)(R:Result→Shared→Prop)(x dx:Addr)(hsh:Nat→Int)(tkn:Nat→Tok)(wr da de ns pm pr:Addr)(rs rd:Bool)(ig:Int)(ep:Nat)(out:Addr)(n1 n2:Nat)(ds:List (Str × Tok))(outs:Array Value)(pre:List Value)(pv:Bool)(D:Str):Prop :=
 ∀ (X:(hd11.heap_39 w.params).In g) (T:Top p zw zr mg mb g) (H:Ok g os [(x,instObj 143 dx),(dx,dictOf (wd hsh tkn (.bool true) (.bool true) .none .none (.bool false) .none .none .none wr da de ns pm pr rs rd ig) ep),(da,listOf (strValues ds).toArray n1),(out,listOf outs n2),(wr,Aj out)] s) (hh:A.handled=none) (zq:A.depth<800) (hpr:g.IsList pr (pre++[Value.bool pv]).toArray) (hok:JoinOk Str.empty (ds.map (·.1))=true) (hdz:(strValues ds).toArray.size≤sizeLine) (nd:([x,dx,da,out,wr]:List Nat).Nodup) (hdl:(Txt.join Str.empty (ds.map (·.1))).length≤2000) (hoz:outs.size≤sizeLine) (hD:Bm pv (Txt.join Str.empty (ds.map (·.1)))=D) (hN0:∀ s' n3,(D=Str.empty∨rs=false)→Ok g os [(x,instObj 143 dx),(dx,dictOf (wd hsh tkn (.bool true) (.bool true) .none .none (.bool false) .none .none .none wr da de ns pm pr rs rd ig) ep),(da,listOf #[] n3),(out,listOf outs n2),(wr,Aj out)] s'→R (.ok (.ret .none)) s') (hN1:∀ s' n3 t,D≠Str.empty→rs=true→Ok g os [(x,instObj 143 dx),(dx,dictOf (wd hsh tkn (.bool true) (.bool true) .none .none (.bool false) .none .none .none wr da de ns pm pr rs rd ig) ep),(da,listOf #[] n3),(out,listOf (outs.push (.str (Fv D) t)) (n2+1)),(wr,Aj out)] s'→R (.ok (.ret .none)) s'),codeAny (model rw_dn0283_11.row.prog w) A (.call (.ref 99) ⟨[.ref x],[]⟩) R s
theorem Tu:∀ {w A s g os p zw zr mg mb R x dx hsh tkn wr da de ns pm pr rs rd ig ep out n1 n2 ds outs pre pv D},Iv w A s g os p zw zr mg mb R x dx hsh tkn wr da de ns pm pr rs rd ig ep out n1 n2 ds outs pre pv D:=by
 refine @(Ab (Ao neW)<|@(Ab neI<|@(Ab neI<|@(Ab neI<|@(Au neI<|let_mvar% ?n:=(fun w A s g os p zw zr mg mb R x dx hsh tkn wr da de ns pm pr rs rd ig ep out n1 n2 ds outs pre pv D=>?_:∀ a b c d e f g h i j k l m n o p q r s t u v w x y z a1 b1 c1 d1 e1 f1 g1,Iv a b c d e f g h i j k l m n o p q r s t u v w x y z a1 b1 c1 d1 e1 f1 g1);?n _ _ _ _ _ _ _ _ _ _ _ _ _ _ _ _ _ _ _ _ _ _ _ _ _ _ _ _ _ _ _ _ _)))))
 intro X T H hh zq hpr hok hdz nd hdl hoz hD hN0 hN1;revert X
 k_fill
 intro X
 refine' Cq (fun y=>List.lookup y [("_join_text",.ref 91),("self",.ref x)]) H X T ?k6 ?k7 (Nat.lt_trans zq (by decide)) ?k9 ?kB ?km ?kl ?_ ?c1 ?c2 ?c3 ?c4
 (case k6=>k_is)
 (case k7=>k_is)
 (case k9=>exact binds_K (X.keeps H.keep) rfl (by k_is) rfl rfl rfl)
 (case kB=>exact locs rfl)
 (case km=>exact rfl)
 (case kl=>exact Nat.succ_pos _)
 (case c1=>exact rfl)
 (case c2=>exact rfl)
 (case c3=>exact rfl)
 (case c4=>decide)
 k_whole;with_reducible refine let_mvar% ?zq1:=(fun L' h1 k0=>?_:Fa3 _);Am neI (Bu:Tie _ (type_of% ?zq1)) (?zq1 _ _ _);intro hk0 F1 N1 l1;(try k_lt l1);(try dsimp only)
 refine Bw ?_;walk_at "eps2";rename_i Q9 E9;intro hq9 he9;refine ndk5 nd ?_;intro nxd nxa nxo nxw nda ndo ndw nao naw now;have hsl:D.length≤2000:=hD ▸ Nat.le_trans (Um ..) hdl
 repeat' (first
  | ((with_reducible show wpAny _ _ (callWith _ (.ref 91) _ _ _) _ _ _);refine Br ?_;(try dsimp only))
  | ((with_reducible show BmP _ _∧_);refine⟨⟨_,_,(X.keeps (Fr.keep (by k_asm))) _ _ (by k_is)⟩,?_⟩)
  | ((with_reducible show wpAny _ _ (call (.ref 91) _) _ _ _);refine Vg ((X.keeps (Fr.keep (by k_asm))) _ _ (by k_is)) ⟨_,(News.get (by k_asm) (by k_mem)),rfl,_,rfl⟩ hok ?_;walk_at "eps2";rename_i tj kj;(try dsimp only))
  | ((with_reducible show wpAny _ _ (delItem (.ref da) _) _ _ _);(rename Fr ..=>F2);(rename News ..=>N2);refine Vk (s:=⟨_,_,_,_,_⟩) F2 N2 (fun n'=>Upd.tail nxa (Upd.tail nda (Upd.head (Fc (Ne.symm nao) (Fc (Ne.symm naw) (List.forall_mem_nil _)))))) hdz ?_;clear F2 N2;walk_at "eps";rename_i h2;walk_at "eps";rename_i n2';intro F2 N2;(try dsimp only))
  | ((fail_if_success (with_reducible show wpAny _ _ (execs (Stmt.If (Expr.BoolOp _ _ _) _ _ _::_) _) _ _ _));walk_at "go"))
 rename Fr ..=>F3
 rename News ..=>N3
 refine' wpAny_execs_cons (Ds (R:=fun s'=>∃ h3 td k3,s'={ s with heap:=h3,toks:=k3 }∧Fr g L' h3 (fun y=>if y="data" then some (.str D td) else List.lookup y [("_join_text",.ref 91),("self",.ref x)])∧News g L' h3 [(x,instObj 143 dx),(dx,dictOf (wd hsh tkn (.bool true) (.bool true) .none .none (.bool false) .none .none .none wr da de ns pm pr rs rd ig) ep),(da,listOf #[] n2'),(out,listOf outs n2),(wr,Aj out)]) ?c1 ?c2)
 case c1 =>
  subst hD
  cases pv with
  | true =>
   repeat' (first
    | ((with_reducible show wpAny _ _ (subscriptTail _ _ (.ref pr) (.int (-1) _)) _ _ _);refine De (vs:=pre) (v:=.bool true) (Ai (Fr.keep (by k_asm)) hpr) ?_;(try dsimp only))
    | ((with_reducible show Flow.next=_∧_);(rename Fr ..=>F9);(rename News ..=>N9);first | exact⟨rfl,_,_,_,rfl,F9,N9⟩ | exact⟨rfl,_,_,_,rfl,Fr.to F9 Ur,N9⟩)
    | ((with_reducible show Q9 _ _);refine hq9 _ _ ?_;(try dsimp only))
    | walk_at "go")
  | false =>
   repeat' (first
    | ((with_reducible show wpAny _ _ (subscriptTail _ _ (.ref pr) (.int (-1) _)) _ _ _);refine De (vs:=pre) (v:=.bool false) (Ai (Fr.keep (by k_asm)) hpr) ?_;(try dsimp only))
    | ((with_reducible show Flow.next=_∧_);(rename Fr ..=>F9);(rename News ..=>N9);first | exact⟨rfl,_,_,_,rfl,F9,N9⟩ | exact⟨rfl,_,_,_,rfl,Fr.to F9 Ur,N9⟩)
    | ((with_reducible show Q9 _ _);refine hq9 _ _ ?_;(try dsimp only))
    | walk_at "go")
 case c2 =>
  refine exs3 ?_;with_reducible refine let_mvar% ?zq3:=(fun s99 h3 td k3=>?_:Fa4 _);Bk Cb (Ek:Tie _ (type_of% ?zq3)) (?zq3 _ _ _ _);rintro⟨rfl,F4,N4⟩
  dsimp only;clear hD F3 N3 hok hdz hdl hpr
  cases rs with
  | true =>
   repeat' (first
    | ((with_reducible show wpAny _ _ (callWith _ (.ref wr) _ _ _) _ _ _);refine Br ?_;(try dsimp only))
    | ((with_reducible show BmP _ _∧_);refine⟨⟨_,_,News.get (by k_asm) (by k_mem)⟩,?_⟩)
    | ((with_reducible show LeaveM _ _ _ _ _);(rename Fr ..=>F9);(rename News ..=>N9);first
      | exact leaveM_ F9 N9 H.os H.bare fun H'=>hN0 _ _ (.inl (Hb (by assumption))) H'
      | exact leaveM_ F9 N9 (by assumption) (by assumption) fun H'=>hN1 _ _ _ (He (by assumption)) rfl H')
    | ((with_reducible show wpAny _ _ (call (.ref wr) _) _ _ _);(rename Fr ..=>F9);(rename News ..=>N9);refine Em F9 N9 (by k_mem) (Upd.tail nxo (Upd.tail ndo (Upd.tail nao (Upd.head (Fc (Ne.symm now) (List.forall_mem_nil _)))))) hoz ?_;clear F9 N9;walk_at "eps";rename_i h9;intro F9 N9;(try dsimp only))
    | ((with_reducible show wpAny _ _ (call (.ref 154) _) _ _ _);(rename Fr ..=>F9);(rename News ..=>N9);refine As [] [(x,instObj 143 dx),(dx,dictOf (wd hsh tkn (.bool true) (.bool true) .none .none (.bool false) .none .none .none wr da de ns pm pr true rd ig) ep),(da,listOf #[] n2'),(out,listOf outs n2),(wr,Aj out)] F9 N9 H.os H.bare (List.forall_mem_nil _) (by walk_at "l_mem") (fun _ _ z=>nomatch z) fun g₂ H₂ K₂ _ back=>Hc (X.keeps K₂) (T.keeps K₂) H₂ (Nat.lt_of_lt_of_le (Nat.succ_lt_succ zq) (by decide)) hsl fun s5 t5 H5=>?_;obtain⟨F5,N5,o5,b5⟩:=back _ _ H5;clear back F9 N9 H₂ H5;(try clear g₂);revert s5 t5;with_reducible refine let_mvar% ?ns4S2x3:=(fun s5 t5=>?_:Fa2 _);Al Cb (Bn:Tie _ (type_of% ?ns4S2x3)) (?ns4S2x3 _ _);intro  F5 N5 o5 b5;(try dsimp only))
    | ((with_reducible show Q9 _ _);refine hq9 _ _ ?_;(try dsimp only))
    | walk_at "go")
  | false =>
   repeat' (first
    | ((with_reducible show LeaveM _ _ _ _ _);(rename Fr ..=>F9);(rename News ..=>N9);exact leaveM_ F9 N9 H.os H.bare fun H'=>hN0 _ _ (.inr rfl) H')
    | ((with_reducible show Q9 _ _);refine hq9 _ _ ?_;(try dsimp only))
    | walk_at "go")
theorem Iu{w:World}{A:Around}{s:Shared}{g:Heap}{os:OsState}
  {p:Program} {zw:List Str} {zr:ExcName→Option Value} {mg mb:Str→Option Value} {R:Result→Shared→Prop}
  {x dx:Addr} {hsh:Nat→Int} {tkn:Nat→Tok} {wr da de ns pm pr:Addr} {rs rd:Bool} {ig:Int} {ep:Nat} {out:Addr} {n1 n2:Nat} {ds ol:List (Str × Tok)} {pre:List Value} {pv:Bool}
  (X:(hd11.heap_39 w.params).In g) (T:Top p zw zr mg mb g) (H:Ok g os [(x,instObj 143 dx),(dx,dictOf (wd hsh tkn (.bool true) (.bool true) .none .none (.bool false) .none .none .none wr da de ns pm pr rs rd ig) ep),(da,listOf (strValues ds).toArray n1),(out,listOf (strValues ol).toArray n2),(wr,Aj out)] s) (hh:A.handled=none) (zq:A.depth<800)
  (hpr:g.IsList pr (pre++[Value.bool pv]).toArray) (hok:JoinOk Str.empty (ds.map (·.1))=true) (hdz:(strValues ds).toArray.size≤sizeLine)
  (nd:([x,dx,da,out,wr]:List Nat).Nodup) (hdl:(Txt.join Str.empty (ds.map (·.1))).length≤2000) (hoz:(strValues ol).toArray.size≤sizeLine)
  (hN:∀ s' n3 n4 ol2,ol2.map (·.1)=ol.map (·.1)++Bl rs (Bm pv (Txt.join Str.empty (ds.map (·.1))))→Ok g os [(x,instObj 143 dx),(dx,dictOf (wd hsh tkn (.bool true) (.bool true) .none .none (.bool false) .none .none .none wr da de ns pm pr rs rd ig) ep),(da,listOf #[] n3),(out,listOf (strValues ol2).toArray n4),(wr,Aj out)] s'→R (.ok (.ret .none)) s') :
  codeAny (model rw_dn0283_11.row.prog w) A (.call (.ref 99) ⟨[.ref x],[]⟩) R s:=by
 refine Tu (D:=Bm pv (Txt.join Str.empty (ds.map (·.1)))) X T H hh zq hpr hok hdz nd hdl hoz rfl (fun s' n3 c H'=>hN s' n3 n2 ol ?_ H') fun s' n3 t c1 c2 H'=>hN s' n3 (n2+1) (ol++[(Fv (Bm pv (Txt.join Str.empty (ds.map (·.1)))),t)]) ?_ ?_
 ·rw [Md c,List.append_nil]
 ·rw [Rd c1 c2,List.map_append];rfl
 ·rw [Av];exact H'
end
theorem rs5:True∧True:=by
 (try walk1);(try w_top off)
 all_goals (first | trivial | exact ⟨trivial,trivial⟩)
section

theorem tup2_eq{h:Heap}{a:Addr}{q q':Pr}{t1 t2 u1 u2:Tok}(g1:h.get? a=some (Ae #[.str q.1 t1,.str q.2 t2]))(g2:h.get? a=some (Ae #[.str q'.1 u1,.str q'.2 u2])):q=q':=by
 rw [g1] at g2;have:=congrArg Obj.data (Option.some.inj g2)
 simp only [Ae,Data.seq.injEq,Array.mk.injEq,List.cons.injEq,Value.str.injEq,and_true] at this
 exact Prod.ext this.1.1 this.2.1
noncomputable def Hu(w:World)(A:Around)(s:Shared)(g:Heap)(os:OsState)(p:Program)(zw:List Str)(zr:ExcName→Option Value)(mg mb:Str→Option Value)(R:Result→Shared→Prop)(x dx:Addr)(hsh:Nat→Int)(tkn:Nat→Tok)(wr da de ns pm pr:Addr)(rs rd:Bool)(ep:Nat)(out:Addr)(n2:Nat)(ol:List (Str × Tok))(pre:List Value)(pv:Bool)(dl at_:Addr)(nns npr na:Nat)(dlv nlv:List (Addr × Array Value))(lower nps:List Pr)(tag:Str)(tt:Tok)(l:List ((Str × Tok) × (Str × Tok)))(tabs:List (Addr × Obj)):Prop :=
 ∀ (X:(hd11.heap_39 w.params).In g) (T:Top p zw zr mg mb g) (H:Ok g os ([(x,instObj 143 dx),(dx,dictOf (wd hsh tkn (.bool true) (.bool true) .none .none (.bool false) .none .none .none wr da de ns pm pr rs rd 0) ep),(out,listOf (strValues ol).toArray n2),(wr,Aj out),(dl,listOf #[] 0),(ns,listOf (nlv.map fun p=>Value.ref p.1).toArray nns),(pr,listOf (pre++[Value.bool pv]).toArray npr)]++tabs) s) (hh:A.handled=none) (zq:A.depth<800) (C116:CodeHd g 118 116) (hu:A.units<9000) (hT:Eo 116 ⟨136,71,136,96⟩ (Str.ofString "C14NWriterTarget._start.<locals>.<lambda>") tabs) (hat:g.get? at_=some (dictOf (Bg w.params l) na)) (hlz:l.length≤3) (hsys:(at_ == sysModules)=false) (hnd:(tag::l.map (·.1.1)).Nodup) (hng:∀ n∈tag::l.map (·.1.1),Di n=true∧known nps (cutName n).1) (hvl:∀ p∈l,p.2.1.length≤100∧(Ey p.2.1).length≤1000) (hDe:g.IsList de ((dlv++[(dl,(#[]:Array Value))]).map fun p=>Value.ref p.1).toArray) (hDl:∀ p∈dlv,g.IsList p.1 p.2) (hDz:∀ p∈dlv,(p.2.size:Int)<2 ^ 63) (hDp:All2 (Cg g) (comes dlv) lower) (hDn:lower.length<2900) (hDs:∀ q∈lower,q.1.length≤200∧q.2.length≤200) (hNl:∀ p∈nlv,g.IsList p.1 p.2∧(p.2.size:Int)<2 ^ 63) (hNp:All2 (Cg g) (comes nlv) nps) (hNe:∀ q∈nps,q.1.length≤100∧q.2.length≤200∧(Ey q.1).length≤1000) (hol:ol.length≤5000) (hl2:nlv.length≤1000) (hl3:pre.length≤1000) (zp:∀ p∈tabs,p.1∉[x,dx,out,wr,dl,ns,pr]) (nd:([x,dx,out,wr,dl,ns,pr]:List Addr).Nodup) (hN:∀ s' n3 n4 n5 nl ol2 itsd nd prs zt,ol2.map (·.1)=ol.map (·.1)++Cf (declare lower nps (Ax Bf (tag::l.map (·.1.1))) [] []).1 (declare lower nps (Ax Bf (tag::l.map (·.1.1))) [] []).2 tag (l.map fun p=>(p.1.1,p.2.1))→All2 (Ap prs) itsd.toList (declare lower nps (Ax Bf (tag::l.map (·.1.1))) [] []).1→Eo 116 ⟨136,71,136,96⟩ (Str.ofString "C14NWriterTarget._start.<locals>.<lambda>") zt→(∀ r∈prs++zt,r.1∉([x,dx,out,wr,dl,ns,pr]:List Addr)∧r.1≠nl)→nl∉([x,dx,out,wr,dl,ns,pr]:List Addr)→Ok g os ([(x,instObj 143 dx),(dx,dictOf (wd hsh tkn (.bool true) (.bool true) .none .none (.bool false) .none .none .none wr da de ns pm pr true rd 0) ep),(out,listOf (strValues ol2).toArray n3),(wr,Aj out),(dl,listOf itsd nd),(ns,listOf ((nlv.map fun p=>Value.ref p.1)++[Value.ref nl]).toArray n4),(nl,listOf #[] 0),(pr,listOf (pre++[Value.bool pv,Value.bool (Bt pv (l.map fun p=>(p.1.1,p.2.1)))]).toArray n5)]++(prs++zt)) s'→R (.ok (.ret .none)) s'),codeAny (model rw_dn0283_11.row.prog w) A (.call (.ref 119) ⟨[.ref x,.str tag tt,.ref at_,.ref dl],[]⟩) R s
theorem Ta:∀ {w A s g os p zw zr mg mb R x dx hsh tkn wr da de ns pm pr rs rd ep out n2 ol pre pv dl at_ nns npr na dlv nlv lower nps tag tt l tabs},Hu w A s g os p zw zr mg mb R x dx hsh tkn wr da de ns pm pr rs rd ep out n2 ol pre pv dl at_ nns npr na dlv nlv lower nps tag tt l tabs:=by
 refine @(Ab (Ao neW)<|@(Ab neI<|@(Ab neI<|@(Ab neI<|@(Ab neI<|@(Gm neI<|let_mvar% ?n:=(fun w A s g os p zw zr mg mb R x dx hsh tkn wr da de ns pm pr rs rd ep out n2 ol pre pv dl at_ nns npr na dlv nlv lower nps tag tt l tabs=>?_:∀ a b c d e f g h i j k l m n o p q r s t u v w x y z a1 b1 c1 d1 e1 f1 g1 h1 i1 j1 k1 l1 m1 n1 o1 p1,Hu a b c d e f g h i j k l m n o p q r s t u v w x y z a1 b1 c1 d1 e1 f1 g1 h1 i1 j1 k1 l1 m1 n1 o1 p1);?n _ _ _ _ _ _ _ _ _ _ _ _ _ _ _ _ _ _ _ _ _ _ _ _ _ _ _ _ _ _ _ _ _ _ _ _ _ _ _ _ _ _))))))
 intro X T H hh zq C116 hu hT hat hlz hsys hnd hng hvl hDe hDl hDz hDp hDn hDs hNl hNp hNe hol hl2 hl3 zp nd hN;revert X
 k_fill
 intro X
 refine' enter_c (fun y=>if y=Str.ofString "qname_text" then some (Value.none) else if y=Str.ofString "new_namespaces" then some (Value.ref dl) else if y=Str.ofString "attrs" then some (Value.ref at_) else if y=Str.ofString "tag" then some (Value.str tag tt) else none) H X T ?k6 ?k7 (Nat.lt_trans zq (by decide)) ?k9 ?kB ?kD ?km ?_ ?c1 ?c2 ?c3
 (case k6=>k_is)
 (case k7=>k_is)
 (case k9=>exact binds_K (X.keeps H.keep) rfl (by k_is) rfl rfl rfl)
 (case kB=>exact kindsX rfl)
 (case kD=>decide +kernel)
 (case km=>exact fun _=>rfl)
 (case c1=>exact rfl)
 (case c2=>exact rfl)
 (case c3=>exact rfl)
 k_whole
 with_reducible refine let_mvar% ?zq1:=(fun L' h1 k0 cells=>?_:Fa4 _);Bk neI (Ek:Tie _ (type_of% ?zq1)) (?zq1 _ _ _ _)
 intro F1 N1 Y1 l1
 refine Bw ?_;with_reducible refine let_mvar% ?zq36:=(fun Q9 E9=>?_:Fa2 _);Al neI (Bn:Tie _ (type_of% ?zq36)) (?zq36 _ _);intro hq9 he9
 have hy0:=CellsAre.two Y1
 revert hy0;refine Fw ?_;with_reducible refine let_mvar% ?zq2:=(fun oq o0=>?_:Fa2 _);Al neI (Bn:Tie _ (type_of% ?zq2)) (?zq2 _ _);rintro⟨rfl,hq0',hs0'⟩
 have hq0:oq.data=.cell none:=hq0';have hs0:o0.data=.cell (some (.ref x)):=hs0';clear Y1 hq0' hs0';refine ndk7 nd ?_;intro n_x_dx n_x_out n_x_wr n_x_dl n_x_ns n_x_pr n_dx_out n_dx_wr n_dx_dl n_dx_ns n_dx_pr n_out_wr n_out_dl n_out_ns n_out_pr n_wr_dl n_wr_ns n_wr_pr n_dl_ns n_dl_pr n_ns_pr;dsimp only [List.cons_append,List.nil_append] at N1
 (try k_fold)
 have hNq:∀ q∈nps,q.1.length≤200∧q.2.length≤200:=fun q hq=>⟨Nat.le_trans (hNe q hq).1 (by decide),(hNe q hq).2.1⟩
 have hnd2:(l.map (·.1.1)).Nodup:=(List.nodup_cons.mp hnd).2
 have hdis:∀ p∈l,p.1.1≠tag:=fun p hp e=>(List.nodup_cons.mp hnd).1 (e ▸ List.mem_map_of_mem (f:=fun x:(Str × Tok) × (Str × Tok)=>x.1.1) hp)
 repeat' (first
    | ((with_reducible show wpAny _ _ (eval (Expr.Set _ _ _) _) _ _ _);(rename Fr ..=>F9);(rename News ..=>N9);refine Yl (tag:=tag) (tt:=tt) (d:=at_) (n:=na) (l:=l) hh F9 N9 X (by rfl) (fun s' Q' F h=>nameX_L F rfl h rfl rfl) (fun s' Q' F h=>nameX_L F rfl h rfl rfl) (F9.keep _ _ hat) hnd2 hdis hlz hsys ?_;clear F9 N9;with_reducible refine let_mvar% ?zq3:=(fun qs oS h9 tk9=>?_:Fa4 _);Bk neI (Ek:Tie _ (type_of% ?zq3)) (?zq3 _ _ _ _);intro F9 N9 l9 hTS;(try dsimp only))
    | ((fail_if_success (with_reducible show wpAny _ _ (storeName _ (Str.ofString "parse_qname") (Value.ref _)) _ _ _));walk_at "go"))
 rename_i rn hb0 orn lo0 hs1 fs1 hi1 fi1 lrn hc0 hd0 qm h6 F6 N6 l6
 revert qm h6;with_reducible refine let_mvar% ?zq4:=(fun qm h6=>?_:Fa2 _);Al neI (Bn:Tie _ (type_of% ?zq4)) (?zq4 _ _);intro F6 N6 l6
 have low:∀ q∈WQ x dx hsh tkn wr da de ns pm pr rs rd ep dl (#[]:Array Value) 0++([(out,listOf (strValues ol).toArray n2),(wr,Aj out),(ns,listOf (nlv.map fun p=>Value.ref p.1).toArray nns),(pr,listOf (pre++[Value.bool pv]).toArray npr)]++tabs),q.1<L':=by
  repeat' (first | with_reducible exact List.forall_mem_nil _ | with_reducible refine Fp ?_ ?_ | with_reducible refine Fc ?_ ?_ | exact l1 _ (by walk_at "l_in") | exact fun q hq=>l1 q (by walk_at "l_in"))
 have gq:L'<qs:=Nat.lt_trans (Nat.lt_succ_of_lt (Nat.lt_succ_self L')) (l9 (L'+1+1,oq) (by k_mem))
 have gr:L'<rn:=Nat.lt_trans gq lrn.1;have gm:L'<qm:=Nat.lt_trans gr l6.1
 have cq:L'+1+1<qs:=l9 (L'+1+1,oq) (by k_mem)
 have cr:L'+1+1<rn:=Nat.lt_trans cq lrn.1;have cm:L'+1+1<qm:=Nat.lt_trans cr l6.1
 have N7:News g L' h6 ((L'+1+1,oq)::((qm,methodObj (.ref 83) (.ref x))::(rn,orn)::(qs,oS)::(L'+1,o0)::(WQ x dx hsh tkn wr da de ns pm pr rs rd ep dl (#[]:Array Value) 0++([(out,listOf (strValues ol).toArray n2),(wr,Aj out),(ns,listOf (nlv.map fun p=>Value.ref p.1).toArray nns),(pr,listOf (pre++[Value.bool pv]).toArray npr)]++tabs)))):=News.sub N6 (by
  walk_at "l_sub")
 refine storeX_C (c:=L'+1+1) F6 N7 rfl (.head ?_) hq0 ?_ rfl rfl
 ·exact Fc (Nat.ne_of_gt cm) (Fc (Nat.ne_of_gt cr) (Fc (Nat.ne_of_gt cq) (Fc (Nat.ne_of_lt (Nat.lt_succ_self _)) (fun q hq=>Nat.ne_of_lt (Nat.lt_trans (low q hq) (Nat.lt_succ_of_lt (Nat.lt_succ_self _)))))))
 with_reducible refine let_mvar% ?zq5:=(fun h8 oc=>?_:Fa2 _);Al neI (Bn:Tie _ (type_of% ?zq5)) (?zq5 _ _);intro F8 N8 hoc
 clear N7 N6 F6;dsimp only
 refine wpAny_execs_cons (Ud (by rfl) (by rfl) (fun _=>rfl) ?_)
 have h116:∀ q∈WQ x dx hsh tkn wr da de ns pm pr rs rd ep dl (#[]:Array Value) 0++([(out,listOf (strValues ol).toArray n2),(wr,Aj out),(ns,listOf (nlv.map fun p=>Value.ref p.1).toArray nns),(pr,listOf (pre++[Value.bool pv]).toArray npr)]++[(L'+1+1,oc),(qm,methodObj (.ref 83) (.ref x)),(rn,orn),(qs,oS),(L'+1,o0)]),q.1≠116:=by
  have hin:∃ o,((116:Addr),o)∈tabs:=by
   rcases hT with rfl | ⟨c',o',vs,t,rfl,_⟩
   ·exact⟨_,.head _⟩
   ·exact⟨_,.head _⟩
  obtain⟨o116,hin⟩:=hin;have hnot:=zp _ hin;have hlt:(116:Addr)<L':=low (116,o116) (Mr _ (Mr _ hin))
  have hx:∀ a∈[x,dx,out,wr,dl,ns,pr],a≠116:=fun a ha e=>hnot (e ▸ ha)
  refine Fp (Fc (hx _ (by k_mem)) (Fc (hx _ (by k_mem)) (Fc (hx _ (by k_mem)) (List.forall_mem_nil _)))) (Fp (Fc (hx _ (by k_mem)) (Fc (hx _ (by k_mem)) (Fc (hx _ (by k_mem)) (Fc (hx _ (by k_mem)) (List.forall_mem_nil _))))) (Fc (Nat.ne_of_gt (Nat.lt_trans hlt (Nat.lt_succ_of_lt (Nat.lt_succ_self _)))) (Fc (Nat.ne_of_gt (Nat.lt_trans hlt gm)) (Fc (Nat.ne_of_gt (Nat.lt_trans hlt gr)) (Fc (Nat.ne_of_gt (Nat.lt_trans hlt gq)) (Fc (Nat.ne_of_gt (Nat.lt_trans hlt (Nat.lt_succ_self _))) (List.forall_mem_nil _)))))))
 repeat' (first
    | ((with_reducible show wpAny _ _ (eval (Expr.Lambda _ _ _ _) _) _ _ _);refine Xt (P:=116) (c:=118) (tabs:=tabs) (rest:=WQ x dx hsh tkn wr da de ns pm pr rs rd ep dl (#[]:Array Value) 0++([(out,listOf (strValues ol).toArray n2),(wr,Aj out),(ns,listOf (nlv.map fun p=>Value.ref p.1).toArray nns),(pr,listOf (pre++[Value.bool pv]).toArray npr)]++[(L'+1+1,oc),(qm,methodObj (.ref 83) (.ref x)),(rn,orn),(qs,oS),(L'+1,o0)])) F8 (News.sub N8 ?nsub) T C116 rfl hT h116 rfl rfl (by rfl) rfl ?lamk)
    | ((fail_if_success (with_reducible show wpAny _ _ (eval (Expr.Lambda _ _ _ _) _) _ _ _));walk_at "go"))
 case nsub =>
  walk_at "l_sub"
 case lamk =>
  with_reducible refine let_mvar% ?zq6:=(fun f zt nl h10 tk10=>?_:Fa5 _);Ee neI (Lm:Tie _ (type_of% ?zq6)) (?zq6 _ _ _ _ _);intro hT' hLI hd1 hd2 F10 N10
  clear N8 F8
  repeat' (first
    | ((with_reducible show wpAny _ _ (call (Value.builtin "sorted") _ _) _ _ _);refine Ui (a:=qs) (oS:=oS) (ks:=(l.map (·.1.1)).reverse++[tag]) hh T.nolimit (Nat.lt_of_lt_of_le (Nat.succ_lt_succ zq) (by decide)) ?hu F10 N10 hLI ?hm hTS ?h1 ?h4 ?hx ?sk)
    | ((fail_if_success (with_reducible show wpAny _ _ (call (Value.builtin "sorted") _ _) _ _ _));walk_at "go"))
  case hu=>show A.units+3+2<cLine;rw [cLine_is];exact(Nt fun hn1=>fk [_] (.e (.s V0) (.k 9000) (.e (.k 9900) (.a (.a V0 (.k 3)) (.k 2)) K0)) rfl hu hn1)
  case hm=>first | k_mem | simp
  case h1=>first | rfl | simp
  case h4=>simp;exact hlz
  case hx =>
   intro n hn
   have hn':n∈tag::l.map (·.1.1):=by
    rcases List.mem_append.mp hn with z | z
    ·exact .tail _ (List.mem_reverse.mp z)
    ·rw [List.mem_singleton.mp z];exact .head _
   exact Nat.le_trans (Dd (hng n hn').1).2.1 (by decide)
  case sk =>
   with_reducible refine let_mvar% ?zq7:=(fun D1 outn c1=>?_:Fa3 _);Am neI (Bu:Tie _ (type_of% ?zq7)) (?zq7 _ _ _);with_reducible refine let_mvar% ?zq8:=(fun s11=>?_:Fa _);Bo neS (tie:Tie _ (type_of% ?zq8)) (?zq8 _);intro g11 o11 hout hltD F11 N11
   clear N10 F10;have hks:Ax Bf ((l.map (·.1.1)).reverse++[tag])=Ax Bf (tag::l.map (·.1.1)):=Iw Dt ((An _ _).trans ((List.perm_append_comm (l₂:=[tag])).trans ((List.reverse_perm _).cons tag))) (Ej Dt _);rw [hks] at hout
   have hperm:(outn.map (·.1)).Perm (tag::l.map (·.1.1)):=by rw [hout];exact An _ _
   have htmp:∀ q∈(D1,listOf (strValues outn).toArray c1)::(nl++(zt++[(L'+1+1,oc),(qm,methodObj (.ref 83) (.ref x)),(rn,orn),(qs,oS),(L'+1,o0)])),∀ r∈WQ x dx hsh tkn wr da de ns pm pr rs rd ep dl (#[]:Array Value) 0++[(out,listOf (strValues ol).toArray n2),(wr,Aj out),(ns,listOf (nlv.map fun p=>Value.ref p.1).toArray nns),(pr,listOf (pre++[Value.bool pv]).toArray npr)],q.1≠r.1:=by
    intro q hq r hr
    have hrr:r∈WQ x dx hsh tkn wr da de ns pm pr rs rd ep dl (#[]:Array Value) 0++([(out,listOf (strValues ol).toArray n2),(wr,Aj out),(ns,listOf (nlv.map fun p=>Value.ref p.1).toArray nns),(pr,listOf (pre++[Value.bool pv]).toArray npr)]++[(L'+1+1,oc),(qm,methodObj (.ref 83) (.ref x)),(rn,orn),(qs,oS),(L'+1,o0)]):=by
     rcases List.mem_append.mp hr with z | z
     ·exact Ml _ z
     ·exact Mr _ (Ml _ z)
    have hrl:r.1<L':=low r (by
     rcases List.mem_append.mp hr with z | z
     ·exact Ml _ z
     ·exact Mr _ (Ml _ z))
    rcases List.mem_cons.mp hq with rfl | hq
    ·exact Nat.ne_of_gt (hltD r (Mr _ (Mr _ hrr)))
    ·rcases List.mem_append.mp hq with hq | hq
     ·exact hd1 q hq r (Mr _ hrr)
     ·rcases List.mem_append.mp hq with hq | hq
      ·rcases hd2 r hrr q (Mr _ hq) with z | z | z
       ·rw [z];exact Ne.symm (h116 r hrr)
       ·exact Nat.ne_of_gt z
       ·have hz:=zp q z
        intro e;rw [e] at hz
        exact hz ((Fp (p:=fun r:Addr × Obj=>r.1∈[x,dx,out,wr,dl,ns,pr]) (Fc (.head _) (Fc (.tail _ (.head _)) (Fc (.tail _ (.tail _ (.tail _ (.tail _ (.head _))))) (List.forall_mem_nil _)))) (Fc (.tail _ (.tail _ (.head _))) (Fc (.tail _ (.tail _ (.tail _ (.head _)))) (Fc (.tail _ (.tail _ (.tail _ (.tail _ (.tail _ (.head _)))))) (Fc (.tail _ (.tail _ (.tail _ (.tail _ (.tail _ (.tail _ (.head _))))))) (List.forall_mem_nil _)))))) r hr)
      ·exact(List.forall_mem_cons (p:=fun q:Addr × Obj=>q.1≠r.1)).mpr ⟨Nat.ne_of_gt (Nat.lt_trans hrl (Nat.lt_succ_of_lt (Nat.lt_succ_self _))),Fc (Nat.ne_of_gt (Nat.lt_trans hrl gm)) (Fc (Nat.ne_of_gt (Nat.lt_trans hrl gr)) (Fc (Nat.ne_of_gt (Nat.lt_trans hrl gq)) (Fc (Nat.ne_of_gt (Nat.lt_trans hrl (Nat.lt_succ_self _))) (List.forall_mem_nil _))))⟩ q hq
   have N12:News g L' s11.heap (WQ x dx hsh tkn wr da de ns pm pr rs rd ep dl (#[]:Array Value) 0++([(out,listOf (strValues ol).toArray n2),(wr,Aj out),(ns,listOf (nlv.map fun p=>Value.ref p.1).toArray nns),(pr,listOf (pre++[Value.bool pv]).toArray npr)]++((D1,listOf (strValues outn).toArray c1)::(nl++(zt++[(L'+1+1,oc),(qm,methodObj (.ref 83) (.ref x)),(rn,orn),(qs,oS),(L'+1,o0)]))))):=News.sub N11 (by
    walk_at "l_sub")
   clear N11
   refine Sb (qm:=qm) (c:=L'+1+1) (oc1:=oc) (nns:=nns) (c1:=c1) (nd0:=0) (dlv:=dlv) (nlv:=nlv) (lower:=lower) (nps:=nps) (O4:=[(out,listOf (strValues ol).toArray n2),(wr,Aj out),(ns,listOf (nlv.map fun p=>Value.ref p.1).toArray nns),(pr,listOf (pre++[Value.bool pv]).toArray npr)]) (tmp:=(D1,listOf (strValues outn).toArray c1)::(nl++(zt++[(L'+1+1,oc),(qm,methodObj (.ref 83) (.ref x)),(rn,orn),(qs,oS),(L'+1,o0)]))) (outn:=outn) (L:=L') (os:=os) X T ?hh9 ?hrm9 ?r1 ?r2 ?r3 ?r4 ?r5 ?r6 hDe hDl hDz hDp hDn hDs (by simp) hNl hNp hNq n_x_dl n_dx_dl ?hrest (.head _) (by simp) hoc (by simp) ?hol ?hnodup ?hng F11 N12 (o11.trans H.os) (by rw [g11];exact H.bare) ?fin
   case hh9=>exact hh
   case r1=>rfl
   case r2=>rfl
   case r3=>exact fun _=>rfl
   case r4=>exact fun _=>rfl
   case r5=>rfl
   case r6=>rfl
   case hrm9=>show A.depth+1<900;exact(Nt fun hn1=>fk [_] (.e (.s V0) (.k 800) (.e (.k 900) (.s V0) K0)) rfl zq hn1)
   case hrest=>exact Fp (Fc ⟨Ne.symm n_x_out,Ne.symm n_dx_out,n_out_dl⟩ (Fc ⟨Ne.symm n_x_wr,Ne.symm n_dx_wr,n_wr_dl⟩ (Fc ⟨Ne.symm n_x_ns,Ne.symm n_dx_ns,Ne.symm n_dl_ns⟩ (Fc ⟨Ne.symm n_x_pr,Ne.symm n_dx_pr,Ne.symm n_dl_pr⟩ (List.forall_mem_nil _))))) fun q hq=>⟨htmp q hq (x,_) (Ml _ (.head _)),htmp q hq (dx,_) (Ml _ (.tail _ (.head _))),htmp q hq (dl,_) (Ml _ (.tail _ (.tail _ (.head _))))⟩
   case hol=>have:=hperm.length_eq;simp at this;exact(Nl fun hn1=>fk [_,_] (.e V0 (.k 3) (.e V1 (.s V0) (.e (.s (.k 40)) V1 K0))) rfl hlz (El this) hn1)
   case hnodup=>exact hperm.nodup_iff.mpr hnd
   case hng=>exact fun n hn=>hng n (hperm.mem_iff.mp hn)
   case fin =>
    with_reducible refine let_mvar% ?zq9:=(fun s12 Dp oD itsd nd kvs tups prs=>?_:Fa8 _);Fs Cb (Qn:Tie _ (type_of% ?zq9)) (?zq9 _ _ _ _ _ _ _ _);intro hits hdD hkv hfr F12 N13 o12 b12
    clear N12;rw [hout] at hits hkv;have hy_dd:∃ dd,(declare lower nps (Ax Bf (tag::l.map (·.1.1))) [] [])=dd:=⟨_,rfl⟩
    revert hy_dd;refine exi ?_;with_reducible refine let_mvar% ?zq10:=(fun dd=>?_:Fa _);Bo neI (tie:Tie _ (type_of% ?zq10)) (?zq10 _);intro hlv;rw [hlv] at hits hkv
    dsimp only
    have hsz:itsd.size=dd.1.length:=by rw [← hits.length];simp
    have hddl:dd.1.length≤4:=by
     have:=(Cd lower nps (Ax Bf (tag::l.map (·.1.1))) [] [] (fun n hn=>(hng n ((An _ _).mem_iff.mp hn)).2)).2.2
     rw [hlv] at this;have h2:=(An Bf (tag::l.map (·.1.1))).length_eq
     simp at this h2
     exact(Nl fun hn1=>fk [_,_,_] (.e V0 (.k 3) (.e V1 V2 (.e V2 (.s V0) (.e (.s (.k 4)) V1 K0)))) rfl hlz this (El h2) hn1)
    have hddq:∀ q∈dd.1,q∈nps:=fun q hq=>by
     have:=(Cd lower nps (Ax Bf (tag::l.map (·.1.1))) [] [] (fun n hn=>(hng n ((An _ _).mem_iff.mp hn)).2)).2.1
     rw [hlv] at this
     rcases this q hq with z | z
     ·exact nomatch z
     ·exact z
    have hdps:∀ n pp,dd.2.lookup n=some pp→pp.2.2.length≤200∧pp.2.1.length≤200∧pp.1.length≤500:=fun n pp hpp=>by
     have h3:=Lw lower nps (fun q hq=>(hDs q hq).2) (fun q hq=>(hNq q hq).2) (Ax Bf (tag::l.map (·.1.1))) [] [] (fun _ z=>nomatch z) (fun n hn=>(Dd (hng n ((An _ _).mem_iff.mp hn)).1).2.2.2) (n,pp) (by rw [hlv];exact mem_lookup hpp)
     rcases h3 with z | ⟨z1,z2,z3,z4⟩
     ·exact nomatch z
     ·have hg9:=Dd (hng n ((An _ _).mem_iff.mp z1)).1
      simp only at z2 z3 z4
      rw [z2,z3];exact⟨hg9.2.2.1,hg9.2.2.2,z4⟩
    have hy_base:∃ base,(WQ x dx hsh tkn wr da de ns pm pr rs rd ep dl itsd nd++([(out,listOf (strValues ol).toArray n2),(wr,Aj out),(ns,listOf (nlv.map fun p=>Value.ref p.1).toArray nns),(pr,listOf (pre++[Value.bool pv]).toArray npr)]++((Dp,oD)::(tups++(prs++((D1,listOf (strValues outn).toArray c1)::(nl++(zt++[(L'+1+1,oc),(qm,methodObj (.ref 83) (.ref x)),(rn,orn),(qs,oS),(L'+1,o0)]))))))))=base:=⟨_,rfl⟩
    revert hy_base;refine exi ?_;with_reducible refine let_mvar% ?zq11:=(fun base=>?_:Fa _);Bo neI (tie:Tie _ (type_of% ?zq11)) (?zq11 _);intro hbase;rw [hbase] at N13
    have hprb:∀ q∈prs,q∈base:=fun q hq=>by rw [← hbase];walk_at "l_in"
    have hdlb:(dl,listOf itsd nd)∈base:=by rw [← hbase];walk_at "l_in"
    refine' wpAny_execs_cons (Ds (R:=fun s'=>∃ Da itsA nA tl,All2 (Ap (tl++base)) itsA.toList (Ax Cc (dd.1.map Cm))∧(∀ q∈tl,q.1≠Da∧∀ r∈base,q.1≠r.1)∧(∀ r∈base,Da≠r.1)∧Fr g L' s'.heap (fun y=>if y=Str.ofString "attr_list" then some (.ref Da) else if y=Str.ofString "parsed_qnames" then some (.ref Dp) else if y=Str.ofString "qattrs" then some .none else if y=Str.ofString "resolved_names" then some (.ref rn) else if y=Str.ofString "qnames" then some (.ref qs) else if y=Str.ofString "qname_text" then some (Value.none) else if y=Str.ofString "new_namespaces" then some (Value.ref dl) else if y=Str.ofString "attrs" then some (Value.ref at_) else if y=Str.ofString "tag" then some (Value.str tag tt) else none)∧News g L' s'.heap ((Da,listOf itsA nA)::(tl++base))∧s'.os=os∧AllBare s'.gens) ?c1 ?c2)
    case c1 =>
     repeat' (first
      | ((with_reducible show wpAny _ _ (truthy (Value.ref dl)) _ _ _);refine wpAny_truthy_list ⟨_,(N13 _ hdlb).1,rfl,_,rfl⟩ (Fj (by rw [hsz,sizeLine_eq];exact(Nl fun hn1=>fk [_] (.e V0 (.k 4) (.e (.s (.k 16777216)) V0 K0)) rfl hddl hn1))) ?_;(try dsimp only))
      | ((with_reducible show (if _ then _ else _));refine Bb ?_ ?_<;>intro hq)
      | ((fail_if_success (with_reducible show wpAny _ _ (execs (Stmt.Assign _ _ _::_) _) _ _ _));walk_at "go"))
     (try any_goals (exact Str.empty))
     (try any_goals (exact Value.none))
     (try any_goals (exact L'))
     ·refine wpAny_execs_cons (ns_stmt (cl:=[]) (s:={ s12 with toks:=s12.toks+1+1 }) (ax:=dl) (its:=itsd) (lv:=dd.1) (prs:=prs) (base:=base) (os:=os) (L:=L') X T ?hh8 ?r1 ?r2 ?r3 ?r4 ?r5 ?r6 ?hit F12 N13 o12 b12 ⟨_,hdlb⟩ hprb hits (by exact(Nl fun hn1=>fk [_] (.e V0 (.k 4) (.e (.s (.k 50)) V0 K0)) rfl hddl hn1)) (fun q hq=>(hNq q (hddq q hq)).2) ?fin8)
      case hh8=>exact hh
      case r1=>rfl
      case r2=>rfl
      case r3=>rfl
      case r4=>exact fun _=>rfl
      case r5=>rfl
      case r6=>rfl
      case hit=>exact fun Q' hQ=>nameX_L F12 rfl hQ rfl rfl
      case fin8 =>
       with_reducible refine let_mvar% ?zq15:=(fun s14 Da ys tl=>?_:Fa4 _);Bk Cb (Ek:Tie _ (type_of% ?zq15)) (?zq15 _ _ _ _);intro hys ht1 ht2 F14 N14 o14 b14
       dsimp only
       repeat' (first
        | ((with_reducible show wpAny _ _ (call (Value.builtin "list.sort") _) _ _ _);refine Tl (D:=Da) (vs:=ys) (news:=tl++base) F14 N14 (fun q hq=>?hne) (hys.mono fun _ _ z=>z.mono fun _ hq=>Ml _ hq) ?hy4 ?sk8)
        | ((fail_if_success (with_reducible show wpAny _ _ (call (Value.builtin "list.sort") _) _ _ _));walk_at "go"))
       (try any_goals (exact Str.empty))
       (try any_goals (exact Value.none))
       (try any_goals (exact L'))
       case hne =>
        rcases List.mem_append.mp hq with z | z
        ·exact(ht1 q z).1
        ·exact Ne.symm (ht2 q z)
       case hy4=>have:=hys.length;rw [List.length_map] at this;exact(Nl fun hn1=>fk [_,_] (.e V0 (.k 4) (.e V1 V0 (.e (.s (.k 4)) V1 K0))) rfl hddl (El this) hn1)
       case sk8 =>
        with_reducible refine let_mvar% ?zq16:=(fun out8 c8 h15=>?_:Fa3 _);Am neI (Bu:Tie _ (type_of% ?zq16)) (?zq16 _ _ _);intro ho8 F15 N15
        repeat' ((fail_if_success (with_reducible show Flow.next=_∧_));walk_at "go")
        exact⟨rfl,Da,out8.toArray,c8,tl,by simpa using ho8,ht1,ht2,F15,N15,o14,b14⟩
     ·have hemp:dd.1=[]:=by
       have hq':itsd.isEmpty=true:=by simpa using hq
       have:itsd.size=0:=by simpa [Array.isEmpty] using hq'
       exact List.eq_nil_of_length_eq_zero (by exact(Nat.le_antisymm (Nl fun hn2=>fk [_,_] (.e V0 V1 (.e V1 K0 (.e (.s K0) V0 K0))) rfl (Es hsz) (El this) hn2) (Nl fun hn3=>fk [_] (.e (.s V0) K0 K0) rfl hn3)))
      repeat' ((fail_if_success (with_reducible show Flow.next=_∧_));walk_at "go")
      (try any_goals (exact Str.empty))
      (try any_goals (exact Value.none))
      (try any_goals (exact L'))
      rename_i Da hA lA hB F15 N15
      exact⟨rfl,Da,#[],0,[],by rw [hemp];exact .nil,(fun _ z=>nomatch z),(fun r hr=>Nat.ne_of_gt (lA r hr)),F15,N15,o12,b12⟩
    refine exs4 ?_;with_reducible refine let_mvar% ?zq38:=(fun s15 Da itsA nA tl=>?_:Fa5 _);Ee Cb (Lm:Tie _ (type_of% ?zq38)) (?zq38 _ _ _ _ _);rintro⟨hA,ht1,ht2,F15,N15,o15,b15⟩
    clear F12 N13
    (try dsimp only)
    have hdat:∀ (h:Heap),(∀ b o,g.get? b=some o→h.get? b=some o)→h.DictOf (PySem.strKind rw_dn0283_11.row.prog w) at_ (Ff l):=fun h hk=>Heap.dictOf_iff.mpr ⟨_,hk _ _ hat,Jm hnd2⟩
    rw [Us (a:=Str.ofString "k") (b:=Str.ofString "v") (c:=Str.ofString "attr_qname") (d:=Str.ofString "attr_name") (e:=Str.ofString "uri") (m0:=(fun y=>if y=Str.ofString "attr_list" then some (Value.ref Da) else if y=Str.ofString "parsed_qnames" then some (Value.ref Dp) else if y=Str.ofString "qattrs" then some Value.none else if y=Str.ofString "resolved_names" then some (Value.ref rn) else if y=Str.ofString "qnames" then some (Value.ref qs) else if y=Str.ofString "qname_text" then some (Value.none) else if y=Str.ofString "new_namespaces" then some (Value.ref dl) else if y=Str.ofString "attrs" then some (Value.ref at_) else if y=Str.ofString "tag" then some (Value.str tag tt) else none)) rfl rfl rfl rfl rfl] at F15
    refine' wpAny_execs_cons (Ds (R:=fun s'=>∃ itsB nB tlB u1 u2 u3 u4 u5,All2 (Ap (tlB++base)) itsB.toList (Bi dd.1 dd.2 (l.map fun p=>(p.1.1,p.2.1)))∧(∀ q∈tlB,q.1≠Da∧∀ r∈base,q.1≠r.1)∧Fr g L' s'.heap (m5 (Str.ofString "k") (Str.ofString "v") (Str.ofString "attr_qname") (Str.ofString "attr_name") (Str.ofString "uri") (fun y=>if y=Str.ofString "attr_list" then some (Value.ref Da) else if y=Str.ofString "parsed_qnames" then some (Value.ref Dp) else if y=Str.ofString "qattrs" then some Value.none else if y=Str.ofString "resolved_names" then some (Value.ref rn) else if y=Str.ofString "qnames" then some (Value.ref qs) else if y=Str.ofString "qname_text" then some (Value.none) else if y=Str.ofString "new_namespaces" then some (Value.ref dl) else if y=Str.ofString "attrs" then some (Value.ref at_) else if y=Str.ofString "tag" then some (Value.str tag tt) else none) u1 u2 u3 u4 u5)∧News g L' s'.heap ((Da,listOf itsB nB)::(tlB++base))∧s'.os=os∧AllBare s'.gens) ?d1 ?d2)
    case d1 =>
     repeat' (first
      | ((with_reducible show wpAny _ _ (truthy (Value.ref at_)) _ _ _);refine wpAny_truthy_dict hsys (hdat _ F15.keep) (Fj (by rw [List.length_map,sizeLine_eq];exact(Nl fun hn1=>fk [_] (.e V0 (.k 3) (.e (.s (.k 16777216)) V0 K0)) rfl hlz hn1))) ?_;(try dsimp only))
      | ((with_reducible show (if _ then _ else _));refine Bb ?_ ?_<;>intro hq)
      | ((fail_if_success (with_reducible show wpAny _ _ (execs (Stmt.For _ _ _ _ _::_) _) _ _ _));(fail_if_success (with_reducible show Flow.next=_∧_));walk_at "go"))
     (try any_goals (exact Str.empty))
     (try any_goals (exact Value.none))
     (try any_goals (exact L'))
     ·refine wpAny_execs_cons (For_ (fun _=>rfl) ?_)
      repeat' (first
       | ((with_reducible show wpAny _ _ (getMethod (Value.ref at_) (Str.ofString "items") _) _ _ _);refine Jn (l:=l) (n:=na) (F15.keep _ _ hat) ?_;(try dsimp only))
       | ((with_reducible show wpAny _ _ (call (Value.builtin "dict.items") _) _ _ _);(try dsimp only);refine Sv (l:=l) (n:=na) F15 N15 (F15.keep _ _ hat) hnd2 hsys ?_;clear F15 N15;with_reducible refine let_mvar% ?zq17:=(fun vw h16=>?_:Fa2 _);Al neI (Bn:Tie _ (type_of% ?zq17)) (?zq17 _ _);intro F16 N16 l16 k16;(try dsimp only))
       | ((with_reducible show wpAny _ _ (call (Value.builtin "sorted") [Value.ref _]) _ _ _);refine Qi (l:=l) (n:=na) (d:=at_) ?hh16 F16 N16 (N16 _ (.head _)).1 (F16.keep _ _ hat) hnd2 (by exact(Nl fun hn1=>fk [_] (.e V0 (.k 3) (.e (.s (.k 4)) V0 K0)) rfl hlz hn1)) ?sk16)
       | ((fail_if_success (with_reducible show wpAny _ _ (call (Value.builtin "sorted") _) _ _ _));(fail_if_success (with_reducible show wpAny _ _ (call (Value.builtin "dict.items") _) _ _ _));walk_at "go"))
      (try any_goals (exact Str.empty))
      (try any_goals (exact Value.none))
      (try any_goals (exact L'))
      case hh16=>exact hh
      case sk16 =>
       with_reducible refine let_mvar% ?zq18:=(fun B tls outS cB h17 tk17=>?_:Fa6 _);Ew neI (Nx:Tie _ (type_of% ?zq18)) (?zq18 _ _ _ _ _ _);intro a1 a2 a3 a4 a5 a6 F17 N17
       have hy_base2:∃ base2,(B,listOf outS.toArray cB)::(tls++((vw,({ cls:=.type "dict_items",data:=.fields #[.ref at_] }:Obj))::(tl++base)))=base2:=⟨_,rfl⟩
       revert hy_base2;refine exi ?_;with_reducible refine let_mvar% ?zq12:=(fun base2=>?_:Fa _);Bo neI (tie:Tie _ (type_of% ?zq12)) (?zq12 _);intro hb2
       have hDb2:∀ r∈base2,Da≠r.1:=by
        intro r hr;rw [← hb2] at hr
        rcases List.mem_cons.mp hr with rfl | hr
        ·exact Nat.ne_of_lt (a5 (Da,listOf itsA nA) (.tail _ (.head _)))
        ·rcases List.mem_append.mp hr with hr | hr
         ·exact Nat.ne_of_lt (a4 (Da,listOf itsA nA) (.tail _ (.head _)) r hr)
         ·rcases List.mem_cons.mp hr with rfl | hr
          ·exact Nat.ne_of_lt (l16 (Da,listOf itsA nA) (.head _))
          ·rcases List.mem_append.mp hr with hr | hr
           ·exact Ne.symm (ht1 r hr).1
           ·exact ht2 r hr
       have N18:News g L' h17 ((Da,listOf itsA nA)::([]++base2)):=News.sub N17 (by
        rw [← hb2]
        exact Fc (by walk_at "l_in") (show ∀ q∈_++_,_ from by walk_at "l_sub"))
       have hsubB:∀ r∈tls++((vw,({ cls:=.type "dict_items",data:=.fields #[.ref at_] }:Obj))::(Da,listOf itsA nA)::(tl++base)),r∈(Da,listOf itsA nA)::base2:=by
        rw [← hb2]
        walk_at "l_sub"
       have notDa:∀ {v:Value} {q:Pr} {ll:List (Addr × Obj)},Ap ((Da,listOf itsA nA)::ll) v q→Ap ll v q:=fun⟨a',t1,t2,e,hm⟩=>by
        rcases List.mem_cons.mp hm with z | z
        ·exact absurd (congrArg (fun p:Addr × Obj=>p.2.cls) z) (by simp)
        ·exact⟨a',t1,t2,e,z⟩
       have houtP:All2 (Ap base2) outS (Ax Cc (l.map fun p=>(p.1.1,p.2.1))):=a6.mono fun _ _ z=>notDa (z.mono hsubB)
       have hAP:All2 (Ap base2) itsA.toList (Ax Cc (dd.1.map Cm)):=hA.mono fun _ _ z=>z.mono (by
        rw [← hb2]
        walk_at "l_sub")
       refine Gq (its:=outS.toArray) (ax:=B) (os:=os) (L:=L') (h₀:=g) (fun rem m own=>∃ q1 q2 itsB nB tlB u1 u2 u3 u4 u5,Ax Cc (l.map fun p=>(p.1.1,p.2.1))=q1++q2∧All2 (Ap base2) rem q2∧m=(m5 (Str.ofString "k") (Str.ofString "v") (Str.ofString "attr_qname") (Str.ofString "attr_name") (Str.ofString "uri") (fun y=>if y=Str.ofString "attr_list" then some (Value.ref Da) else if y=Str.ofString "parsed_qnames" then some (Value.ref Dp) else if y=Str.ofString "qattrs" then some Value.none else if y=Str.ofString "resolved_names" then some (Value.ref rn) else if y=Str.ofString "qnames" then some (Value.ref qs) else if y=Str.ofString "qname_text" then some (Value.none) else if y=Str.ofString "new_namespaces" then some (Value.ref dl) else if y=Str.ofString "attrs" then some (Value.ref at_) else if y=Str.ofString "tag" then some (Value.str tag tt) else none) u1 u2 u3 u4 u5)∧own=(Da,listOf itsB nB)::(tlB++base2) ∧
        All2 (Ap (tlB++base2)) itsB.toList (Ax Cc (dd.1.map Cm)++q1.map (Hx dd.2))∧(∀ q∈tlB,q.1≠Da∧∀ r∈base2,q.1≠r.1)) (Wz (Str.ofString "k") (Str.ofString "v")) ?hh17 ?hsrc ?hown ?hasg ?step ?done ⟨[],_,itsA,nA,[],none,none,none,none,none,rfl,by simpa using houtP,rfl,rfl,by simpa using hAP,fun _ z=>nomatch z⟩ F17 N18 o15 b15
       case hh17=>exact hh
       case hsrc =>
        rintro rem m own ⟨q1,q2,itsB,nB,tlB,u1,u2,u3,u4,u5,_,_,_,rfl,_⟩
        exact .inr ⟨_,.tail _ (Mr _ (by rw [← hb2];exact .head _)),rfl,_,rfl⟩
       case hown =>
        intro I i v s1 Q' E' hit hv hq';obtain⟨j,hj⟩:=List.mem_iff_getElem?.mp hv
        have hlt:j<(Ax Cc (l.map fun p=>(p.1.1,p.2.1))).length:=by
         rw [← houtP.length]
         rcases Nat.lt_or_ge j outS.length with z | z
         ·exact z
         ·rw [List.getElem?_eq_none (by simpa using z)] at hj;cases hj
        obtain⟨v',e,a',_,_,e2,_⟩:=houtP.get (List.getElem?_eq_getElem hlt)
        have:v=v':=by
         have hj':outS[j]?=some v:=by simpa using hj
         rw [hj'] at e;cases e;rfl
        rw [this,e2];exact wpAny_letOwnedTupleGo_listiter hit hq'
       case hasg =>
        rintro s1 v rem m own news Q' E' ⟨q1,q2,itsB,nB,tlB,u1,u2,u3,u4,u5,_,h2,_,rfl,_⟩ hsub F19 N19 hk
        cases h2 with
        | cons z _=>exact Xa hh (z.mono fun r hr=>.tail _ (Mr _ hr)) hsub F19 N19 hk rfl rfl rfl
       case step =>
        with_reducible refine let_mvar% ?zq19:=(fun s1 v rem m m' own I oI=>?_:Fa8 _);Fs Cb (Qn:Tie _ (type_of% ?zq19)) (?zq19 _ _ _ _ _ _ _ _);intro hJ9 hB9 F19 N19 off19 o19 b19
        refine Bw ?_;with_reducible refine let_mvar% ?zq37:=(fun Q8 E8=>?_:Fa2 _);Al neI (Bn:Tie _ (type_of% ?zq37)) (?zq37 _ _);intro hq8 he8
        revert hJ9;refine exi7 ?_;with_reducible refine let_mvar% ?zq20:=(fun q1 q2 itsB nB tlB u1 u2=>?_:Fa7 _);Dr neI (Kc:Tie _ (type_of% ?zq20)) (?zq20 _ _ _ _ _ _ _);refine Lz ?_;with_reducible refine let_mvar% ?zq21:=(fun u3 u4 u5=>?_:Fa3 _);Am neI (Bu:Tie _ (type_of% ?zq21)) (?zq21 _ _ _);rintro⟨e1,h2,rfl,rfl,hB,htB⟩
        revert hB9;refine Lz ?_;with_reducible refine let_mvar% ?zq22:=(fun q t1 t2=>?_:Fa3 _);Am neI (Bu:Tie _ (type_of% ?zq22)) (?zq22 _ _ _);rintro⟨hz9,rfl⟩;revert hz9;refine exi ?_;with_reducible refine let_mvar% ?zq23:=(fun a=>?_:Fa _);Bo neI (tie:Tie _ (type_of% ?zq23)) (?zq23 _);rintro⟨rfl,hm⟩
        cases h2 with
        | @cons _ q' _ q2' z h2' =>
         revert q' q2';show ∀ (q':Pr) (q2':List Pr),_;with_reducible refine let_mvar% ?zq24:=(fun q' q2'=>?_:Fa2 _);Al neI (Bn:Tie _ (type_of% ?zq24)) (?zq24 _ _);intro z h2' e1
         revert z;refine Lz ?_;with_reducible refine let_mvar% ?zq25:=(fun a' w1 w2=>?_:Fa3 _);Am neI (Bu:Tie _ (type_of% ?zq25)) (?zq25 _ _ _);rintro⟨ea,hma⟩
         cases ea
         have hqq:q=q':=by
          exact tup2_eq (N19 (a,_) (.tail _ hm)).1 (N19 (a,_) (.tail _ (.tail _ (Mr _ hma)))).1
         subst hqq
         have hqk:q.1∈tag::l.map (·.1.1):=by
          have:q∈l.map fun p=>(p.1.1,p.2.1):=(An Cc _).mem_iff.mp (by rw [e1];walk_at "l_in")
          obtain⟨p',hp',rfl⟩:=List.mem_map.mp this
          exact .tail _ (List.mem_map_of_mem (f:=fun x:(Str × Tok) × (Str × Tok)=>x.1.1) hp')
         have hy_pp:∃ pp,dd.2.lookup q.1=some pp:=by
          have h3:=(Cd lower nps (Ax Bf (tag::l.map (·.1.1))) [] [] (fun n hn=>(hng n ((An _ _).mem_iff.mp hn)).2)).1
          rw [hlv] at h3
          exact lookup_mem (by rw [h3];exact(An Bf _).mem_iff.mpr hqk)
         revert hy_pp;refine exi ?_;with_reducible refine let_mvar% ?zq26:=(fun pp=>?_:Fa _);Bo neI (tie:Tie _ (type_of% ?zq26)) (?zq26 _);intro hpp
         have hy_ta:=Dx.find hkv hpp
         revert hy_ta;refine Rb ?_;with_reducible refine let_mvar% ?zq28:=(fun ta y1 y2 y3=>?_:Fa4 _);Bk neI (Ek:Tie _ (type_of% ?zq28)) (?zq28 _ _ _ _);rintro⟨hval,htup⟩
         have hpu:pp.2.2.length≤200:=(hdps _ _ hpp).1
         have hbb:∀ r∈base,r∈(I,oI)::(Da,listOf itsB nB)::(tlB++base2):=fun r hr=>.tail _ (.tail _ (Mr _ (by rw [← hb2];walk_at "l_in")))
         have hDpb:(Dp,oD)∈base:=by rw [← hbase];walk_at "l_in"
         have htab:(ta,Ae #[.str pp.1 y1,.str pp.2.1 y2,.str pp.2.2 y3])∈base:=by rw [← hbase];walk_at "l_in"
         repeat' (first
          | ((with_reducible show wpAny _ _ (subscriptTail _ _ (Value.ref Dp) (Value.str _ _)) _ _ _);refine Ph (kvs:=kvs) (Heap.dictOf_iff.mpr ⟨oD,(N19 _ (hbb _ hDpb)).1,hdD⟩) hval ?_;(try dsimp only))
          | ((with_reducible show wpAny _ _ (assign (Expr.Tuple _ _ _) _ (Value.ref ta)) _ _ _);refine Cz hh F19 N19 ⟨_,(N19 _ (hbb _ htab)).1,rfl,_,rfl⟩ ?_ rfl rfl rfl rfl;clear F19 N19;with_reducible refine let_mvar% ?zq30:=(fun h20 tk20=>?_:Fa2 _);Al neI (Bn:Tie _ (type_of% ?zq30)) (?zq30 _ _);intro F20 N20;(try dsimp only))
          | ((with_reducible show wpAny _ _ (newTuple _) _ _ _);(rename Fr ..=>F9);(rename News ..=>N9);refine kup_newTuple F9 N9 ?_ (by rw [sizeLine_eq];exact Nat.le_of_ble_eq_true rfl);clear F9 N9;walk_at "eps2";rename_i D21 h21;intro F21 N21 hlt20;(try dsimp only))
          | ((fail_if_success (with_reducible show wpAny _ _ (call (Value.builtin "list.append") _) _ _ _));walk_at "go"))
         (try any_goals (exact Str.empty))
         (try any_goals (exact Value.none))
         (try any_goals (exact L'))
         all_goals
          rename_i hqq;have hIDa:I≠Da:=Ne.symm (off19 (Da,listOf itsB nB) (.head _))
          have hDaR:∀ r∈tlB++base2,r.1≠Da:=fun r hr=>by
           rcases List.mem_append.mp hr with z | z
           ·exact(htB r z).1
           ·exact Ne.symm (hDb2 r z)
          have hszB:itsB.size=(Ax Cc (dd.1.map Cm)).length+q1.length:=by
           have:=hB.length
           simp only [Array.length_toList,List.length_append,List.length_map] at this
           exact this
          have hq1l:q1.length≤3:=by
           have h5:=congrArg List.length e1
           have h6:=(An Cc (l.map fun p=>(p.1.1,p.2.1))).length_eq
           simp at h5 h6
           exact(Nl fun hn1=>fk [_,_,_,_] (.e V0 (.k 3) (.e (.a V1 (.s V2)) V3 (.e V3 V0 (.e (.s (.k 3)) V1 K0)))) rfl hlz (Es h5) (El h6) hn1)
          have hsl:(Ax Cc (dd.1.map Cm)).length≤4:=by
           rw [(An Cc (dd.1.map Cm)).length_eq,List.length_map];exact hddl
          refine append_K F21 N21 (.tail (Nat.ne_of_gt (hlt20 (Da,listOf itsB nB) (.tail _ (.head _)))) (.tail hIDa (.head hDaR))) ?_ (by rw [hszB,sizeLine_eq];exact(Nl fun hn1=>fk [_,_] (.e V0 (.k 3) (.e V1 (.k 4) (.e (.s (.k 16777216)) (.a V1 V0) K0))) rfl hq1l hsl hn1))
          walk_at "eps";rename_i h22;intro F22 N22
          repeat' ((fail_if_success (with_reducible show Q8 _ _));walk_at "go")
         ·have hatt:Hx dd.2 q=(pp.1,q.2):=by unfold Hx;rw [hpp];exact congrArg (·,q.2) (if_neg (He hqq))
          refine hq8 _ _ ?_
          (try dsimp only)
          refine⟨_,(Da,listOf (itsB.push (.ref D21)) (nB+1))::(((D21,Ae #[.str pp.1 y1,.str q.2 t2])::tlB)++base2),⟨q1++[q],q2',itsB.push (.ref D21),nB+1,(D21,Ae #[.str pp.1 y1,.str q.2 t2])::tlB,_,_,_,_,_,by rw [e1,List.append_assoc];rfl,h2',Ut,rfl,?_,?_⟩,F22,News.sub N22 ?_,?_,o19,b19⟩
          ·rw [Array.toList_push,List.map_append,← List.append_assoc]
           refine(hB.mono fun _ _ z=>z.mono fun r hr=>.tail _ hr).snoc ?_
           rw [hatt];exact⟨D21,y1,t2,rfl,.head _⟩
          ·intro r hr
           rcases List.mem_cons.mp hr with rfl | hr
           ·exact⟨Nat.ne_of_gt (hlt20 (Da,listOf itsB nB) (.tail _ (.head _))),fun r' hr'=>Nat.ne_of_gt (hlt20 r' (.tail _ (.tail _ (Mr _ hr'))))⟩
           ·exact htB r hr
          ·dsimp only [List.cons_append]
           walk_at "l_sub"
          ·intro r hr
           revert r hr
           exact Fc (off19 (Da,listOf itsB nB) (.head _)) (Fc (Nat.ne_of_gt (hlt20 (I,oI) (.head _))) (fun r hr=>off19 r (.tail _ hr)))
         ·have hatt:Hx dd.2 q=(pp.2.1,q.2):=by unfold Hx;rw [hpp];exact congrArg (·,q.2) (if_pos (Hb hqq))
          refine hq8 _ _ ?_
          (try dsimp only)
          refine⟨_,(Da,listOf (itsB.push (.ref D21)) (nB+1))::(((D21,Ae #[.str pp.2.1 y2,.str q.2 t2])::tlB)++base2),⟨q1++[q],q2',itsB.push (.ref D21),nB+1,(D21,Ae #[.str pp.2.1 y2,.str q.2 t2])::tlB,_,_,_,_,_,by rw [e1,List.append_assoc];rfl,h2',Ut,rfl,?_,?_⟩,F22,News.sub N22 ?_,?_,o19,b19⟩
          ·rw [Array.toList_push,List.map_append,← List.append_assoc]
           refine(hB.mono fun _ _ z=>z.mono fun r hr=>.tail _ hr).snoc ?_
           rw [hatt];exact⟨D21,y2,t2,rfl,.head _⟩
          ·intro r hr
           rcases List.mem_cons.mp hr with rfl | hr
           ·exact⟨Nat.ne_of_gt (hlt20 (Da,listOf itsB nB) (.tail _ (.head _))),fun r' hr'=>Nat.ne_of_gt (hlt20 r' (.tail _ (.tail _ (Mr _ hr'))))⟩
           ·exact htB r hr
          ·dsimp only [List.cons_append]
           walk_at "l_sub"
          ·intro r hr
           revert r hr
           exact Fc (off19 (Da,listOf itsB nB) (.head _)) (Fc (Nat.ne_of_gt (hlt20 (I,oI) (.head _))) (fun r hr=>off19 r (.tail _ hr)))
       case done =>
        rintro s1 m own ⟨q1,q2,itsB,nB,tlB,u1,u2,u3,u4,u5,e1,h2,rfl,rfl,hB,htB⟩ F19 N19 o19 b19
        cases h2
        rw [List.append_nil] at e1;dsimp only
        repeat' ((fail_if_success (with_reducible show Flow.next=_∧_));walk_at "go")
        have hb3:base2=((B,listOf outS.toArray cB)::(tls++((vw,({ cls:=.type "dict_items",data:=.fields #[.ref at_] }:Obj))::tl)))++base:=by rw [← hb2];simp
        refine⟨rfl,itsB,nB,tlB++((B,listOf outS.toArray cB)::(tls++((vw,({ cls:=.type "dict_items",data:=.fields #[.ref at_] }:Obj))::tl))),u1,u2,u3,u4,u5,?_,?_,F19,?_,o19,b19⟩
        ·rw [List.append_assoc,← hb3]
         unfold Bi;rw [e1];exact hB
        ·exact Fp (fun r hr=>⟨(htB r hr).1,fun r' hr'=>(htB r hr).2 r' (by rw [hb3];exact Mr _ hr')⟩) (Fc ⟨Nat.ne_of_gt (a5 (Da,listOf itsA nA) (.tail _ (.head _))),fun r' hr'=>Nat.ne_of_gt (a5 r' (.tail _ (.tail _ (Mr _ hr'))))⟩ (Fp (fun r hr=>⟨Nat.ne_of_gt (a4 (Da,listOf itsA nA) (.tail _ (.head _)) r hr),fun r' hr'=>Nat.ne_of_gt (a4 r' (.tail _ (.tail _ (Mr _ hr'))) r hr)⟩) (Fc ⟨Nat.ne_of_gt (l16 (Da,listOf itsA nA) (.head _)),fun r' hr'=>Nat.ne_of_gt (l16 r' (.tail _ (Mr _ hr')))⟩ ht1)))
        ·rw [List.append_assoc,← hb3];exact N19
     ·have hl0:l=[]:=by
       cases l with
       | nil=>rfl
       | cons _ _=>exact absurd rfl hq
      refine⟨rfl,itsA,nA,tl,none,none,none,none,none,?_,ht1,F15,N15,o15,b15⟩;rw [hl0];unfold Bi
      simpa [Ax] using hA
    refine exs8 ?_;with_reducible refine let_mvar% ?zq39:=(fun s16 itsB nB tlB u1 u2 u3=>?_:Fa7 _);Dr Cb (Kc:Tie _ (type_of% ?zq39)) (?zq39 _ _ _ _ _ _ _);with_reducible refine let_mvar% ?zq40:=(fun u4 u5=>?_:Fa2 _);Al neI (Bn:Tie _ (type_of% ?zq40)) (?zq40 _ _);rintro⟨hB,htB,F16,N16,o16,b16⟩
    clear F15 N15 ht1 hA
    (try dsimp only)
    have hW7:∀ r∈WQ x dx hsh tkn wr da de ns pm pr rs rd ep dl itsd nd++[(out,listOf (strValues ol).toArray n2),(wr,Aj out),(ns,listOf (nlv.map fun p=>Value.ref p.1).toArray nns),(pr,listOf (pre++[Value.bool pv]).toArray npr)],r.2.cls≠.type "tuple":=by
     repeat' (first | with_reducible exact List.forall_mem_nil _ | with_reducible refine Fp ?_ ?_ | with_reducible refine Fc ?_ ?_ | exact(by decide:(.ref 143:Value)≠.type "tuple") | exact(by decide:(.type "dict":Value)≠.type "tuple") | exact(by decide:(.type "list":Value)≠.type "tuple") | simp)
    have hoff:=fin_off (d:=(Da,listOf itsB nB)) hbase ht2 htB hfr htmp
    have N17:=fin_led (c:=(L'+1,o0)) hbase (by first | k_mem | simp) N16
    have hBr:=hB.mono fun _ _ z=>Uc (W:=WQ x dx hsh tkn wr da de ns pm pr rs rd ep dl itsd nd++[(out,listOf (strValues ol).toArray n2),(wr,Aj out),(ns,listOf (nlv.map fun p=>Value.ref p.1).toArray nns),(pr,listOf (pre++[Value.bool pv]).toArray npr)]) hW7 (by rw [← hbase,← List.append_assoc (WQ x dx hsh tkn wr da de ns pm pr rs rd ep dl itsd nd)] at z;exact z)
    have hal:=Ra (l:=l.map fun p=>(p.1.1,p.2.1)) hddq hNe (by
     intro q hq;obtain⟨p',hp',rfl⟩:=List.mem_map.mp hq
     exact⟨(hvl p' hp').1,(hvl p' hp').2,(Dd (hng _ (.tail _ (List.mem_map_of_mem (f:=fun x:(Str × Tok) × (Str × Tok)=>x.1.1) hp'))).1).2.1⟩) hdps
    have hall:(Bi dd.1 dd.2 (l.map fun p=>(p.1.1,p.2.1))).length≤50:=by rw [Le,List.length_map];exact(Nl fun hn1=>fk [_,_] (.e V0 (.k 3) (.e V1 (.k 4) (.e (.s (.k 50)) (.a V1 V0) K0))) rfl hlz hddl hn1)
    have hsub0:∀ r∈tlB++((Dp,oD)::(tups++(prs++((D1,listOf (strValues outn).toArray c1)::(nl++(zt++[(L'+1+1,oc),(qm,methodObj (.ref 83) (.ref x)),(rn,orn),(qs,oS),(L'+1,o0)])))))),r∈(Da,listOf itsB nB)::(tlB++((Dp,oD)::(tups++(prs++((D1,listOf (strValues outn).toArray c1)::(nl++(zt++[(L'+1+1,oc),(qm,methodObj (.ref 83) (.ref x)),(rn,orn),(qs,oS),(L'+1,o0)]))))))):=fun r hr=>.tail _ hr
    have hin1:(Da,listOf itsB nB)∈(Da,listOf itsB nB)::(tlB++((Dp,oD)::(tups++(prs++((D1,listOf (strValues outn).toArray c1)::(nl++(zt++[(L'+1+1,oc),(qm,methodObj (.ref 83) (.ref x)),(rn,orn),(qs,oS),(L'+1,o0)]))))))):=.head _;have hin2:(Dp,oD)∈(Da,listOf itsB nB)::(tlB++((Dp,oD)::(tups++(prs++((D1,listOf (strValues outn).toArray c1)::(nl++(zt++[(L'+1+1,oc),(qm,methodObj (.ref 83) (.ref x)),(rn,orn),(qs,oS),(L'+1,o0)]))))))):=.tail _ (Mr _ (.head _))
    have hin3:∀ r∈tups,r∈(Da,listOf itsB nB)::(tlB++((Dp,oD)::(tups++(prs++((D1,listOf (strValues outn).toArray c1)::(nl++(zt++[(L'+1+1,oc),(qm,methodObj (.ref 83) (.ref x)),(rn,orn),(qs,oS),(L'+1,o0)]))))))):=fun r hr=>.tail _ (Mr _ (.tail _ (Ml _ hr)))
    have hin4:∀ r∈prs++zt,r∈(Da,listOf itsB nB)::(tlB++((Dp,oD)::(tups++(prs++((D1,listOf (strValues outn).toArray c1)::(nl++(zt++[(L'+1+1,oc),(qm,methodObj (.ref 83) (.ref x)),(rn,orn),(qs,oS),(L'+1,o0)]))))))):=fun r hr=>by
     rcases List.mem_append.mp hr with z | z
     ·exact .tail _ (Mr _ (.tail _ (Mr _ (Ml _ z))))
     ·exact .tail _ (Mr _ (.tail _ (Mr _ (Mr _ (.tail _ (Mr _ (Ml _ z)))))))
    have hy_rest:∃ rest,(Da,listOf itsB nB)::(tlB++((Dp,oD)::(tups++(prs++((D1,listOf (strValues outn).toArray c1)::(nl++(zt++[(L'+1+1,oc),(qm,methodObj (.ref 83) (.ref x)),(rn,orn),(qs,oS),(L'+1,o0)])))))))=rest:=⟨_,rfl⟩
    revert hy_rest;refine exi ?_;with_reducible refine let_mvar% ?zq13:=(fun rest=>?_:Fa _);Bo neI (tie:Tie _ (type_of% ?zq13)) (?zq13 _);intro hrest9;rw [hrest9] at N17 hoff hsub0 hin1 hin2 hin3 hin4
    have hBr:=hBr.mono fun _ _ z=>z.mono hsub0
    clear N16 hW7 ht2 htB hfr htmp hB hsub0 hdlb hprb
    simp only [List.cons_append,List.nil_append] at N17
    have e_x:∀ r∈rest,r.1≠x:=fun r hr=>(hoff r hr).1
    have e_dx:∀ r∈rest,r.1≠dx:=fun r hr=>(hoff r hr).2.1
    have e_dl:∀ r∈rest,r.1≠dl:=fun r hr=>(hoff r hr).2.2.1
    have e_out:∀ r∈rest,r.1≠out:=fun r hr=>(hoff r hr).2.2.2.1
    have e_ns:∀ r∈rest,r.1≠ns:=fun r hr=>(hoff r hr).2.2.2.2.2.1
    have e_pr:∀ r∈rest,r.1≠pr:=fun r hr=>(hoff r hr).2.2.2.2.2.2
    have c_dx:L'+1≠dx:=Nat.ne_of_gt (Nat.lt_trans (low (dx,_) (Ml _ (.tail _ (.head _)))) (Nat.lt_succ_self _));have c_out:L'+1≠out:=Nat.ne_of_gt (Nat.lt_trans (low (out,_) (Mr _ (Ml _ (.head _)))) (Nat.lt_succ_self _));have c_ns:L'+1≠ns:=Nat.ne_of_gt (Nat.lt_trans (low (ns,_) (Mr _ (Ml _ (.tail _ (.tail _ (.head _)))))) (Nat.lt_succ_self _));have c_pr:L'+1≠pr:=Nat.ne_of_gt (Nat.lt_trans (low (pr,_) (Mr _ (Ml _ (.tail _ (.tail _ (.tail _ (.head _))))))) (Nat.lt_succ_self _))
    repeat' (first
     | ((with_reducible show wpAny _ _ (getMethod (Value.ref at_) (Str.ofString "get") _) _ _ _);refine Xp (l:=l) (n:=na) (F16.keep _ _ hat) ?_;(try dsimp only))
     | ((with_reducible show wpAny _ _ (call (Value.builtin "dict.get") _) _ _ _);(try dsimp only);refine Xb (hdat _ F16.keep) hsys ?_;(try dsimp only))
     | ((fail_if_success (with_reducible show wpAny _ _ (execs (Stmt.Expr _ _::_) _) _ _ _));walk_at "go"))
    (try any_goals (exact Str.empty))
    (try any_goals (exact Value.none))
    (try any_goals (exact L'))
    rename_i h17 F17 N17;have hy_vsb:∃ vsb,(valueAt (Ff l) (Str.ofString "{http://www.w3.org/XML/1998/namespace}space")).getD Value.none=vsb:=⟨_,rfl⟩
    revert hy_vsb;refine exi ?_;with_reducible refine let_mvar% ?zq14:=(fun vsb=>?_:Fa _);Bo neI (tie:Tie _ (type_of% ?zq14)) (?zq14 _);intro hvs;rw [hvs] at F17
    refine' wpAny_execs_cons (Ds (R:=fun s'=>∃ n5,Fr g L' s'.heap (fun y=>if y=Str.ofString "space_behaviour" then some vsb else m5 (Str.ofString "k") (Str.ofString "v") (Str.ofString "attr_qname") (Str.ofString "attr_name") (Str.ofString "uri") (fun y=>if y=Str.ofString "attr_list" then some (Value.ref Da) else if y=Str.ofString "parsed_qnames" then some (Value.ref Dp) else if y=Str.ofString "qattrs" then some Value.none else if y=Str.ofString "resolved_names" then some (Value.ref rn) else if y=Str.ofString "qnames" then some (Value.ref qs) else if y=Str.ofString "qname_text" then some (Value.none) else if y=Str.ofString "new_namespaces" then some (Value.ref dl) else if y=Str.ofString "attrs" then some (Value.ref at_) else if y=Str.ofString "tag" then some (Value.str tag tt) else none) u1 u2 u3 u4 u5 y)∧News g L' s'.heap ((x,instObj 143 dx)::(dx,dictOf (wd hsh tkn (.bool true) (.bool true) .none .none (.bool false) .none .none .none wr da de ns pm pr rs rd 0) ep)::(dl,listOf itsd nd)::(out,listOf (strValues ol).toArray n2)::(wr,Aj out)::(ns,listOf (nlv.map fun p=>Value.ref p.1).toArray nns)::(pr,listOf (pre++[Value.bool pv,Value.bool (Bt pv (l.map fun p=>(p.1.1,p.2.1)))]).toArray n5)::(L'+1,o0)::rest)∧s'.os=os∧AllBare s'.gens) ?p1 ?p2)
    case p1 =>
     rcases Sx Cv l with ⟨v1,v2⟩ | hyz
     ·have hv0:vsb=.none:=by rw [← hvs];rw [v2];rfl
      subst hv0
      have hk0:Bt pv (l.map fun p=>(p.1.1,p.2.1))=pv:=by unfold Bt;rw [v1]
      rw [hk0]
      repeat' (first
       | ((with_reducible show wpAny _ _ (subscriptTail _ _ (Value.ref pr) (Value.int (-1) _)) _ _ _);refine De (vs:=pre) (v:=.bool pv) ⟨_,News.get (by k_asm) (by k_mem),rfl,_,rfl⟩ ?_;(try dsimp only))
       | ((with_reducible show wpAny _ _ (call (Value.builtin "list.append") [Value.ref pr,_]) _ _ _);(rename Fr ..=>F9);(rename News ..=>N9);refine append_K F9 N9 (by walk_at "l_upd") ?_ (by(rw [sizeLine_eq];simp;exact(Nl fun hn1=>fk [_] (.e V0 (.k 1000) (.e (.s (.k 16777215)) V0 K0)) rfl hl3 hn1)));clear F9 N9;walk_at "eps";rename_i h9;intro F9 N9;(try k_sweep))
       | ((fail_if_success (with_reducible show Flow.next=_∧_));walk_at "go"))
      (try any_goals (exact Str.empty))
      (try any_goals (exact Value.none))
      (try any_goals (exact L'))
      all_goals ((rename Fr ..=>F9);(rename News ..=>N9))
      all_goals first
       | exact trivial
       | (simp only [List.push_toArray,List.append_assoc,List.cons_append,List.nil_append] at N9;exact⟨_,F9,N9,o16,b16⟩)
     ·revert hyz;refine Fw ?_;with_reducible refine let_mvar% ?zq31:=(fun b tb=>?_:Fa2 _);Al neI (Bn:Tie _ (type_of% ?zq31)) (?zq31 _ _);rintro⟨v1,v2,hyz⟩;revert hyz;refine exi ?_;with_reducible refine let_mvar% ?zq32:=(fun pz=>?_:Fa _);Bo neI (tie:Tie _ (type_of% ?zq32)) (?zq32 _);rintro⟨hpz,rfl⟩
      have hv0:vsb=.str pz.2.1 tb:=by rw [← hvs];rw [v2];rfl
      subst hv0;have hbz:pz.2.1.length≤100:=(hvl pz hpz).1
      repeat' (first
       | ((with_reducible show wpAny _ _ (subscriptTail _ _ (Value.ref pr) (Value.int (-1) _)) _ _ _);refine De (vs:=pre) (v:=.bool pv) ⟨_,News.get (by k_asm) (by k_mem),rfl,_,rfl⟩ ?_;(try dsimp only))
       | ((with_reducible show wpAny _ _ (call (Value.builtin "list.append") [Value.ref pr,_]) _ _ _);(rename Fr ..=>F9);(rename News ..=>N9);refine append_K F9 N9 (by walk_at "l_upd") ?_ (by(rw [sizeLine_eq];simp;exact(Nl fun hn1=>fk [_] (.e V0 (.k 1000) (.e (.s (.k 16777215)) V0 K0)) rfl hl3 hn1)));clear F9 N9;walk_at "eps";rename_i h9;intro F9 N9;(try k_sweep))
       | ((fail_if_success (with_reducible show Flow.next=_∧_));walk_at "go"))
      (try any_goals (exact Str.empty))
      (try any_goals (exact Value.none))
      (try any_goals (exact L'))
      all_goals ((rename Fr ..=>F9);(rename News ..=>N9);simp only [List.push_toArray,List.append_assoc,List.cons_append,List.nil_append] at N9)
      (try any_goals exact trivial)
      ·have hq:((pz.2.1.length:Int) != 0)=true:=by assumption
       have hk0:Bt pv (l.map fun p=>(p.1.1,p.2.1))=(pz.2.1 == Str.ofString "preserve"):=by
        unfold Bt;rw [v1];simp only;rw [if_neg (He hq)];by_cases he:pz.2.1=Str.ofString "preserve"<;>simp [he]
       rw [hk0];exact⟨_,F9,N9,o16,b16⟩
      ·have hq:¬ ((pz.2.1.length:Int) != 0)=true:=by assumption
       have hk0:Bt pv (l.map fun p=>(p.1.1,p.2.1))=pv:=by
        unfold Bt;rw [v1];simp only;rw [if_pos (Hb hq)]
       rw [hk0];exact⟨_,F9,N9,o16,b16⟩
    refine exs1 ?_;with_reducible refine let_mvar% ?zq41:=(fun s18 n5=>?_:Fa2 _);Al Cb (Bn:Tie _ (type_of% ?zq41)) (?zq41 _ _);rintro⟨F18,N18,o18,b18⟩
    clear F17 N17
    (try dsimp only)
    have hy_pp:∃ pp,dd.2.lookup tag=some pp:=by
     have h3:=(Cd lower nps (Ax Bf (tag::l.map (·.1.1))) [] [] (fun n hn=>(hng n ((An _ _).mem_iff.mp hn)).2)).1
     rw [hlv] at h3
     exact lookup_mem (by rw [h3];exact(An Bf _).mem_iff.mpr (.head _))
    revert hy_pp;refine exi ?_;with_reducible refine let_mvar% ?zq27:=(fun pp=>?_:Fa _);Bo neI (tie:Tie _ (type_of% ?zq27)) (?zq27 _);intro hpp
    have hy_ta:=Dx.find hkv hpp
    revert hy_ta;refine Rb ?_;with_reducible refine let_mvar% ?zq29:=(fun ta y1 y2 y3=>?_:Fa4 _);Bk neI (Ek:Tie _ (type_of% ?zq29)) (?zq29 _ _ _ _);rintro⟨hval,htup⟩
    have hpz:pp.1.length≤500:=(hdps _ _ hpp).2.2
    have hozz:(strValues ol).toArray.size≤sizeLine:=by rw [sizeLine_eq];simp [strValues];exact(Nl fun hn1=>fk [_] (.e V0 (.k 5000) (.e (.s (.k 16777216)) V0 K0)) rfl hol hn1)
    repeat' (first
     | ((with_reducible show wpAny _ _ (subscriptTail _ _ (Value.ref Dp) (Value.str _ _)) _ _ _);(rename News ..=>N9);refine Ph (kvs:=kvs) (Heap.dictOf_iff.mpr ⟨oD,(N9 _ (List.mem_append_right [_,_,_,_,_,_,_,_] hin2)).1,hdD⟩) hval ?_;(try dsimp only))
     | ((with_reducible show wpAny _ _ (subscriptTail _ _ (Value.ref ta) (Value.int 0 _)) _ _ _);(rename News ..=>N9);refine Df ⟨_,(N9 _ (List.mem_append_right [_,_,_,_,_,_,_,_] (hin3 _ htup))).1,rfl,_,rfl⟩ ?_;(try dsimp only))
     | ((with_reducible show wpAny _ _ (callWith _ (Value.ref wr) _ _ _) _ _ _);refine Br ?_;(try dsimp only))
     | ((with_reducible show BmP _ _∧_);refine⟨⟨_,_,News.get (by k_asm) (by k_mem)⟩,?_⟩)
     | ((with_reducible show wpAny _ _ (call (Value.ref wr) _) _ _ _);(rename Fr ..=>F9);(rename News ..=>N9);refine Em F9 N9 (by k_mem) (by walk_at "l_upd") hozz ?_;clear F9 N9;walk_at "eps";rename_i h9;intro F9 N9;(try dsimp only))
     | ((fail_if_success (with_reducible show wpAny _ _ (execs (Stmt.If _ _ _ _::_) _) _ _ _));walk_at "go"))
    (try any_goals (exact Str.empty))
    (try any_goals (exact Value.none))
    (try any_goals (exact L'))
    rw [← Av] at N9
    have hstx:Hi dd.2 tag=pp.1:=by unfold Hi;rw [hpp]
    have hal0:itsB.size=(Bi dd.1 dd.2 (l.map fun p=>(p.1.1,p.2.1))).length:=by rw [← hBr.length];simp
    refine' wpAny_execs_cons (Ds (R:=fun s'=>∃ ol2 n3,ol2.map (·.1)=ol.map (·.1)++([Str.ofString "<"++Hi dd.2 tag]++(if Bi dd.1 dd.2 (l.map fun p=>(p.1.1,p.2.1))=[] then [] else [Txt.join Str.empty ((Bi dd.1 dd.2 (l.map fun p=>(p.1.1,p.2.1))).map Cj)]))∧ol2.length≤6000∧Fr g L' s'.heap (fun y=>if y=Str.ofString "write" then some (Value.ref wr) else if y=Str.ofString "space_behaviour" then some vsb else m5 (Str.ofString "k") (Str.ofString "v") (Str.ofString "attr_qname") (Str.ofString "attr_name") (Str.ofString "uri") (fun y=>if y=Str.ofString "attr_list" then some (Value.ref Da) else if y=Str.ofString "parsed_qnames" then some (Value.ref Dp) else if y=Str.ofString "qattrs" then some Value.none else if y=Str.ofString "resolved_names" then some (Value.ref rn) else if y=Str.ofString "qnames" then some (Value.ref qs) else if y=Str.ofString "qname_text" then some (Value.none) else if y=Str.ofString "new_namespaces" then some (Value.ref dl) else if y=Str.ofString "attrs" then some (Value.ref at_) else if y=Str.ofString "tag" then some (Value.str tag tt) else none) u1 u2 u3 u4 u5 y)∧News g L' s'.heap ((x,instObj 143 dx)::(dx,dictOf (wd hsh tkn (.bool true) (.bool true) .none .none (.bool false) .none .none .none wr da de ns pm pr rs rd 0) ep)::(dl,listOf itsd nd)::(out,listOf (strValues ol2).toArray n3)::(wr,Aj out)::(ns,listOf (nlv.map fun p=>Value.ref p.1).toArray nns)::(pr,listOf (pre++[Value.bool pv,Value.bool (Bt pv (l.map fun p=>(p.1.1,p.2.1)))]).toArray n5)::(L'+1,o0)::rest)∧s'.os=os∧AllBare s'.gens) ?q1 ?q2)
    case q1 =>
     have hozz:∀ t,(strValues (ol++[(Str.ofString "<"++pp.1,t)])).toArray.size≤sizeLine:=fun t=>by rw [sizeLine_eq];simp [strValues];exact(Nl fun hn1=>fk [_] (.e V0 (.k 5000) (.e (.s (.k 16777215)) V0 K0)) rfl hol hn1)
     repeat' (first
      | ((with_reducible show wpAny _ _ (truthy (Value.ref Da)) _ _ _);refine wpAny_truthy_list ⟨_,(N9 _ (List.mem_append_right [_,_,_,_,_,_,_,_] hin1)).1,rfl,_,rfl⟩ (Fj (by rw [hal0,sizeLine_eq];exact(Nl fun hn1=>fk [_] (.e V0 (.k 50) (.e (.s (.k 16777216)) V0 K0)) rfl hall hn1))) ?_;(try dsimp only))
      | ((with_reducible show (if _ then _ else _));refine Bb ?_ ?_<;>intro hq)
      | ((with_reducible show wpAny _ _ (callWith _ (Value.ref wr) _ _ _) _ _ _);refine Br ?_;(try dsimp only))
      | ((with_reducible show BmP _ _∧_);refine⟨⟨_,_,News.get (by k_asm) (by k_mem)⟩,?_⟩)
      | ((fail_if_success (with_reducible show Flow.next=_∧_));(fail_if_success (with_reducible show wpAny _ _ (eval (Expr.ListComp _ _ _ _) _) _ _ _));walk_at "go"))
     (try any_goals (exact Str.empty))
     (try any_goals (exact Value.none))
     (try any_goals (exact L'))
     ·refine at_list (prs:=rest) (its:=itsB) (al:=Bi dd.1 dd.2 (l.map fun p=>(p.1.1,p.2.1))) (ax:=Da) (os:=os) (cl:=[]) X T ?hh9 ?hrm9 ?r1 ?r2 ?hit F9 N9 o18 b18 ?hax ?hprs hBr hall hal ?fin9
      case hh9=>exact hh
      case hrm9=>show A.depth+1<890;exact(Nt fun hn1=>fk [_] (.e (.s V0) (.k 800) (.e (.k 890) (.s V0) K0)) rfl zq hn1)
      case r1=>rfl
      case r2=>exact fun _=>rfl
      case hit=>exact fun Q' hQ=>nameX_L F9 rfl hQ rfl rfl
      case hax=>exact⟨_,List.mem_append_right [_,_,_,_,_,_,_,_] hin1⟩
      case hprs=>exact fun r hr=>List.mem_append_right [_,_,_,_,_,_,_,_] hr
      case fin9 =>
       with_reducible refine let_mvar% ?zq33:=(fun s21 D21 ts=>?_:Fa3 _);Am Cb (Bu:Tie _ (type_of% ?zq33)) (?zq33 _ _ _);intro hts hD21 F21 N21 o21 b21
       clear F9 N9;have hDo:D21≠out:=hD21 (out,_) (.tail _ (.tail _ (.tail _ (.head _))))
       have hne:Bi dd.1 dd.2 (l.map fun p=>(p.1.1,p.2.1))≠[]:=fun e=>by
        rw [e] at hal0;have:itsB=#[]:=Array.eq_empty_of_size_eq_zero hal0;rw [this] at hq
        exact absurd hq (by decide)
       have hjo:JoinOk Str.empty (ts.map (·.1))=true:=by rw [hts];exact join_ok hall hal
       repeat' (first
        | ((with_reducible show wpAny _ _ (call (Value.builtin "str.join") _) _ _ _);refine join_list (ds:=ts) ⟨_,(N21 _ (.head _)).1,rfl,_,rfl⟩ hjo ?_;with_reducible refine let_mvar% ?zq34:=(fun t22 k22=>?_:Fa2 _);Al neI (Bn:Tie _ (type_of% ?zq34)) (?zq34 _ _);(try dsimp only))
        | ((with_reducible show wpAny _ _ (callWith _ (Value.ref wr) _ _ _) _ _ _);refine Br ?_;(try dsimp only))
        | ((with_reducible show BmP _ _∧_);refine⟨⟨_,_,News.get (by k_asm) (by k_mem)⟩,?_⟩)
        | ((with_reducible show wpAny _ _ (call (Value.ref wr) _) _ _ _);(rename Fr ..=>F9);(rename News ..=>N9);refine Em F9 N9 (by k_mem) (by walk_at "l_upd") (hozz _) ?_;clear F9 N9;walk_at "eps";rename_i h9;intro F9 N9;(try dsimp only))
        | ((fail_if_success (with_reducible show Flow.next=_∧_));walk_at "go"))
       (try any_goals (exact Str.empty))
       (try any_goals (exact Value.none))
       (try any_goals (exact L'))
       rw [← Av] at N9
       refine⟨rfl,_,_,?_,?_,F9,News.sub N9 (fun _ z=>.tail _ z),o21,b21⟩
       ·rw [if_neg hne,List.map_append,List.map_append,hstx,← hts,List.append_assoc];rfl
       ·simp;exact(Nl fun hn1=>fk [_] (.e V0 (.k 5000) (.e (.s (.k 5998)) V0 K0)) rfl hol hn1)
     ·have hne:Bi dd.1 dd.2 (l.map fun p=>(p.1.1,p.2.1))=[]:=by
       refine List.eq_nil_of_length_eq_zero ?_;rw [← hal0]
       have:itsB.isEmpty=true:=by simpa using hq
       simpa [Array.isEmpty] using this
      refine⟨rfl,_,_,?_,?_,F9,N9,o18,b18⟩
      ·rw [if_pos hne,List.map_append,hstx];rfl
      ·simp;exact(Nl fun hn1=>fk [_] (.e V0 (.k 5000) (.e (.s (.k 5999)) V0 K0)) rfl hol hn1)
    refine exs2 ?_;with_reducible refine let_mvar% ?zq42:=(fun s20 ol2 n3=>?_:Fa3 _);Am Cb (Bu:Tie _ (type_of% ?zq42)) (?zq42 _ _ _);rintro⟨hol2,hol3,F20,N20,o20,b20⟩
    (try dsimp only)
    have hozz:(strValues ol2).toArray.size≤sizeLine:=by rw [sizeLine_eq];simp [strValues];exact(Nl fun hn1=>fk [_] (.e V0 (.k 6000) (.e (.s (.k 16777216)) V0 K0)) rfl hol3 hn1)
    repeat' (first
     | ((with_reducible show wpAny _ _ (callWith _ (Value.ref wr) _ _ _) _ _ _);refine Br ?_;(try dsimp only))
     | ((with_reducible show BmP _ _∧_);refine⟨⟨_,_,News.get (by k_asm) (by k_mem)⟩,?_⟩)
     | ((with_reducible show wpAny _ _ (call (Value.ref wr) _) _ _ _);(rename Fr ..=>F9);(rename News ..=>N9);refine Em F9 N9 (by k_mem) (by walk_at "l_upd") hozz ?_;clear F9 N9;walk_at "eps";rename_i h9;intro F9 N9;(try dsimp only))
     | ((with_reducible show wpAny _ _ (setAttr (Value.ref x) _ _) _ _ _);k_dflt (refine' set_dict ?k1 ?k2 ?k3 ?k4 ?k5 ?k6 ?k7 ?k8 ?k9 ?k10 ?k11 ?k12 ?k13 ?_;(case k1=>k_asm);(case k2=>k_asm);(case k3=>k_asm);(case k4=>k_inst);(case k5=>exact rfl);(case k6=>k_is);(case k7=>k_is);(case k8=>k_is);(case k9=>k_is);(case k10=>k_get);(case k11=>exact put_rs);(case k12=>walk_at "l_upd");(case k13=>exact Nat.le_of_ble_eq_true rfl);k_whole;walk_at "eps";rename_i h9;intro F9 N9;(try k_sweep)))
     | ((with_reducible show wpAny _ _ (call (Value.builtin "list.append") [Value.ref ns,_]) _ _ _);(rename Fr ..=>F9);(rename News ..=>N9);refine append_K F9 N9 (by walk_at "l_upd") ?_ (by(rw [sizeLine_eq];simp;exact(Nl fun hn1=>fk [_] (.e V0 (.k 1000) (.e (.s (.k 16777216)) V0 K0)) rfl hl2 hn1)));clear F9 N9;walk_at "eps";rename_i h9;intro F9 N9;(try k_sweep))
     | ((fail_if_success (with_reducible show LeaveM _ _ _ _ _));walk_at "go"))
    (try any_goals (exact Str.empty))
    (try any_goals (exact Value.none))
    (try any_goals (exact L'))
    rename_i l2 _ hlt2;rw [← Av,List.push_toArray] at N9
    have N22:News g L' h9 ([(x,instObj 143 dx),(dx,dictOf (wd hsh tkn (.bool true) (.bool true) .none .none (.bool false) .none .none .none wr da de ns pm pr true rd 0) ep),(out,listOf (strValues (ol2++[(Str.ofString ">",s20.toks)])).toArray (n3+1)),(wr,Aj out),(dl,listOf itsd nd),(ns,listOf ((nlv.map fun p=>Value.ref p.1)++[Value.ref l2]).toArray (nns+1)),(l2,listOf #[] 0),(pr,listOf (pre++[Value.bool pv,Value.bool (Bt pv (l.map fun p=>(p.1.1,p.2.1)))]).toArray n5)]++(prs++zt)):=News.sub N9 (by
     exact Fp (by walk_at "l_mem") fun q hq=>List.mem_append_right [_,_,_,_,_,_,_,_,_] (hin4 q hq))
    clear N9;subst hlv;obtain⟨f1,f2,f3,f4,f5,f6,f7,f8,f9⟩:=hlt2;refine hq9 _ _ ?_
    refine leaveM_ F9 N22 o20 b20 fun H'=>hN _ _ _ _ _ _ _ _ _ _ ?e1 hits hT' ?e2 ?e3 H'
    case e1 =>
     rw [List.map_append,hol2];unfold Cf
     simp only [List.append_assoc,List.map_cons,List.map_nil]
    case e2 =>
     intro r hr;obtain⟨g1,g2,g3,g4,g5,g6,g7⟩:=hoff r (hin4 r hr);refine⟨?_,Nat.ne_of_lt (Oi f9 r (hin4 r hr))⟩;exact Ac g1 (Ac g2 (Ac g4 (Ac g5 (Ac g3 (Ac g6 (Ac g7 Aq))))))
    case e3 =>
     exact Ac (Nat.ne_of_gt f1) (Ac (Nat.ne_of_gt f2) (Ac (Nat.ne_of_gt f4) (Ac (Nat.ne_of_gt f5) (Ac (Nat.ne_of_gt f3) (Ac (Nat.ne_of_gt f6) (Ac (Nat.ne_of_gt f7) Aq))))))
end
theorem rs6:True∧True:=by
 (try walk1);(try w_top off)
 all_goals (first | trivial | exact ⟨trivial,trivial⟩)
section

local macro_rules | `(tactic| walk_at "l_mem")=>`(tactic| repeat' (first | exact List.forall_mem_nil _ | refine Fc (by k_mem) ?_ | (intro p hp;repeat' (first | exact hp | refine List.Mem.tail _ ?_))))
local macro_rules | `(tactic| walk_at "l_notin")=>`(tactic| repeat' (first | exact List.forall_mem_nil _ | assumption | refine Fc (by(simp only [List.map_cons,List.map_nil,List.mem_cons,List.not_mem_nil,or_false,not_or];(repeat' (first | refine And.intro ?_ ?_ | walk_at "l_ne" | exact not_false)))) ?_))
noncomputable def Jp(w:World)(A:Around)(s:Shared)(g:Heap)(os:OsState)(p:Program)(zw:List Str)(zr:ExcName→Option Value)(mg mb:Str→Option Value)(R:Result→Shared→Prop)(x dx:Addr)(hsh:Nat→Int)(tkn:Nat→Tok)(wr da de ns pm pr:Addr)(rs rd:Bool)(ep:Nat)(out:Addr)(n1 n2:Nat)(ds ol:List (Str × Tok))(pre:List Value)(pv:Bool)(at_:Addr)(nde nns npr na:Nat)(dlv nlv:List (Addr × Array Value))(lower nps:List Pr)(tag:Str)(tt:Tok)(l:List ((Str × Tok) × (Str × Tok)))(tabs:List (Addr × Obj)):Prop :=
 ∀ (X:(hd11.heap_39 w.params).In g) (T:Top p zw zr mg mb g) (H:Ok g os ([(x,instObj 143 dx),(dx,dictOf (wd hsh tkn (.bool true) (.bool true) .none .none (.bool false) .none .none .none wr da de ns pm pr rs rd 0) ep),(da,listOf (strValues ds).toArray n1),(out,listOf (strValues ol).toArray n2),(wr,Aj out),(de,listOf (dlv.map fun p=>Value.ref p.1).toArray nde),(ns,listOf (nlv.map fun p=>Value.ref p.1).toArray nns),(pr,listOf (pre++[Value.bool pv]).toArray npr)]++tabs) s) (hh:A.handled=none) (zq:A.depth<700) (C116:CodeHd g 118 116) (hok:JoinOk Str.empty (ds.map (·.1))=true) (hdz:(strValues ds).toArray.size≤sizeLine) (hdl:(Txt.join Str.empty (ds.map (·.1))).length≤2000) (hoz:(strValues ol).toArray.size≤sizeLine) (hu:A.units<8000) (hT:Eo 116 ⟨136,71,136,96⟩ (Str.ofString "C14NWriterTarget._start.<locals>.<lambda>") tabs) (hat:g.get? at_=some (dictOf (Bg w.params l) na)) (hlz:l.length≤3) (hsys:(at_ == sysModules)=false) (hnd:(tag::l.map (·.1.1)).Nodup) (hng:∀ n∈tag::l.map (·.1.1),Di n=true∧known nps (cutName n).1) (hvl:∀ p∈l,p.2.1.length≤100∧(Ey p.2.1).length≤1000) (hDl:∀ p∈dlv,g.IsList p.1 p.2) (hDz:∀ p∈dlv,(p.2.size:Int)<2 ^ 63) (hDp:All2 (Cg g) (comes dlv) lower) (hDn:lower.length<2900) (hDs:∀ q∈lower,q.1.length≤200∧q.2.length≤200) (hNl:∀ p∈nlv,g.IsList p.1 p.2∧(p.2.size:Int)<2 ^ 63) (hNp:All2 (Cg g) (comes nlv) nps) (hNe:∀ q∈nps,q.1.length≤100∧q.2.length≤200∧(Ey q.1).length≤1000) (hol:ol.length≤4000) (hl1:dlv.length≤1000) (hl2:nlv.length≤1000) (hl3:pre.length≤1000) (zp:∀ p∈tabs,p.1∉([x,dx,da,out,wr,de,ns,pr]:List Addr)) (nd:([x,dx,da,out,wr,de,ns,pr]:List Addr).Nodup) (hN:∀ (s':Shared) (n2 n3 n4 n5 n6:Nat) (nl dl:Addr) (ol2:List (Str × Tok)) (itsd:Array Value) (nd:Nat) (prs zt:List (Addr × Obj)),ol2.map (·.1)=ol.map (·.1)++(Bl rs (Bm pv (Txt.join Str.empty (ds.map (·.1))))++Cf (declare lower nps (Ax Bf (tag::l.map (·.1.1))) [] []).1 (declare lower nps (Ax Bf (tag::l.map (·.1.1))) [] []).2 tag (l.map fun p=>(p.1.1,p.2.1)))→All2 (Ap prs) itsd.toList (declare lower nps (Ax Bf (tag::l.map (·.1.1))) [] []).1→Eo 116 ⟨136,71,136,96⟩ (Str.ofString "C14NWriterTarget._start.<locals>.<lambda>") zt→(∀ r∈prs++zt,r.1∉([x,dx,da,out,wr,de,ns,pr]:List Addr)∧r.1≠nl∧r.1≠dl)→nl∉([x,dx,da,out,wr,de,ns,pr]:List Addr)→dl∉([x,dx,da,out,wr,de,ns,pr]:List Addr)→nl≠dl→Ok g os ([(x,instObj 143 dx),(dx,dictOf (wd hsh tkn (.bool true) (.bool true) .none .none (.bool false) .none .none .none wr da de ns pm pr true rd 0) ep),(da,listOf #[] n2),(out,listOf (strValues ol2).toArray n3),(wr,Aj out),(de,listOf ((dlv++[(dl,itsd)]).map fun(p:Addr × Array Value)=>Value.ref p.1).toArray n6),(dl,listOf itsd nd),(ns,listOf ((nlv++[(nl,(#[]:Array Value))]).map fun(p:Addr × Array Value)=>Value.ref p.1).toArray n4),(nl,listOf #[] 0),(pr,listOf (pre++[Value.bool pv,Value.bool (Bt pv (l.map fun p=>(p.1.1,p.2.1)))]).toArray n5)]++(prs++zt)) s'→R (.ok (.ret .none)) s'),codeAny (model rw_dn0283_11.row.prog w) A (.call (.ref 113) ⟨[.ref x,.str tag tt,.ref at_],[]⟩) R s
theorem Ul:∀ {w A s g os p zw zr mg mb R x dx hsh tkn wr da de ns pm pr rs rd ep out n1 n2 ds ol pre pv at_ nde nns npr na dlv nlv lower nps tag tt l tabs},Jp w A s g os p zw zr mg mb R x dx hsh tkn wr da de ns pm pr rs rd ep out n1 n2 ds ol pre pv at_ nde nns npr na dlv nlv lower nps tag tt l tabs:=by
 refine @(Ab (Ao neW)<|@(Ab neI<|@(Ab neI<|@(Ab neI<|@(Ab neI<|@(Ed neI<|let_mvar% ?n:=(fun w A s g os p zw zr mg mb R x dx hsh tkn wr da de ns pm pr rs rd ep out n1 n2 ds ol pre pv at_ nde nns npr na dlv nlv lower nps tag tt l tabs=>?_:∀ a b c d e f g h i j k l m n o p q r s t u v w x y z a1 b1 c1 d1 e1 f1 g1 h1 i1 j1 k1 l1 m1 n1 o1 p1 q1 r1,Jp a b c d e f g h i j k l m n o p q r s t u v w x y z a1 b1 c1 d1 e1 f1 g1 h1 i1 j1 k1 l1 m1 n1 o1 p1 q1 r1);?n _ _ _ _ _ _ _ _ _ _ _ _ _ _ _ _ _ _ _ _ _ _ _ _ _ _ _ _ _ _ _ _ _ _ _ _ _ _ _ _ _ _ _ _))))))
 intro X T H hh zq C116 hok hdz hdl hoz hu hT hat hlz hsys hnd hng hvl hDl hDz hDp hDn hDs hNl hNp hNe hol hl1 hl2 hl3 zp nd hN;revert X
 k_fill
 intro X
 refine' Cq (fun y=>List.lookup y [("attrs",.ref at_),("tag",.str tag tt),("self",.ref x)]) H X T ?k6 ?k7 (Nat.lt_trans zq (by decide)) ?k9 ?kB ?km ?kl ?_ ?c1 ?c2 ?c3 ?c4
 (case k6=>k_is)
 (case k7=>k_is)
 (case k9=>exact BindsTo.of_eq rfl)
 (case kB=>exact locs rfl)
 (case km=>exact rfl)
 (case kl=>exact Nat.succ_pos _)
 (case c1=>exact rfl)
 (case c2=>exact rfl)
 (case c3=>exact rfl)
 (case c4=>decide)
 k_whole;with_reducible refine let_mvar% ?zq1:=(fun L' h1 k0=>?_:Fa3 _);Am neI (Bu:Tie _ (type_of% ?zq1)) (?zq1 _ _ _);intro hk0 F1 N1 l1;(try k_lt l1);(try dsimp only)
 refine Bw ?_;walk_at "eps2";rename_i Q9 E9;intro hq9 he9;have ndf:([x,dx,da,out,wr]:List Addr).Nodup:=Ub nd;refine ndk8 nd ?_;intro n_x_dx n_x_da n_x_out n_x_wr n_x_de n_x_ns n_x_pr n_dx_da n_dx_out n_dx_wr n_dx_de n_dx_ns n_dx_pr n_da_out n_da_wr n_da_de n_da_ns n_da_pr n_out_wr n_out_de n_out_ns n_out_pr n_wr_de n_wr_ns n_wr_pr n_de_ns n_de_pr n_ns_pr;dsimp only [List.cons_append,List.nil_append] at N1
 have tb5:∀ p∈tabs,p.1∉[x,dx,da,out,wr]:=fun p hp z=>zp p hp (List.mem_append_left [de,ns,pr] z)
 have tde:∀ p∈tabs,p.1≠de:=fun p hp=>Cr (zp p hp) (by k_mem)
 repeat' ((fail_if_success (with_reducible show wpAny _ _ (execs (Stmt.If (Expr.Attribute _ "_data" _) _ _ _::_) _) _ _ _));walk_at "go")
 refine' wpAny_execs_cons (Ds (R:=fun s'=>∃ n3 n4 ol2,ol2.map (·.1)=ol.map (·.1)++Bl rs (Bm pv (Txt.join Str.empty (ds.map (·.1))))∧Fr g L' s'.heap (fun y=>List.lookup y [(Str.ofString "attrs",Value.ref at_),(Str.ofString "tag",Value.str tag tt),(Str.ofString "self",Value.ref x)])∧News g L' s'.heap ([(x,instObj 143 dx),(dx,dictOf (wd hsh tkn (.bool true) (.bool true) .none .none (.bool false) .none .none .none wr da de ns pm pr rs rd 0) ep),(da,listOf #[] n3),(out,listOf (strValues ol2).toArray n4),(wr,Aj out),(de,listOf (dlv.map fun p=>Value.ref p.1).toArray nde),(ns,listOf (nlv.map fun p=>Value.ref p.1).toArray nns),(pr,listOf (pre++[Value.bool pv]).toArray npr)]++tabs)∧s'.os=os∧AllBare s'.gens) ?c1 ?c2)
 case c1 =>
  by_cases hds:ds=[]
  ·subst hds
   repeat' (first
    | ((with_reducible show wpAny _ _ (truthy (.ref da)) _ _ _);refine wpAny_truthy_list ⟨_,News.get (by k_asm) (by k_mem),rfl,_,rfl⟩ (Fj hdz) ?_;(try dsimp only))
    | ((with_reducible show Flow.next=_∧_);(rename Fr ..=>F9);(rename News ..=>N9);first | exact⟨rfl,_,_,_,e5,F9,N9,o5,b5⟩ | exact⟨rfl,_,_,_,by(rw [Bp,List.append_nil]),F9,N9,H.os,H.bare⟩)
    | ((with_reducible show Q9 _ _);refine hq9 _ _ ?_;(try dsimp only))
    | walk_at "go")
  ·have hsz:(!(strValues ds).toArray.isEmpty)=true:=Rv hds
   repeat' (first
    | ((with_reducible show wpAny _ _ (truthy (.ref da)) _ _ _);refine wpAny_truthy_list ⟨_,News.get (by k_asm) (by k_mem),rfl,_,rfl⟩ (Fj hdz) ?_;(try dsimp only))
    | ((with_reducible show Flow.next=_∧_);(rename Fr ..=>F9);(rename News ..=>N9);first | exact⟨rfl,_,_,_,e5,F9,N9,o5,b5⟩ | exact⟨rfl,_,_,_,by(rw [Bp,List.append_nil]),F9,N9,H.os,H.bare⟩)
    | ((with_reducible show wpAny _ _ (call (Value.ref 99) _) _ _ _);(rename Fr ..=>F9);(rename News ..=>N9);refine As [(x,instObj 143 dx),(dx,dictOf (wd hsh tkn (.bool true) (.bool true) .none .none (.bool false) .none .none .none wr da de ns pm pr rs rd 0) ep),(da,listOf (strValues ds).toArray n1),(out,listOf (strValues ol).toArray n2),(wr,Aj out)] ([(de,listOf (dlv.map fun p=>Value.ref p.1).toArray nde),(ns,listOf (nlv.map fun p=>Value.ref p.1).toArray nns),(pr,listOf (pre++[Value.bool pv]).toArray npr)]++tabs) F9 N9 H.os H.bare (by walk_at "l_mem") (by walk_at "l_mem") (by walk_at "l_notin") fun g₂ H₂ K₂ r₂ back=>Iu (X.keeps K₂) (T.keeps K₂) H₂ hh (Nat.lt_of_lt_of_le (Nat.succ_lt_succ zq) (by decide)) ⟨_,r₂ (pr,_) (by k_mem),rfl,_,rfl⟩ hok hdz ndf hdl hoz fun s5 n3 n4 ol2 e5 H5=>?_;obtain⟨F5,N5,o5,b5⟩:=back _ _ H5;clear back F9 N9 H₂ H5;(try clear g₂);revert s5 n3 n4 ol2;with_reducible refine let_mvar% ?ns6S4x5:=(fun s5 n3 n4 ol2=>?_:Fa4 _);Bk Cb (Ek:Tie _ (type_of% ?ns6S4x5)) (?ns6S4x5 _ _ _ _);intro e5 F5 N5 o5 b5;(try dsimp only))
    | ((with_reducible show Q9 _ _);refine hq9 _ _ ?_;(try dsimp only))
    | walk_at "go")
 refine exs3 ?_;with_reducible refine let_mvar% ?zq3:=(fun s6 n3 n4 ol2=>?_:Fa4 _);Bk Cb (Ek:Tie _ (type_of% ?zq3)) (?zq3 _ _ _ _);rintro⟨e5,F6,N6,o6,b6⟩
 (try dsimp only)
 dsimp only [List.cons_append,List.nil_append] at N6
 repeat' (first
    | ((with_reducible show wpAny _ _ (call (.builtin "list.append") [.ref de,_]) _ _ _);(rename Fr ..=>F9);(rename News ..=>N9);refine append_K F9 N9 (by walk_at "l_upd") ?_ (by(rw [sizeLine_eq];simp;exact(Nl fun hn1=>fk [_] (.e V0 (.k 1000) (.e (.s (.k 16777216)) V0 K0)) rfl hl1 hn1)));clear F9 N9;walk_at "eps";rename_i h9;intro F9 N9;(try k_sweep))
    | ((fail_if_success (with_reducible show wpAny _ _ (call (.ref 119) _) _ _ _));walk_at "go"))
 rename_i dl _ hlt _;obtain⟨f1,f2,f3,f4,f5,f6,f7,f8,f9⟩:=hlt
 replace f1:=Nat.ne_of_gt f1
 replace f2:=Nat.ne_of_gt f2
 replace f3:=Nat.ne_of_gt f3
 replace f4:=Nat.ne_of_gt f4
 replace f5:=Nat.ne_of_gt f5
 replace f6:=Nat.ne_of_gt f6
 replace f7:=Nat.ne_of_gt f7
 replace f8:=Nat.ne_of_gt f8
 have ede:(List.map (fun p=>Value.ref p.1) dlv).toArray.push (Value.ref dl)=((dlv++[(dl,(#[]:Array Value))]).map fun(p:Addr × Array Value)=>Value.ref p.1).toArray:=by simp
 rw [ede] at N9
 have hol2:ol2.length≤5000:=by
  have h1:=congrArg List.length e5;have h2:=Dz rs (Bm pv (Txt.join Str.empty (ds.map (·.1))))
  simp only [List.length_map,List.length_append] at h1
  exact(Nl fun hn1=>fk [_,_,_] (.e V0 (.k 4000) (.e V1 K1 (.e V2 (.a V0 V1) (.e (.s (.k 5000)) V2 K0)))) rfl hol h2 (El h1) hn1)
 refine As ([(x,instObj 143 dx),(dx,dictOf (wd hsh tkn (.bool true) (.bool true) .none .none (.bool false) .none .none .none wr da de ns pm pr rs rd 0) ep),(out,listOf (strValues ol2).toArray n4),(wr,Aj out),(dl,listOf #[] 0),(ns,listOf (nlv.map fun p=>Value.ref p.1).toArray nns),(pr,listOf (pre++[Value.bool pv]).toArray npr)]++tabs) [(da,listOf #[] n3),(de,listOf ((dlv++[(dl,(#[]:Array Value))]).map fun(p:Addr × Array Value)=>Value.ref p.1).toArray (nde+1))] F9 N9 o6 b6 ?m1 ?m2 ?m3 ?call
 case m1=>walk_at "l_sub"
 case m2=>walk_at "l_sub"
 case m3=>exact Fc (Oz (by walk_at "l_allne") (fun r hr=>Cr (zp r hr) (by k_mem))) (Fc (Oz (by walk_at "l_allne") tde) (List.forall_mem_nil _))
 case call =>
  walk_at "eps";rename_i g₂;intro H₂ K₂ r₂ back
  refine Ta (dlv:=dlv) (nlv:=nlv) (lower:=lower) (nps:=nps) (l:=l) (na:=na) (tabs:=tabs) (X.keeps K₂) (T.keeps K₂) H₂ hh ?rm ?cc ?uu hT (K₂ _ _ hat) hlz hsys hnd hng hvl ⟨_,r₂ (de,_) (.tail _ (.head _)),rfl,_,rfl⟩ (fun q hq=>Ai K₂ (hDl q hq)) hDz (hDp.mono fun _ _ z=>z.keeps K₂) hDn hDs (fun q hq=>⟨Ai K₂ (hNl q hq).1,(hNl q hq).2⟩) (hNp.mono fun _ _ z=>z.keeps K₂) hNe hol2 hl2 hl3 ?tb ?nn ?hN
  case rm=>show A.depth+1<800;exact(Nt fun hn1=>fk [_] (.e (.s V0) (.k 700) (.e (.k 800) (.s V0) K0)) rfl zq hn1)
  case cc =>
   obtain⟨o,vs,file,tf,fl,tg,inF,text,tt',h1,h2⟩:=C116;exact⟨o,vs,file,tf,fl,tg,inF,text,tt',K₂ _ _ h1,h2⟩
  case uu=>show A.units+3<9000;exact(Nt fun hn1=>fk [_] (.e (.s V0) (.k 8000) (.e (.k 9000) (.a V0 (.k 3)) K0)) rfl hu hn1)
  case tb=>exact fun q hq=>Ac (Cr (zp q hq) (by k_mem)) (Ac (Cr (zp q hq) (by k_mem)) (Ac (Cr (zp q hq) (by k_mem)) (Ac (Cr (zp q hq) (by k_mem)) (Ac (Nat.ne_of_lt (Oi f9 q hq)) (Ac (Cr (zp q hq) (by k_mem)) (Ac (Cr (zp q hq) (by k_mem)) Aq))))))
  case nn=>exact ndm7 n_x_dx n_x_out n_x_wr (Ne.symm f1) n_x_ns n_x_pr n_dx_out n_dx_wr (Ne.symm f2) n_dx_ns n_dx_pr n_out_wr (Ne.symm f4) n_out_ns n_out_pr (Ne.symm f5) n_wr_ns n_wr_pr f7 f8 n_ns_pr
  case hN =>
   with_reducible refine let_mvar% ?zs1:=(fun s7 n7 n8 n9 nl ol7 itsd=>?_:Fa7 _);Dr Cb (Kc:Tie _ (type_of% ?zs1)) (?zs1 _ _ _ _ _ _ _);with_reducible refine let_mvar% ?zs2:=(fun ndd prs zt=>?_:Fa3 _);Am neI (Bu:Tie _ (type_of% ?zs2)) (?zs2 _ _ _);intro e7 hits hT' hoff hnl H7
   have hod:∀ r∈[(x,instObj 143 dx),(dx,dictOf (wd hsh tkn (.bool true) (.bool true) .none .none (.bool false) .none .none .none wr da de ns pm pr true rd 0) ep),(out,listOf (strValues ol7).toArray n7),(wr,Aj out),(dl,listOf itsd ndd),(ns,listOf ((nlv.map fun p=>Value.ref p.1)++[Value.ref nl]).toArray n8),(nl,listOf #[] 0),(pr,listOf (pre++[Value.bool pv,Value.bool (Bt pv (l.map fun p=>(p.1.1,p.2.1)))]).toArray n9)]++(prs++zt),r.1≠da∧r.1≠de:=fun r hr=>⟨Ie H7 r₂ (show (r.1,r.2)∈_ from hr) (.head _),Ie H7 r₂ (show (r.1,r.2)∈_ from hr) (.tail _ (.head _))⟩
   obtain⟨F8,N8,o8,b8⟩:=back _ _ H7;clear back F9 N9 H₂ H7
   (try dsimp only)
   repeat' ((fail_if_success (with_reducible show LeaveM _ _ _ _ _));walk_at "go")
   (try any_goals (exact Str.empty))
   (try any_goals (exact .none))
   (try any_goals (exact L'))
   have edl:((dlv++[(dl,(#[]:Array Value))]).map fun(p:Addr × Array Value)=>Value.ref p.1)=((dlv++[(dl,itsd)]).map fun(p:Addr × Array Value)=>Value.ref p.1):=by simp
   have enl:(nlv.map fun p=>Value.ref p.1)++[Value.ref nl]=((nlv++[(nl,(#[]:Array Value))]).map fun(p:Addr × Array Value)=>Value.ref p.1):=by simp
   rw [edl,enl] at N8;refine hq9 _ _ ?_
   refine leaveM_ F8 (News.sub N8 ?sub) o8 b8 fun H'=>hN _ n3 n7 n8 n9 (nde+1) nl dl ol7 itsd ndd prs zt ?e hits hT' ?o1 ?o2 ?o3 ?o4 H'
   case sub=>walk_at "l_sub"
   case e=>rw [e7,e5,List.append_assoc]
   case o1 =>
    intro r hr;obtain⟨z1,z2⟩:=hoff r hr;obtain⟨z3,z4⟩:=hod r (Mr _ hr)
    exact⟨Ac (Cr z1 (by k_mem)) (Ac (Cr z1 (by k_mem)) (Ac z3 (Ac (Cr z1 (by k_mem)) (Ac (Cr z1 (by k_mem)) (Ac z4 (Ac (Cr z1 (by k_mem)) (Ac (Cr z1 (by k_mem)) Aq))))))),z2,Cr z1 (by k_mem)⟩
   case o2 =>
    obtain⟨z3,z4⟩:=hod (nl,_) (.tail _ (.tail _ (.tail _ (.tail _ (.tail _ (.tail _ (.head _)))))))
    exact Ac (Cr hnl (by k_mem)) (Ac (Cr hnl (by k_mem)) (Ac z3 (Ac (Cr hnl (by k_mem)) (Ac (Cr hnl (by k_mem)) (Ac z4 (Ac (Cr hnl (by k_mem)) (Ac (Cr hnl (by k_mem)) Aq)))))))
   case o3=>exact Ac f1 (Ac f2 (Ac f3 (Ac f4 (Ac f5 (Ac f6 (Ac f7 (Ac f8 Aq)))))))
   case o4=>exact Cr hnl (by k_mem)
end
theorem rs7:True∧True:=by
 (try walk1);(try w_top off)
 all_goals (first | trivial | exact ⟨trivial,trivial⟩)
section

noncomputable abbrev ofL{α:Type}[Inhabited α](l:List α)(n:Nat):α:=l.getD n default
noncomputable def nsl:List ((Str × Tok) × (Str × Tok)):=[(("http://www.w3.org/XML/1998/namespace",322),("xml",323)),(("http://www.w3.org/1999/xhtml",324),("html",325)),(("http://www.w3.org/1999/02/22-rdf-syntax-ns#",326),("rdf",327)),(("http://schemas.xmlsoap.org/wsdl/",328),("wsdl",329)),(("http://www.w3.org/2001/XMLSchema",330),("xs",331)),(("http://www.w3.org/2001/XMLSchema-instance",332),("xsi",333)),(("http://purl.org/dc/elements/1.1/",334),("dc",335))]
theorem h37{w:World}:(hd11.heap_39 w.params).lookup 37=some (dictOf (Bg w.params nsl) 7):=rfl
theorem of8{a b c d e f g h r:Prop}:a∧b∧c∧d∧e∧f∧g∧h∧r→a∧b∧c∧d∧e∧f∧g∧h:=fun⟨a,b,c,d,e,f,g,h,_⟩=>⟨a,b,c,d,e,f,g,h⟩
noncomputable def Kl(w:World)(A:Around)(s:Shared)(g:Heap)(os:OsState)(p:Program)(zw:List Str)(zr:ExcName→Option Value)(mg mb:Str→Option Value)(R:Result→Shared→Prop)(x dx wr:Addr):Prop :=
 ∀ (X:(hd11.heap_39 w.params).In g) (T:Top p zw zr mg mb g) (H:Ok g os [(x,instObj 143 dx),(dx,dictOf [] 0)] s) (hh:A.handled=none) (zq:A.depth<750) (nd:([x,dx]:List Addr).Nodup) (hN:∀ (s':Shared) (hsh:Nat→Int) (tkn:Nat→Tok) (ep n1 n2 n3 n4 n5 n6 n7:Nat) (pr pm nl B0 vw ns de dl D da a1 a2 a3 a4 a5 a6 a7:Addr) (oM oV:Obj) (tD tE t1 t2 t3 t4 t5 t6 t7:Tok),(x<da∧dx<da)→(da<D∧D<dl∧dl<de∧de<ns)→(ns<a1∧ns<a2∧ns<a3∧ns<a4∧ns<a5∧ns<a6∧ns<a7∧ns<B0)→(a1<nl∧a2<nl∧a3<nl∧a4<nl∧a5<nl∧a6<nl∧a7<nl∧B0<nl)→nl<pr→Ok g os [(pr,listOf #[.bool false] n1),(pm,oM),(nl,listOf #[] n2),(a1,Ae #[.str "http://www.w3.org/XML/1998/namespace" t1,.str "xml" 323]),(a2,Ae #[.str "http://www.w3.org/1999/xhtml" t2,.str "html" 325]),(a3,Ae #[.str "http://www.w3.org/1999/02/22-rdf-syntax-ns#" t3,.str "rdf" 327]),(a4,Ae #[.str "http://schemas.xmlsoap.org/wsdl/" t4,.str "wsdl" 329]),(a5,Ae #[.str "http://www.w3.org/2001/XMLSchema" t5,.str "xs" 331]),(a6,Ae #[.str "http://www.w3.org/2001/XMLSchema-instance" t6,.str "xsi" 333]),(a7,Ae #[.str "http://purl.org/dc/elements/1.1/" t7,.str "dc" 335]),(B0,listOf #[.ref a1,.ref a2,.ref a3,.ref a4,.ref a5,.ref a6,.ref a7] n3),(vw,oV),(ns,listOf #[.ref B0,.ref nl] n4),(de,listOf #[.ref dl] n5),(dl,listOf #[.ref D] n6),(D,Ae #[.str "http://www.w3.org/XML/1998/namespace" tD,.str "xml" tE]),(da,listOf #[] n7),(x,instObj 143 dx),(dx,dictOf (wd hsh tkn (.bool true) (.bool true) .none .none (.bool false) .none .none .none wr da de ns pm pr false false 0) ep)] s'→R (.ok (.ret .none)) s'),codeAny (model rw_dn0283_11.row.prog w) A (.call (.ref 60) ⟨[.ref x,.ref wr],[("with_comments",.bool true),("strip_text",.bool true)]⟩) R s
theorem Vs:∀ {a b c d e f g h i j k l m n},Kl a b c d e f g h i j k l m n:=by
 refine @(Ab (Ao neW)<|@(Dq neI<|let_mvar% ?n:=(fun w A s g os p zw zr mg mb R x dx wr=>?_:∀ a b c d e f g h i j k l m n,Kl a b c d e f g h i j k l m n);?n _ _ _ _ _ _ _ _ _ _ _ _ _ _))
 intro X T H hh zq nd hN;revert X
 k_fill
 intro X
 refine' Cq _ H X T ?k6 ?k7 (Nat.lt_trans zq (by decide)) ?k9 ?kB ?km ?kl ?_ ?c1 ?c2 ?c3 ?c4
 (case k6=>k_is)
 (case k7=>k_is)
 (case k9=>(refine' kp_binds (X.keeps H.keep) ?ke;(case ke=>exact fun _=>rfl)))
 (case kB=>exact locs rfl)
 (case km=>exact rfl)
 (case kl=>exact Nat.succ_pos _)
 (case c1=>exact rfl)
 (case c2=>exact rfl)
 (case c3=>exact rfl)
 (case c4=>decide)
 k_whole;with_reducible refine let_mvar% ?zq5:=(fun L' h1 k0=>?_:Fa3 _);Am neI (Bu:Tie _ (type_of% ?zq5)) (?zq5 _ _ _);intro hk0 F1 N1 l1;(try k_lt l1);(try dsimp only)
 simp only [List.nodup_cons,List.mem_cons,List.not_mem_nil,or_false,List.nodup_nil,and_true,not_false_eq_true] at nd
 repeat' (first
    | ((with_reducible show wpAny _ _ (getMethod (.ref 37) "items" _) _ _ _);(rename Fr ..=>F9);(rename News ..=>N9);refine Jn (l:=nsl) (n:=7) ((X.keeps F9.keep) _ _ h37) ?_;(try dsimp only))
    | ((with_reducible show wpAny _ _ (newList _) _ _ _);k_dflt (refine' newList_K ?k1 ?k2 ?_;(case k1 | k2=>k_asm);k_whole);walk_at "eps2";intro F' N' l1;have l2:=l1;(try k_lt l1);(try k_sweep))
    | ((with_reducible show wpAny _ _ (newTuple _) _ _ _);k_dflt (refine' kup_newTuple ?F ?N ?_ ?z;(case F | N=>k_asm);(case z=>kmk_size));walk_at "eps2";intro F' N' l1;have l2:=l1;(try k_lt l1);(try k_sweep))
    | ((with_reducible show wpAny _ _ (eval (Expr.Dict [] [] _) _) _ _ _);k_dflt (refine' newDict_K ?k1 ?k2 (TopRead.nolimit (by k_asm)) ?_;(case k1 | k2=>k_asm);k_whole);with_reducible refine let_mvar% ?n:=(fun x y z=>?_:Fa3 _);Am neI (Bu:Tie _ (type_of% ?n)) (?n _ _ _);intro F' N' l1 lo' hs' fs' hi' fi';have l2:=l1;(try k_lt l1);(try k_sweep))
    | ((with_reducible show wpAny _ _ (call (.builtin "dict.items") _) _ _ _);(try dsimp only);(rename Fr ..=>F9);(rename News ..=>N9);refine Sv (l:=nsl) (n:=7) F9 N9 ((X.keeps F9.keep) _ _ h37) (by decide) rfl ?_;clear F9 N9;walk_at "eps2";rename_i vw h9;intro F9 N9 l9 k9;have l8:=l9;k_lt l9;(try dsimp only))
    | ((with_reducible show wpAny _ _ (call (Value.type "list") [.ref vw]) _ _ _);(rename Fr ..=>F9);(rename News ..=>N9);refine Yr (n:=7) hh F9 N9 ((X.keeps F9.keep) _ _ h37) (by decide) (by k_mem) ?_;clear F9 N9;with_reducible refine let_mvar% ?zq2:=(fun B0 a1 a2 a3 a4 a5 a6 a7=>?_:Fa8 _);Fs neI (Qn:Tie _ (type_of% ?zq2)) (?zq2 _ _ _ _ _ _ _ _);with_reducible refine let_mvar% ?zq3:=(fun t1 t2 t3 t4 t5 t6 t7 c0=>?_:Fa8 _);Fs neI (Qn:Tie _ (type_of% ?zq3)) (?zq3 _ _ _ _ _ _ _ _);walk_at "eps2";rename_i h9 tk9;intro hBa l9 F9 N9;have l8:=l9;have m1:=fun p hp=>Nat.lt_trans (l9 p hp) hBa.1;have m2:=fun p hp=>Nat.lt_trans (l9 p hp) hBa.2.1;have m3:=fun p hp=>Nat.lt_trans (l9 p hp) hBa.2.2.1;have m4:=fun p hp=>Nat.lt_trans (l9 p hp) hBa.2.2.2.1;have m5:=fun p hp=>Nat.lt_trans (l9 p hp) hBa.2.2.2.2.1;have m6:=fun p hp=>Nat.lt_trans (l9 p hp) hBa.2.2.2.2.2.1;have m7:=fun p hp=>Nat.lt_trans (l9 p hp) hBa.2.2.2.2.2.2;k_lt l9;(try dsimp only))
    | ((try ((with_reducible show wpAny _ _ (execs _ _) _ _ _);(conv=>(arg 6;dsimp only))));walk_at "go"))
 (rename Fr ..=>F9)
 (rename News ..=>N9)
 refine leaveM_ F9 N9 H.os H.bare fun H'=>hN _ (ofL [_,_,_,_,_,_,_,_,_,_,_,_,_,_,_,_,_]) (ofL [_,_,_,_,_,_,_,_,_,_,_,_,_,_,_,_,_,_]) _ _ _ _ _ _ _ _ _ _ _ _ _ _ _ _ _ _ _ _ _ _ _ _ _ _ _ _ _ _ _ _ _ _ _ _ ?d1 ?d2 ?d3 ?d4 ?d5 H'
 case d1=>assumption
 case d2=>exact⟨And.left (by assumption),And.left (by assumption),And.left (by assumption),And.left (by assumption)⟩
 case d3 =>
  obtain⟨b1,b2,b3,b4,b5,b6,b7⟩:=hBa;have b0:=l9.2.1;exact⟨Nat.lt_trans b0 b1,Nat.lt_trans b0 b2,Nat.lt_trans b0 b3,Nat.lt_trans b0 b4,Nat.lt_trans b0 b5,Nat.lt_trans b0 b6,Nat.lt_trans b0 b7,b0⟩
 case d4=>exact of8 (by assumption)
 case d5=>exact And.left (And.right (by assumption))
end
theorem rs8:True∧True:=by
 (try walk1);(try w_top off)
 all_goals (first | trivial | exact ⟨trivial,trivial⟩)
section

noncomputable def Hw(w:World)(A:Around)(s:Shared)(g:Heap)(os:OsState)(p:Program)(zw:List Str)(zr:ExcName→Option Value)(mg mb:Str→Option Value)(R:Result→Shared→Prop)(out:Addr)(n2:Nat):Prop :=
 ∀ (X:(hd11.heap_39 w.params).In g) (T:Top p zw zr mg mb g) (H:Ok g os [(out,listOf #[] n2)] s) (hh:A.handled=none) (zq:A.depth<700) (hN:∀ (s':Shared) (x dx wr:Addr) (hsh:Nat→Int) (tkn:Nat→Tok) (ep n1 m2 n3 n4 n5 n6 n7:Nat) (pr pm nl B0 vw ns de dl D da a1 a2 a3 a4 a5 a6 a7:Addr) (oM oV:Obj) (tD tE t1 t2 t3 t4 t5 t6 t7:Tok),(out<wr∧wr<dx∧dx<x∧x<da)→(da<D∧D<dl∧dl<de∧de<ns)→(ns<a1∧ns<a2∧ns<a3∧ns<a4∧ns<a5∧ns<a6∧ns<a7∧ns<B0)→(a1<nl∧a2<nl∧a3<nl∧a4<nl∧a5<nl∧a6<nl∧a7<nl∧B0<nl)→nl<pr→Ok g os ([(pr,listOf #[.bool false] n1),(pm,oM),(nl,listOf #[] m2),(a1,Ae #[.str "http://www.w3.org/XML/1998/namespace" t1,.str "xml" 323]),(a2,Ae #[.str "http://www.w3.org/1999/xhtml" t2,.str "html" 325]),(a3,Ae #[.str "http://www.w3.org/1999/02/22-rdf-syntax-ns#" t3,.str "rdf" 327]),(a4,Ae #[.str "http://schemas.xmlsoap.org/wsdl/" t4,.str "wsdl" 329]),(a5,Ae #[.str "http://www.w3.org/2001/XMLSchema" t5,.str "xs" 331]),(a6,Ae #[.str "http://www.w3.org/2001/XMLSchema-instance" t6,.str "xsi" 333]),(a7,Ae #[.str "http://purl.org/dc/elements/1.1/" t7,.str "dc" 335]),(B0,listOf #[.ref a1,.ref a2,.ref a3,.ref a4,.ref a5,.ref a6,.ref a7] n3),(vw,oV),(ns,listOf #[.ref B0,.ref nl] n4),(de,listOf #[.ref dl] n5),(dl,listOf #[.ref D] n6),(D,Ae #[.str "http://www.w3.org/XML/1998/namespace" tD,.str "xml" tE]),(da,listOf #[] n7),(x,instObj 143 dx),(dx,dictOf (wd hsh tkn (.bool true) (.bool true) .none .none (.bool false) .none .none .none wr da de ns pm pr false false 0) ep)]++[(wr,Aj out),(out,listOf #[] n2)]) s'→R (.ok (.ret (.ref x))) s'),codeAny (model rw_dn0283_11.row.prog w) A (.call (.ref 168) ⟨[.ref out],[]⟩) R s
theorem Tf:∀ {a b c d e f g h i j k l m},Hw a b c d e f g h i j k l m:=by
 refine @(Ab (Ao neW)<|@(Et neI<|let_mvar% ?n:=(fun w A s g os p zw zr mg mb R out n2=>?_:∀ a b c d e f g h i j k l m,Hw a b c d e f g h i j k l m);?n _ _ _ _ _ _ _ _ _ _ _ _ _))
 intro X T H hh zq hN;revert X
 k_fill
 intro X
 refine' Cq (fun y=>List.lookup y [("pieces",.ref out)]) H X T ?k6 ?k7 (Nat.lt_trans zq (by decide)) ?k9 ?kB ?km ?kl ?_ ?c1 ?c2 ?c3 ?c4
 (case k6=>k_is)
 (case k7=>k_is)
 (case k9=>exact BindsTo.of_eq rfl)
 (case kB=>exact locs rfl)
 (case km=>exact rfl)
 (case kl=>exact Nat.succ_pos _)
 (case c1=>exact rfl)
 (case c2=>exact rfl)
 (case c3=>exact rfl)
 (case c4=>decide)
 k_whole;intro L' h1 k0 hk0 F1 N1 l1;(try k_lt l1);(try dsimp only)
 repeat' (first
    | ((with_reducible show wpAny _ _ (getAttr (.ref out) "append" true) _ _ _);(rename Fr ..=>F9);(rename News ..=>N9);refine Nz F9 N9 (by k_mem) ?_;clear F9 N9;intro wr h9 tk9 F9 N9 l9;k_lt l9;(try dsimp only))
    | ((fail_if_success (with_reducible show wpAny _ _ (call (.ref 143) _ _) _ _ _));walk_at "go"))
 (try any_goals (exact L'))
 revert X
 k_fill
 intro X;refine call_cls (C:=143) (fI:=60) F9 X N9 ?k1 ?k2 ?k3 ?k4
 case k1=>k_is
 case k2=>k_is
 case k3=>k_is
 case k4 =>
  intro x dx h10 F10 N10 lt1 lt2
  have m1:∀ q∈[(x,instObj 143 dx),(dx,dictOf [] 0)],q∈[(x,instObj 143 dx),(dx,dictOf [] 0),(wr,Aj out),(out,listOf #[] n2)]:=by walk_at "l_mem"
  have m2:∀ q∈[(wr,Aj out),(out,listOf #[] n2)],q∈[(x,instObj 143 dx),(dx,dictOf [] 0),(wr,Aj out),(out,listOf #[] n2)]:=by walk_at "l_mem"
  have w1:=ltN (lt1 (wr,Aj out) (.head _));have w2:=ltN l9;have w3:=ltN lt2;have m3:∀ q∈[(wr,Aj out),(out,listOf #[] n2)],q.1∉([(x,instObj 143 dx),(dx,dictOf [] 0)]:List (Addr × Obj)).map (·.1):=Fc (Ac (Nat.ne_of_lt (Nat.lt_trans w1 w3)) (Ac (Nat.ne_of_lt w1) Aq)) (Fc (Ac (Nat.ne_of_lt (Nat.lt_trans w2 (Nat.lt_trans w1 w3))) (Ac (Nat.ne_of_lt (Nat.lt_trans w2 w1)) Aq)) (List.forall_mem_nil _));obtain⟨H₂,K₂,r₂,back⟩:=Nq (s:={ s with heap:=h10,toks:=tk9 }) (os:=os) F10 N10 H.os H.bare m1 m2 m3
  generalize hideAll h10 _=g₂ at H₂ K₂ r₂ back
  refine Vs (X.keeps K₂) (T.keeps K₂) H₂ ?hh ?rm ?nd ?hN
  case hh=>exact hh
  case rm=>first | (show A.depth+1+1<750;exact(Nt fun hn1=>fk [_] (.e (.s V0) (.k 700) (.e (.k 750) (.a (.s V0) K1) K0)) rfl zq hn1)) | (show A.depth+1+0<750;omega)
  case nd=>simp only [List.nodup_cons,List.mem_cons,List.not_mem_nil,or_false,List.nodup_nil,and_true,not_false_eq_true];exact Nat.ne_of_gt lt2
  case hN =>
   intro s11 hsh tkn ep n1 m2 n3 n4 n5 n6 n7 pr pm nl B0 vw ns de dl D da a1 a2 a3 a4 a5 a6 a7 oM oV tD tE t1 t2 t3 t4 t5 t6 t7 d1 d2 d3 d4 d5 H11;obtain⟨F12,N12,o12,b12⟩:=back _ _ H11
   exact⟨rfl,leaveM_ F12 N12 o12 b12 fun H'=>hN _ x dx wr hsh tkn ep n1 m2 n3 n4 n5 n6 n7 pr pm nl B0 vw ns de dl D da a1 a2 a3 a4 a5 a6 a7 oM oV tD tE t1 t2 t3 t4 t5 t6 t7 ⟨l9,lt1 (wr,Aj out) (.head _),lt2,d1.1⟩ d2 d3 d4 d5 H'⟩
end
theorem rs9:True∧True:=by
 (try walk1);(try w_top off)
 all_goals (first | trivial | exact ⟨trivial,trivial⟩)
section

noncomputable def Kf(w:World)(A:Around)(s:Shared)(g:Heap)(os:OsState)(p:Program)(zw:List Str)(zr:ExcName→Option Value)(mg mb:Str→Option Value)(R:Result→Shared→Prop)(x dx:Addr)(hsh:Nat→Int)(tkn:Nat→Tok)(wr da de ns pm pr:Addr)(rs rd:Bool)(ep n1:Nat)(ds:List (Str × Tok))(d:Str)(td:Tok):Prop :=
 ∀ (X:(hd11.heap_39 w.params).In g) (T:Top p zw zr mg mb g) (H:Ok g os [(x,instObj 143 dx),(dx,dictOf (wd hsh tkn (.bool true) (.bool true) .none .none (.bool false) .none .none .none wr da de ns pm pr rs rd 0) ep),(da,listOf (strValues ds).toArray n1)] s) (hh:A.handled=none) (zq:A.depth<800) (hdz:(strValues ds).toArray.size≤sizeLine) (nd:([x,dx,da]:List Addr).Nodup) (hN:∀ s' n3,Ok g os [(x,instObj 143 dx),(dx,dictOf (wd hsh tkn (.bool true) (.bool true) .none .none (.bool false) .none .none .none wr da de ns pm pr rs rd 0) ep),(da,listOf (strValues (ds++[(d,td)])).toArray n3)] s'→R (.ok (.ret .none)) s'),codeAny (model rw_dn0283_11.row.prog w) A (.call (.ref 90) ⟨[.ref x,.str d td],[]⟩) R s
theorem Vj:∀ {a b c d e f g h i j k l m n o p q r s t u v w x y z a1 b1},Kf a b c d e f g h i j k l m n o p q r s t u v w x y z a1 b1:=by
 refine @(Ab (Ao neW)<|@(Ab neI<|@(Ab neI<|@(Ed neI<|let_mvar% ?n:=(fun w A s g os p zw zr mg mb R x dx hsh tkn wr da de ns pm pr rs rd ep n1 ds d td=>?_:∀ a b c d e f g h i j k l m n o p q r s t u v w x y z a1 b1,Kf a b c d e f g h i j k l m n o p q r s t u v w x y z a1 b1);?n _ _ _ _ _ _ _ _ _ _ _ _ _ _ _ _ _ _ _ _ _ _ _ _ _ _ _ _))))
 intro X T H hh zq hdz nd hN;revert X
 k_fill
 intro X
 refine' Cq (fun y=>List.lookup y [("data",.str d td),("self",.ref x)]) H X T ?k6 ?k7 (Nat.lt_trans zq (by decide)) ?k9 ?kB ?km ?kl ?_ ?c1 ?c2 ?c3 ?c4
 (case k6=>k_is)
 (case k7=>k_is)
 (case k9=>exact BindsTo.of_eq rfl)
 (case kB=>exact locs rfl)
 (case km=>exact rfl)
 (case kl=>exact Nat.succ_pos _)
 (case c1=>exact rfl)
 (case c2=>exact rfl)
 (case c3=>exact rfl)
 (case c4=>decide)
 k_whole;intro L' h1 k0 hk0 F1 N1 l1;(try k_lt l1);(try dsimp only)
 refine Bw fun Q9 E9 hq9 he9=>?_
 simp only [List.nodup_cons,List.mem_cons,List.not_mem_nil,or_false,not_or,List.nodup_nil,and_true,not_false_eq_true] at nd
 obtain⟨⟨n_x_dx,n_x_da⟩,n_dx_da⟩:=nd
 repeat' (first
    | ((with_reducible show wpAny _ _ (call (.builtin "list.append") [.ref da,_]) _ _ _);(rename Fr ..=>F9);(rename News ..=>N9);refine append_K F9 N9 (by walk_at "l_upd") ?_ hdz;clear F9 N9;intro h9 F9 N9;(try k_sweep))
    | ((with_reducible show LeaveM _ _ _ _ _);(rename Fr ..=>F9);(rename News ..=>N9);refine leaveM_ F9 N9 H.os H.bare fun H'=>hN _ _ (by rw [Av];exact H'))
    | ((with_reducible show Q9 _ _);refine hq9 _ _ ?_;(try dsimp only))
    | walk_at "go")
end
theorem rs10:True∧True:=by
 (try walk1);(try w_top off)
 all_goals (first | trivial | exact ⟨trivial,trivial⟩)
section

noncomputable def Gg(w:World)(A:Around)(s:Shared)(g:Heap)(os:OsState)(p:Program)(zw:List Str)(zr:ExcName→Option Value)(mg mb:Str→Option Value)(R:Result→Shared→Prop)(x dx:Addr)(hsh:Nat→Int)(tkn:Nat→Tok)(wr da de ns pm pr:Addr)(rs rd:Bool)(ep:Nat)(out:Addr)(n1 n2:Nat)(ds ol:List (Str × Tok))(pre:List Value)(pv:Bool)(nl:Addr)(its:Array Value)(n:Nat)(npre:List Value)(pf uri:Str)(tp tu:Tok):Prop :=
 ∀ (X:(hd11.heap_39 w.params).In g) (T:Top p zw zr mg mb g) (H:Ok g os [(x,instObj 143 dx),(dx,dictOf (wd hsh tkn (.bool true) (.bool true) .none .none (.bool false) .none .none .none wr da de ns pm pr rs rd 0) ep),(da,listOf (strValues ds).toArray n1),(out,listOf (strValues ol).toArray n2),(wr,Aj out),(nl,listOf its n)] s) (hh:A.handled=none) (zq:A.depth<700) (hpr:g.IsList pr (pre++[Value.bool pv]).toArray) (hok:JoinOk Str.empty (ds.map (·.1))=true) (hdz:(strValues ds).toArray.size≤sizeLine) (hdl:(Txt.join Str.empty (ds.map (·.1))).length≤2000) (hoz:(strValues ol).toArray.size≤sizeLine) (hns:g.IsList ns (npre++[Value.ref nl]).toArray) (hiz:its.size≤sizeLine) (nd:([x,dx,da,out,wr,nl]:List Addr).Nodup) (hN:∀ s' n3 n4 ol2 tb,x<tb→dx<tb→da<tb→out<tb→wr<tb→nl<tb→ol2.map (·.1)=ol.map (·.1)++Bl rs (Bm pv (Txt.join Str.empty (ds.map (·.1))))→Ok g os [(tb,Ae #[.str uri tu,.str pf tp]),(x,instObj 143 dx),(dx,dictOf (wd hsh tkn (.bool true) (.bool true) .none .none (.bool false) .none .none .none wr da de ns pm pr rs rd 0) ep),(da,listOf #[] n3),(out,listOf (strValues ol2).toArray n4),(wr,Aj out),(nl,listOf (its.push (.ref tb)) (n+1))] s'→R (.ok (.ret .none)) s'),codeAny (model rw_dn0283_11.row.prog w) A (.call (.ref 106) ⟨[.ref x,.str pf tp,.str uri tu],[]⟩) R s
theorem Oe:∀ {a b c d e f g h i j k l m n o p q r s t u v w x y z a1 b1 c1 d1 e1 f1 g1 h1 i1 j1 k1 l1 m1},Gg a b c d e f g h i j k l m n o p q r s t u v w x y z a1 b1 c1 d1 e1 f1 g1 h1 i1 j1 k1 l1 m1:=by
 refine @(Ab (Ao neW)<|@(Ab neI<|@(Ab neI<|@(Ab neI<|@(Eu neI<|let_mvar% ?n:=(fun w A s g os p zw zr mg mb R x dx hsh tkn wr da de ns pm pr rs rd ep out n1 n2 ds ol pre pv nl its n npre pf uri tp tu=>?_:∀ a b c d e f g h i j k l m n o p q r s t u v w x y z a1 b1 c1 d1 e1 f1 g1 h1 i1 j1 k1 l1 m1,Gg a b c d e f g h i j k l m n o p q r s t u v w x y z a1 b1 c1 d1 e1 f1 g1 h1 i1 j1 k1 l1 m1);?n _ _ _ _ _ _ _ _ _ _ _ _ _ _ _ _ _ _ _ _ _ _ _ _ _ _ _ _ _ _ _ _ _ _ _ _ _ _ _)))))
 intro X T H hh zq hpr hok hdz hdl hoz hns hiz nd hN;revert X
 k_fill
 intro X
 refine' Cq (fun y=>List.lookup y [("uri",.str uri tu),("prefix",.str pf tp),("self",.ref x)]) H X T ?k6 ?k7 (Nat.lt_trans zq (by decide)) ?k9 ?kB ?km ?kl ?_ ?c1 ?c2 ?c3 ?c4
 (case k6=>k_is)
 (case k7=>k_is)
 (case k9=>exact BindsTo.of_eq rfl)
 (case kB=>exact locs rfl)
 (case km=>exact rfl)
 (case kl=>exact Nat.succ_pos _)
 (case c1=>exact rfl)
 (case c2=>exact rfl)
 (case c3=>exact rfl)
 (case c4=>decide)
 k_whole;with_reducible refine let_mvar% ?zq1:=(fun L' h1 k0=>?_:Fa3 _);Am neI (Bu:Tie _ (type_of% ?zq1)) (?zq1 _ _ _);intro hk0 F1 N1 l1;(try k_lt l1);(try dsimp only)
 refine Bw ?_;walk_at "eps2";rename_i Q9 E9;intro hq9 he9;have ndf:([x,dx,da,out,wr]:List Addr).Nodup:=Ub nd;refine ndk6 nd ?_;intro n_x_dx n_x_da n_x_out n_x_wr n_x_nl n_dx_da n_dx_out n_dx_wr n_dx_nl n_da_out n_da_wr n_da_nl n_out_wr n_out_nl n_wr_nl
 repeat' ((fail_if_success (with_reducible show wpAny _ _ (execs (Stmt.If (Expr.Attribute _ "_data" _) _ _ _::_) _) _ _ _));walk_at "go")
 refine' wpAny_execs_cons (Ds (R:=fun s'=>∃ n3 n4 ol2,ol2.map (·.1)=ol.map (·.1)++Bl rs (Bm pv (Txt.join Str.empty (ds.map (·.1))))∧Fr g L' s'.heap (fun y=>List.lookup y [("uri",.str uri tu),("prefix",.str pf tp),("self",.ref x)])∧News g L' s'.heap [(x,instObj 143 dx),(dx,dictOf (wd hsh tkn (.bool true) (.bool true) .none .none (.bool false) .none .none .none wr da de ns pm pr rs rd 0) ep),(da,listOf #[] n3),(out,listOf (strValues ol2).toArray n4),(wr,Aj out),(nl,listOf its n)]∧s'.os=os∧AllBare s'.gens) ?c1 ?c2)
 case c1 =>
  by_cases hds:ds=[]
  ·subst hds
   repeat' (first
    | ((with_reducible show Flow.next=_∧_);(rename Fr ..=>F9);(rename News ..=>N9);first | exact⟨rfl,_,_,_,e5,F9,N9,o5,b5⟩ | exact⟨rfl,_,_,_,by(rw [Bp,List.append_nil]),F9,N9,H.os,H.bare⟩)
    | ((with_reducible show Q9 _ _);refine hq9 _ _ ?_;(try dsimp only))
    | walk_at "go")
  ·have hsz:(!(strValues ds).toArray.isEmpty)=true:=Rv hds
   repeat' (first
    | ((with_reducible show wpAny _ _ (truthy (.ref da)) _ _ _);refine wpAny_truthy_list ⟨_,News.get (by k_asm) (by k_mem),rfl,_,rfl⟩ (Fj hdz) ?_;(try dsimp only))
    | ((with_reducible show Flow.next=_∧_);(rename Fr ..=>F9);(rename News ..=>N9);first | exact⟨rfl,_,_,_,e5,F9,N9,o5,b5⟩ | exact⟨rfl,_,_,_,by(rw [Bp,List.append_nil]),F9,N9,H.os,H.bare⟩)
    | ((with_reducible show wpAny _ _ (call (.ref 99) _) _ _ _);(rename Fr ..=>F9);(rename News ..=>N9);refine As [(x,instObj 143 dx),(dx,dictOf (wd hsh tkn (.bool true) (.bool true) .none .none (.bool false) .none .none .none wr da de ns pm pr rs rd 0) ep),(da,listOf (strValues ds).toArray n1),(out,listOf (strValues ol).toArray n2),(wr,Aj out)] [(nl,listOf its n)] F9 N9 H.os H.bare (by walk_at "l_mem") (by walk_at "l_mem") (by walk_at "l_notin") fun g₂ H₂ K₂ _ back=>Iu (X.keeps K₂) (T.keeps K₂) H₂ hh (Nat.lt_of_lt_of_le (Nat.succ_lt_succ zq) (by decide)) (Ai K₂ hpr) hok hdz ndf hdl hoz fun s5 n3 n4 ol2 e5 H5=>?_;obtain⟨F5,N5,o5,b5⟩:=back _ _ H5;clear back F9 N9 H₂ H5;(try clear g₂);revert s5 n3 n4 ol2;with_reducible refine let_mvar% ?ns10S4x3:=(fun s5 n3 n4 ol2=>?_:Fa4 _);Bk Cb (Ek:Tie _ (type_of% ?ns10S4x3)) (?ns10S4x3 _ _ _ _);intro e5 F5 N5 o5 b5;(try dsimp only))
    | ((with_reducible show Q9 _ _);refine hq9 _ _ ?_;(try dsimp only))
    | walk_at "go")
 refine exs3 ?_;with_reducible refine let_mvar% ?zq3:=(fun s6 n3 n4 ol2=>?_:Fa4 _);Bk Cb (Ek:Tie _ (type_of% ?zq3)) (?zq3 _ _ _ _);rintro⟨e5,F6,N6,o6,b6⟩
 (try dsimp only)
 repeat' (first
    | ((with_reducible show wpAny _ _ (subscriptTail _ _ (.ref ns) (.int (-1) _)) _ _ _);refine De (vs:=npre) (v:=.ref nl) (Ai (Fr.keep (by k_asm)) hns) ?_;(try dsimp only))
    | ((with_reducible show wpAny _ _ (call (.builtin "list.append") [.ref nl,_]) _ _ _);(rename Fr ..=>F9);(rename News ..=>N9);refine append_K F9 N9 (by walk_at "l_upd") ?_ hiz;clear F9 N9;walk_at "eps";rename_i h9;intro F9 N9;(try k_sweep))
    | ((with_reducible show LeaveM _ _ _ _ _);(rename Fr ..=>F9);(rename News ..=>N9);exact leaveM_ F9 N9 o6 b6 fun H'=>hN _ n3 n4 ol2 _ (ltN (by(rename_i ina0;exact ina0.1))) (ltN (by(rename_i ina0;exact ina0.2.1))) (ltN (by(rename_i ina0;exact ina0.2.2.1))) (ltN (by(rename_i ina0;exact ina0.2.2.2.1))) (ltN (by(rename_i ina0;exact ina0.2.2.2.2.1))) (ltN (by(rename_i ina0;exact ina0.2.2.2.2.2))) e5 H')
    | ((with_reducible show Q9 _ _);refine hq9 _ _ ?_;(try dsimp only))
    | walk_at "go")
end
theorem rs11:True∧True:=by
 (try walk1);(try w_top off)
 all_goals (first | trivial | exact ⟨trivial,trivial⟩)
section

noncomputable def Gp(w:World)(A:Around)(s:Shared)(g:Heap)(os:OsState)(p:Program)(zw:List Str)(zr:ExcName→Option Value)(mg mb:Str→Option Value)(R:Result→Shared→Prop)(x dx:Addr)(hsh:Nat→Int)(tkn:Nat→Tok)(wr da de ns pm pr:Addr)(ep:Nat)(out:Addr)(n1 n2:Nat)(ds ol:List (Str × Tok))(pre:List Value)(pv:Bool)(tx:Str)(tt:Tok):Prop :=
 ∀ (X:(hd11.heap_39 w.params).In g) (T:Top p zw zr mg mb g) (H:Ok g os [(x,instObj 143 dx),(dx,dictOf (wd hsh tkn (.bool true) (.bool true) .none .none (.bool false) .none .none .none wr da de ns pm pr true false 0) ep),(da,listOf (strValues ds).toArray n1),(out,listOf (strValues ol).toArray n2),(wr,Aj out)] s) (hh:A.handled=none) (zq:A.depth<700) (hpr:g.IsList pr (pre++[Value.bool pv]).toArray) (hok:JoinOk Str.empty (ds.map (·.1))=true) (hdz:(strValues ds).toArray.size≤sizeLine) (hdl:(Txt.join Str.empty (ds.map (·.1))).length≤2000) (hoz:(strValues ol).toArray.size≤sizeLine) (hol:ol.length≤5000) (htx:tx.length≤1000) (hec:(Fv tx).length≤1000) (nd:([x,dx,da,out,wr]:List Addr).Nodup) (hN:∀ s' n3 n4 ol3,ol3.map (·.1)=ol.map (·.1)++(Bl true (Bm pv (Txt.join Str.empty (ds.map (·.1))))++[Str.ofString "<!--"++Fv tx++Str.ofString "-->"])→Ok g os [(x,instObj 143 dx),(dx,dictOf (wd hsh tkn (.bool true) (.bool true) .none .none (.bool false) .none .none .none wr da de ns pm pr true false 0) ep),(da,listOf #[] n3),(out,listOf (strValues ol3).toArray n4),(wr,Aj out)] s'→R (.ok (.ret .none)) s'),codeAny (model rw_dn0283_11.row.prog w) A (.call (.ref 133) ⟨[.ref x,.str tx tt],[]⟩) R s
theorem Pu:∀ {a b c d e f g h i j k l m n o p q r s t u v w x y z a1 b1 c1 d1 e1},Gp a b c d e f g h i j k l m n o p q r s t u v w x y z a1 b1 c1 d1 e1:=by
 refine @(Ab (Ao neW)<|@(Ab neI<|@(Ab neI<|@(Eu neI<|let_mvar% ?n:=(fun w A s g os p zw zr mg mb R x dx hsh tkn wr da de ns pm pr ep out n1 n2 ds ol pre pv tx tt=>?_:∀ a b c d e f g h i j k l m n o p q r s t u v w x y z a1 b1 c1 d1 e1,Gp a b c d e f g h i j k l m n o p q r s t u v w x y z a1 b1 c1 d1 e1);?n _ _ _ _ _ _ _ _ _ _ _ _ _ _ _ _ _ _ _ _ _ _ _ _ _ _ _ _ _ _ _))))
 intro X T H hh zq hpr hok hdz hdl hoz hol htx hec nd hN;revert X
 k_fill
 intro X
 refine' Cq (fun y=>List.lookup y [("text",.str tx tt),("self",.ref x)]) H X T ?k6 ?k7 (Nat.lt_trans zq (by decide)) ?k9 ?kB ?km ?kl ?_ ?c1 ?c2 ?c3 ?c4
 (case k6=>k_is)
 (case k7=>k_is)
 (case k9=>exact BindsTo.of_eq rfl)
 (case kB=>exact locs rfl)
 (case km=>exact rfl)
 (case kl=>exact Nat.succ_pos _)
 (case c1=>exact rfl)
 (case c2=>exact rfl)
 (case c3=>exact rfl)
 (case c4=>decide)
 k_whole;with_reducible refine let_mvar% ?zq1:=(fun L' h1 k0=>?_:Fa3 _);Am neI (Bu:Tie _ (type_of% ?zq1)) (?zq1 _ _ _);intro hk0 F1 N1 l1;(try k_lt l1);(try dsimp only)
 refine Bw ?_;walk_at "eps2";rename_i Q9 E9;intro hq9 he9;have ndf:=nd;refine ndk5 nd ?_;intro n_x_dx n_x_da n_x_out n_x_wr n_dx_da n_dx_out n_dx_wr n_da_out n_da_wr n_out_wr
 repeat' ((fail_if_success (with_reducible show wpAny _ _ (execs (Stmt.If (Expr.Attribute _ "_root_done" _) _ _ _::_) _) _ _ _));walk_at "go")
 refine' wpAny_execs_cons (Ds (R:=fun s'=>∃ n3 n4 ol2,ol2.map (·.1)=ol.map (·.1)++Bl true (Bm pv (Txt.join Str.empty (ds.map (·.1))))∧Fr g L' s'.heap (fun y=>List.lookup y [("text",.str tx tt),("self",.ref x)])∧News g L' s'.heap [(x,instObj 143 dx),(dx,dictOf (wd hsh tkn (.bool true) (.bool true) .none .none (.bool false) .none .none .none wr da de ns pm pr true false 0) ep),(da,listOf #[] n3),(out,listOf (strValues ol2).toArray n4),(wr,Aj out)]∧s'.os=os∧AllBare s'.gens) ?c1 ?c2)
 case c1 =>
  by_cases hds:ds=[]
  ·subst hds
   repeat' (first
    | ((with_reducible show Flow.next=_∧_);(rename Fr ..=>F9);(rename News ..=>N9);first | exact⟨rfl,_,_,_,e5,F9,N9,o5,b5⟩ | exact⟨rfl,_,_,_,by(rw [Bp,List.append_nil]),F9,N9,H.os,H.bare⟩)
    | ((with_reducible show Q9 _ _);refine hq9 _ _ ?_;(try dsimp only))
    | walk_at "go")
  ·have hsz:(!(strValues ds).toArray.isEmpty)=true:=Rv hds
   repeat' (first
    | ((with_reducible show wpAny _ _ (truthy (.ref da)) _ _ _);refine wpAny_truthy_list ⟨_,News.get (by k_asm) (by k_mem),rfl,_,rfl⟩ (Fj hdz) ?_;(try dsimp only))
    | ((with_reducible show Flow.next=_∧_);(rename Fr ..=>F9);(rename News ..=>N9);first | exact⟨rfl,_,_,_,e5,F9,N9,o5,b5⟩ | exact⟨rfl,_,_,_,by(rw [Bp,List.append_nil]),F9,N9,H.os,H.bare⟩)
    | ((with_reducible show wpAny _ _ (call (.ref 99) _) _ _ _);(rename Fr ..=>F9);(rename News ..=>N9);refine As [(x,instObj 143 dx),(dx,dictOf (wd hsh tkn (.bool true) (.bool true) .none .none (.bool false) .none .none .none wr da de ns pm pr true false 0) ep),(da,listOf (strValues ds).toArray n1),(out,listOf (strValues ol).toArray n2),(wr,Aj out)] [] F9 N9 H.os H.bare (by walk_at "l_mem") (by walk_at "l_mem") (by walk_at "l_notin") fun g₂ H₂ K₂ _ back=>Iu (X.keeps K₂) (T.keeps K₂) H₂ hh (Nat.lt_of_lt_of_le (Nat.succ_lt_succ zq) (by decide)) (Ai K₂ hpr) hok hdz ndf hdl hoz fun s5 n3 n4 ol2 e5 H5=>?_;obtain⟨F5,N5,o5,b5⟩:=back _ _ H5;clear back F9 N9 H₂ H5;(try clear g₂);revert s5 n3 n4 ol2;with_reducible refine let_mvar% ?ns11S4x8:=(fun s5 n3 n4 ol2=>?_:Fa4 _);Bk Cb (Ek:Tie _ (type_of% ?ns11S4x8)) (?ns11S4x8 _ _ _ _);intro e5 F5 N5 o5 b5;(try dsimp only))
    | ((with_reducible show Q9 _ _);refine hq9 _ _ ?_;(try dsimp only))
    | walk_at "go")
 refine exs3 ?_;with_reducible refine let_mvar% ?zq5:=(fun s6 n3 n4 ol2=>?_:Fa4 _);Bk Cb (Ek:Tie _ (type_of% ?zq5)) (?zq5 _ _ _ _);rintro⟨e5,F6,N6,o6,b6⟩
 (try dsimp only)
 have hoz2:=Sa e5 (Nat.le_trans (Dz _ _) (by decide)) hol
 repeat' (first
    | ((with_reducible show wpAny _ _ (callWith _ (.ref wr) _ _ _) _ _ _);refine Br ?_;(try dsimp only))
    | ((with_reducible show BmP _ _∧_);refine⟨⟨_,_,News.get (by k_asm) (by k_mem)⟩,?_⟩)
    | ((with_reducible show wpAny _ _ (call (.ref wr) _) _ _ _);(rename Fr ..=>F9);(rename News ..=>N9);refine Em F9 N9 (by k_mem) (by walk_at "l_upd") hoz2 ?_;clear F9 N9;walk_at "eps";rename_i h9;intro F9 N9;(try dsimp only))
    | ((with_reducible show wpAny _ _ (call (.ref 154) _) _ _ _);(rename Fr ..=>F9);(rename News ..=>N9);refine As [] [(x,instObj 143 dx),(dx,dictOf (wd hsh tkn (.bool true) (.bool true) .none .none (.bool false) .none .none .none wr da de ns pm pr true false 0) ep),(da,listOf #[] n3),(out,listOf (strValues ol2).toArray n4),(wr,Aj out)] F9 N9 o6 b6 (List.forall_mem_nil _) (by walk_at "l_mem") (fun _ _ z=>nomatch z) fun g₂ H₂ K₂ _ back=>Hc (X.keeps K₂) (T.keeps K₂) H₂ (Nat.lt_of_lt_of_le (Nat.succ_lt_succ zq) (by decide)) (Nat.le_trans htx (by decide)) fun s5 t5 H5=>?_;obtain⟨F5,N5,o5,b5⟩:=back _ _ H5;clear back F9 N9 H₂ H5;(try clear g₂);revert s5 t5;with_reducible refine let_mvar% ?ns11S2x10:=(fun s5 t5=>?_:Fa2 _);Al Cb (Bn:Tie _ (type_of% ?ns11S2x10)) (?ns11S2x10 _ _);intro  F5 N5 o5 b5;(try dsimp only))
    | ((with_reducible show LeaveM _ _ _ _ _);(rename Fr ..=>F9);(rename News ..=>N9);exact leaveM_ F9 N9 (by assumption) (by assumption) fun H'=>hN _ n3 _ (ol2++[(_,_)]) (by(rw [List.map_append,e5,List.append_assoc];rfl)) (by(rw [Av];exact H')))
    | ((with_reducible show Q9 _ _);refine hq9 _ _ ?_;(try dsimp only))
    | walk_at "go")
noncomputable def Pb(w:World)(A:Around)(s:Shared)(g:Heap)(os:OsState)(p:Program)(zw:List Str)(zr:ExcName→Option Value)(mg mb:Str→Option Value)(R:Result→Shared→Prop)(x dx:Addr)(hsh:Nat→Int)(tkn:Nat→Tok)(wr da de ns pm pr:Addr)(ep:Nat)(out:Addr)(n1 n2:Nat)(ds ol:List (Str × Tok))(pre:List Value)(pv:Bool)(tx tg:Str)(tt tt2:Tok):Prop :=
 ∀ (X:(hd11.heap_39 w.params).In g) (T:Top p zw zr mg mb g) (H:Ok g os [(x,instObj 143 dx),(dx,dictOf (wd hsh tkn (.bool true) (.bool true) .none .none (.bool false) .none .none .none wr da de ns pm pr true false 0) ep),(da,listOf (strValues ds).toArray n1),(out,listOf (strValues ol).toArray n2),(wr,Aj out)] s) (hh:A.handled=none) (zq:A.depth<700) (hpr:g.IsList pr (pre++[Value.bool pv]).toArray) (hok:JoinOk Str.empty (ds.map (·.1))=true) (hdz:(strValues ds).toArray.size≤sizeLine) (hdl:(Txt.join Str.empty (ds.map (·.1))).length≤2000) (hoz:(strValues ol).toArray.size≤sizeLine) (hol:ol.length≤5000) (htx:tx.length≤1000) (hb0:((tx.length:Int) != 0)=true) (htg:tg.length≤1000) (hec:(Fv tx).length≤1000) (nd:([x,dx,da,out,wr]:List Addr).Nodup) (hN:∀ s' n3 n4 ol3,ol3.map (·.1)=ol.map (·.1)++(Bl true (Bm pv (Txt.join Str.empty (ds.map (·.1))))++[Str.ofString "<?"++tg++Str.ofString " "++Fv tx++Str.ofString "?>"])→Ok g os [(x,instObj 143 dx),(dx,dictOf (wd hsh tkn (.bool true) (.bool true) .none .none (.bool false) .none .none .none wr da de ns pm pr true false 0) ep),(da,listOf #[] n3),(out,listOf (strValues ol3).toArray n4),(wr,Aj out)] s'→R (.ok (.ret .none)) s'),codeAny (model rw_dn0283_11.row.prog w) A (.call (.ref 140) ⟨[.ref x,.str tg tt2,.str tx tt],[]⟩) R s
theorem pi_spec:∀ {a b c d e f g h i j k l m n o p q r s t u v w x y z a1 b1 c1 d1 e1 f1 g1},Pb a b c d e f g h i j k l m n o p q r s t u v w x y z a1 b1 c1 d1 e1 f1 g1:=by
 refine @(Ab (Ao neW)<|@(Ab neI<|@(Ab neI<|@(Ab neI<|@(Au neI<|let_mvar% ?n:=(fun w A s g os p zw zr mg mb R x dx hsh tkn wr da de ns pm pr ep out n1 n2 ds ol pre pv tx tg tt tt2=>?_:∀ a b c d e f g h i j k l m n o p q r s t u v w x y z a1 b1 c1 d1 e1 f1 g1,Pb a b c d e f g h i j k l m n o p q r s t u v w x y z a1 b1 c1 d1 e1 f1 g1);?n _ _ _ _ _ _ _ _ _ _ _ _ _ _ _ _ _ _ _ _ _ _ _ _ _ _ _ _ _ _ _ _ _)))))
 intro X T H hh zq hpr hok hdz hdl hoz hol htx hb0 htg hec nd hN;revert X
 k_fill
 intro X
 refine' Cq (fun y=>List.lookup y [("data",.str tx tt),("target",.str tg tt2),("self",.ref x)]) H X T ?k6 ?k7 (Nat.lt_trans zq (by decide)) ?k9 ?kB ?km ?kl ?_ ?c1 ?c2 ?c3 ?c4
 (case k6=>k_is)
 (case k7=>k_is)
 (case k9=>exact BindsTo.of_eq rfl)
 (case kB=>exact locs rfl)
 (case km=>exact rfl)
 (case kl=>exact Nat.succ_pos _)
 (case c1=>exact rfl)
 (case c2=>exact rfl)
 (case c3=>exact rfl)
 (case c4=>decide)
 k_whole;with_reducible refine let_mvar% ?zq1:=(fun L' h1 k0=>?_:Fa3 _);Am neI (Bu:Tie _ (type_of% ?zq1)) (?zq1 _ _ _);intro hk0 F1 N1 l1;(try k_lt l1);(try dsimp only)
 refine Bw ?_;walk_at "eps2";rename_i Q9 E9;intro hq9 he9;have ndf:=nd;refine ndk5 nd ?_;intro n_x_dx n_x_da n_x_out n_x_wr n_dx_da n_dx_out n_dx_wr n_da_out n_da_wr n_out_wr
 repeat' ((fail_if_success (with_reducible show wpAny _ _ (execs (Stmt.If (Expr.Attribute _ "_root_done" _) _ _ _::_) _) _ _ _));walk_at "go")
 refine' wpAny_execs_cons (Ds (R:=fun s'=>∃ n3 n4 ol2,ol2.map (·.1)=ol.map (·.1)++Bl true (Bm pv (Txt.join Str.empty (ds.map (·.1))))∧Fr g L' s'.heap (fun y=>List.lookup y [("data",.str tx tt),("target",.str tg tt2),("self",.ref x)])∧News g L' s'.heap [(x,instObj 143 dx),(dx,dictOf (wd hsh tkn (.bool true) (.bool true) .none .none (.bool false) .none .none .none wr da de ns pm pr true false 0) ep),(da,listOf #[] n3),(out,listOf (strValues ol2).toArray n4),(wr,Aj out)]∧s'.os=os∧AllBare s'.gens) ?c1 ?c2)
 case c1 =>
  by_cases hds:ds=[]
  ·subst hds
   repeat' (first
    | ((with_reducible show Flow.next=_∧_);(rename Fr ..=>F9);(rename News ..=>N9);first | exact⟨rfl,_,_,_,e5,F9,N9,o5,b5⟩ | exact⟨rfl,_,_,_,by(rw [Bp,List.append_nil]),F9,N9,H.os,H.bare⟩)
    | ((with_reducible show Q9 _ _);refine hq9 _ _ ?_;(try dsimp only))
    | walk_at "go")
  ·have hsz:(!(strValues ds).toArray.isEmpty)=true:=Rv hds
   repeat' (first
    | ((with_reducible show wpAny _ _ (truthy (.ref da)) _ _ _);refine wpAny_truthy_list ⟨_,News.get (by k_asm) (by k_mem),rfl,_,rfl⟩ (Fj hdz) ?_;(try dsimp only))
    | ((with_reducible show Flow.next=_∧_);(rename Fr ..=>F9);(rename News ..=>N9);first | exact⟨rfl,_,_,_,e5,F9,N9,o5,b5⟩ | exact⟨rfl,_,_,_,by(rw [Bp,List.append_nil]),F9,N9,H.os,H.bare⟩)
    | ((with_reducible show wpAny _ _ (call (.ref 99) _) _ _ _);(rename Fr ..=>F9);(rename News ..=>N9);refine As [(x,instObj 143 dx),(dx,dictOf (wd hsh tkn (.bool true) (.bool true) .none .none (.bool false) .none .none .none wr da de ns pm pr true false 0) ep),(da,listOf (strValues ds).toArray n1),(out,listOf (strValues ol).toArray n2),(wr,Aj out)] [] F9 N9 H.os H.bare (by walk_at "l_mem") (by walk_at "l_mem") (by walk_at "l_notin") fun g₂ H₂ K₂ _ back=>Iu (X.keeps K₂) (T.keeps K₂) H₂ hh (Nat.lt_of_lt_of_le (Nat.succ_lt_succ zq) (by decide)) (Ai K₂ hpr) hok hdz ndf hdl hoz fun s5 n3 n4 ol2 e5 H5=>?_;obtain⟨F5,N5,o5,b5⟩:=back _ _ H5;clear back F9 N9 H₂ H5;(try clear g₂);revert s5 n3 n4 ol2;with_reducible refine let_mvar% ?ns11S4x9:=(fun s5 n3 n4 ol2=>?_:Fa4 _);Bk Cb (Ek:Tie _ (type_of% ?ns11S4x9)) (?ns11S4x9 _ _ _ _);intro e5 F5 N5 o5 b5;(try dsimp only))
    | ((with_reducible show Q9 _ _);refine hq9 _ _ ?_;(try dsimp only))
    | walk_at "go")
 refine exs3 ?_;with_reducible refine let_mvar% ?zq6:=(fun s6 n3 n4 ol2=>?_:Fa4 _);Bk Cb (Ek:Tie _ (type_of% ?zq6)) (?zq6 _ _ _ _);rintro⟨e5,F6,N6,o6,b6⟩
 (try dsimp only)
 have hoz2:=Sa e5 (Nat.le_trans (Dz _ _) (by decide)) hol
 repeat' (first
    | ((with_reducible show wpAny _ _ (callWith _ (.ref wr) _ _ _) _ _ _);refine Br ?_;(try dsimp only))
    | ((with_reducible show BmP _ _∧_);refine⟨⟨_,_,News.get (by k_asm) (by k_mem)⟩,?_⟩)
    | ((with_reducible show wpAny _ _ (call (.ref wr) _) _ _ _);(rename Fr ..=>F9);(rename News ..=>N9);refine Em F9 N9 (by k_mem) (by walk_at "l_upd") hoz2 ?_;clear F9 N9;walk_at "eps";rename_i h9;intro F9 N9;(try dsimp only))
    | ((with_reducible show wpAny _ _ (call (.ref 154) _) _ _ _);(rename Fr ..=>F9);(rename News ..=>N9);refine As [] [(x,instObj 143 dx),(dx,dictOf (wd hsh tkn (.bool true) (.bool true) .none .none (.bool false) .none .none .none wr da de ns pm pr true false 0) ep),(da,listOf #[] n3),(out,listOf (strValues ol2).toArray n4),(wr,Aj out)] F9 N9 o6 b6 (List.forall_mem_nil _) (by walk_at "l_mem") (fun _ _ z=>nomatch z) fun g₂ H₂ K₂ _ back=>Hc (X.keeps K₂) (T.keeps K₂) H₂ (Nat.lt_of_lt_of_le (Nat.succ_lt_succ zq) (by decide)) (Nat.le_trans htx (by decide)) fun s5 t5 H5=>?_;obtain⟨F5,N5,o5,b5⟩:=back _ _ H5;clear back F9 N9 H₂ H5;(try clear g₂);revert s5 t5;with_reducible refine let_mvar% ?ns11S2x11:=(fun s5 t5=>?_:Fa2 _);Al Cb (Bn:Tie _ (type_of% ?ns11S2x11)) (?ns11S2x11 _ _);intro  F5 N5 o5 b5;(try dsimp only))
    | ((with_reducible show LeaveM _ _ _ _ _);(rename Fr ..=>F9);(rename News ..=>N9);exact leaveM_ F9 N9 (by assumption) (by assumption) fun H'=>hN _ n3 _ (ol2++[(_,_)]) (by(rw [List.map_append,e5,List.append_assoc];rfl)) (by(rw [Av];exact H')))
    | ((with_reducible show Q9 _ _);refine hq9 _ _ ?_;(try dsimp only))
    | walk_at "go")
noncomputable def Gn(w:World)(A:Around)(s:Shared)(g:Heap)(os:OsState)(p:Program)(zw:List Str)(zr:ExcName→Option Value)(mg mb:Str→Option Value)(R:Result→Shared→Prop)(x dx:Addr)(hsh:Nat→Int)(tkn:Nat→Tok)(wr da de ns pm pr:Addr)(ep:Nat)(out:Addr)(n2:Nat)(ol:List (Str × Tok))(tx:Str)(tt:Tok):Prop :=
 ∀ (X:(hd11.heap_39 w.params).In g) (T:Top p zw zr mg mb g) (H:Ok g os [(x,instObj 143 dx),(dx,dictOf (wd hsh tkn (.bool true) (.bool true) .none .none (.bool false) .none .none .none wr da de ns pm pr true true 0) ep),(out,listOf (strValues ol).toArray n2),(wr,Aj out)] s) (hh:A.handled=none) (zq:A.depth<700) (hol:ol.length≤5000) (htx:tx.length≤1000) (hec:(Fv tx).length≤1000) (nd:([x,dx,out,wr]:List Addr).Nodup) (hN:∀ s' n4 ol3,ol3.map (·.1)=ol.map (·.1)++[Str.ofString "\n",Str.ofString "<!--"++Fv tx++Str.ofString "-->"]→Ok g os [(x,instObj 143 dx),(dx,dictOf (wd hsh tkn (.bool true) (.bool true) .none .none (.bool false) .none .none .none wr da de ns pm pr true true 0) ep),(out,listOf (strValues ol3).toArray n4),(wr,Aj out)] s'→R (.ok (.ret .none)) s'),codeAny (model rw_dn0283_11.row.prog w) A (.call (.ref 133) ⟨[.ref x,.str tx tt],[]⟩) R s
theorem Pt:∀ {a b c d e f g h i j k l m n o p q r s t u v w x y z a1},Gn a b c d e f g h i j k l m n o p q r s t u v w x y z a1:=by
 refine @(Ab (Ao neW)<|@(Ab neI<|@(Ab neI<|@(Ec neI<|let_mvar% ?n:=(fun w A s g os p zw zr mg mb R x dx hsh tkn wr da de ns pm pr ep out n2 ol tx tt=>?_:∀ a b c d e f g h i j k l m n o p q r s t u v w x y z a1,Gn a b c d e f g h i j k l m n o p q r s t u v w x y z a1);?n _ _ _ _ _ _ _ _ _ _ _ _ _ _ _ _ _ _ _ _ _ _ _ _ _ _ _))))
 intro X T H hh zq hol htx hec nd hN;revert X
 k_fill
 intro X
 refine' Cq (fun y=>List.lookup y [("text",.str tx tt),("self",.ref x)]) H X T ?k6 ?k7 (Nat.lt_trans zq (by decide)) ?k9 ?kB ?km ?kl ?_ ?c1 ?c2 ?c3 ?c4
 (case k6=>k_is)
 (case k7=>k_is)
 (case k9=>exact BindsTo.of_eq rfl)
 (case kB=>exact locs rfl)
 (case km=>exact rfl)
 (case kl=>exact Nat.succ_pos _)
 (case c1=>exact rfl)
 (case c2=>exact rfl)
 (case c3=>exact rfl)
 (case c4=>decide)
 k_whole;with_reducible refine let_mvar% ?zq1:=(fun L' h1 k0=>?_:Fa3 _);Am neI (Bu:Tie _ (type_of% ?zq1)) (?zq1 _ _ _);intro hk0 F1 N1 l1;(try k_lt l1);(try dsimp only)
 refine Bw ?_;walk_at "eps2";rename_i Q9 E9;intro hq9 he9;refine ndk4 nd ?_;intro n_x_dx n_x_out n_x_wr n_dx_out n_dx_wr n_out_wr
 have hoz:=Sa (ol:=ol) (ol2:=ol) (l:=[]) (List.append_nil _).symm (by decide) hol
 repeat' (first
    | ((with_reducible show wpAny _ _ (callWith _ (.ref wr) _ _ _) _ _ _);refine Br ?_;(try dsimp only))
    | ((with_reducible show BmP _ _∧_);refine⟨⟨_,_,News.get (by k_asm) (by k_mem)⟩,?_⟩)
    | ((with_reducible show wpAny _ _ (call (.ref wr) _) _ _ _);(rename Fr ..=>F9);(rename News ..=>N9);refine Em F9 N9 (by k_mem) (by walk_at "l_upd") hoz ?_;clear F9 N9;walk_at "eps";rename_i h9;intro F9 N9;(try dsimp only))
    | ((fail_if_success (with_reducible show wpAny _ _ (execs (Stmt.Expr (Expr.Call _ [Expr.JoinedStr _ _] _ _) _::_) _) _ _ _));walk_at "go"))
 (rename News ..=>N8)
 rw [← Av] at N8
 obtain⟨ol2,e2,N9⟩:∃ ol2:List (Str × Tok),ol2.map (·.1)=ol.map (·.1)++[Str.ofString "\n"]∧News g L' h9 [(x,instObj 143 dx),(dx,dictOf (wd hsh tkn (.bool true) (.bool true) .none .none (.bool false) .none .none .none wr da de ns pm pr true true 0) ep),(out,listOf (strValues ol2).toArray (n2+1)),(wr,Aj out)]:=⟨_,by(rw [List.map_append];rfl),N8⟩
 clear N8
 have hoz2:=Sa e2 (by decide) hol
 repeat' (first
    | ((with_reducible show wpAny _ _ (callWith _ (.ref wr) _ _ _) _ _ _);refine Br ?_;(try dsimp only))
    | ((with_reducible show BmP _ _∧_);refine⟨⟨_,_,News.get (by k_asm) (by k_mem)⟩,?_⟩)
    | ((with_reducible show wpAny _ _ (call (.ref wr) _) _ _ _);(rename Fr ..=>F9);(rename News ..=>N9);refine Em F9 N9 (by k_mem) (by walk_at "l_upd") hoz2 ?_;clear F9 N9;walk_at "eps";rename_i h9;intro F9 N9;(try dsimp only))
    | ((with_reducible show wpAny _ _ (call (.ref 154) _) _ _ _);(rename Fr ..=>F9);(rename News ..=>N9);refine As [] [(x,instObj 143 dx),(dx,dictOf (wd hsh tkn (.bool true) (.bool true) .none .none (.bool false) .none .none .none wr da de ns pm pr true true 0) ep),(out,listOf (strValues ol2).toArray (n2+1)),(wr,Aj out)] F9 N9 H.os H.bare (List.forall_mem_nil _) (by walk_at "l_mem") (fun _ _ z=>nomatch z) fun g₂ H₂ K₂ _ back=>Hc (X.keeps K₂) (T.keeps K₂) H₂ (Nat.lt_of_lt_of_le (Nat.succ_lt_succ zq) (by decide)) (Nat.le_trans htx (by decide)) fun s5 t5 H5=>?_;obtain⟨F5,N5,o5,b5⟩:=back _ _ H5;clear back F9 N9 H₂ H5;(try clear g₂);revert s5 t5;with_reducible refine let_mvar% ?ns11S2x12:=(fun s5 t5=>?_:Fa2 _);Al Cb (Bn:Tie _ (type_of% ?ns11S2x12)) (?ns11S2x12 _ _);intro  F5 N5 o5 b5;(try dsimp only))
    | ((with_reducible show LeaveM _ _ _ _ _);(rename Fr ..=>F9);(rename News ..=>N9);exact leaveM_ F9 N9 (by assumption) (by assumption) fun H'=>hN _ _ (ol2++[(_,_)]) (by(rw [List.map_append,e2,List.append_assoc];rfl)) (by(rw [Av];exact H')))
    | ((with_reducible show Q9 _ _);refine hq9 _ _ ?_;(try dsimp only))
    | walk_at "go")
end
theorem rs12:True∧True:=by
 (try walk1);(try w_top off)
 all_goals (first | trivial | exact ⟨trivial,trivial⟩)
section

noncomputable def Ly(w:World)(A:Around)(s:Shared)(g:Heap)(os:OsState)(p:Program)(zw:List Str)(zr:ExcName→Option Value)(mg mb:Str→Option Value)(R:Result→Shared→Prop)(x dx:Addr)(hsh:Nat→Int)(tkn:Nat→Tok)(wr da de ns pm pr:Addr)(rd:Bool)(ep:Nat)(out:Addr)(n1 n2:Nat)(ds ol:List (Str × Tok))(pre:List Value)(pv:Bool)(dl nl:Addr)(its nits:Array Value)(n nde nns nn npr:Nat)(dlv nlv:List (Addr × Array Value))(dps nps:List Pr)(q uri tag:Str)(tq:Tok):Prop :=
 ∀ (X:(hd11.heap_39 w.params).In g) (T:Top p zw zr mg mb g) (H:Ok g os [(x,instObj 143 dx),(dx,dictOf (wd hsh tkn (.bool true) (.bool true) .none .none (.bool false) .none .none .none wr da de ns pm pr true rd 0) ep),(da,listOf (strValues ds).toArray n1),(out,listOf (strValues ol).toArray n2),(wr,Aj out),(de,listOf ((dlv++[(dl,its)]).map fun p=>Value.ref p.1).toArray nde),(dl,listOf its n),(ns,listOf ((nlv++[(nl,nits)]).map fun p=>Value.ref p.1).toArray nns),(nl,listOf nits nn),(pr,listOf (pre++[Value.bool pv]).toArray npr)] s) (hh:A.handled=none) (zq:A.depth<700) (hok:JoinOk Str.empty (ds.map (·.1))=true) (hdz:(strValues ds).toArray.size≤sizeLine) (hdl:(Txt.join Str.empty (ds.map (·.1))).length≤2000) (hoz:(strValues ol).toArray.size≤sizeLine) (hDl:∀ p∈dlv,g.IsList p.1 p.2) (hDz:∀ p∈dlv++[(dl,its)],(p.2.size:Int)<2 ^ 63) (hDp:All2 (Cg g) (comes (dlv++[(dl,its)])) dps) (hDn:dps.length<3000) (hDs:∀ q∈dps,q.1.length≤200∧q.2.length≤200) (hNl:∀ p∈nlv,g.IsList p.1 p.2∧(p.2.size:Int)<2 ^ 63) (hNp:All2 (Cg g) (comes (nlv++[(nl,nits)])) nps) (hNq:∀ q∈nps,q.1.length≤200∧q.2.length≤200) (hnz:(nits.size:Int)<2 ^ 63) (hiz:its.size≤sizeLine) (hol:ol.length≤5000) (hq:q.length≤200) (hut:uri.length≤200∧tag.length≤200) (hn:Mv q uri tag=true) (hsome:qn dps nps uri tag≠none) (hl1:dlv.length≤1000) (hl2:nlv.length≤1000) (hl3:pre.length≤1000) (nd:([x,dx,da,out,wr,de,dl,ns,nl,pr]:List Addr).Nodup) (hN:∀ s' n3 n4 ol3 txt o rd2,qn dps nps uri tag=some (txt,o)→rd2=decide (pre.length=1)→ol3.map (·.1)=ol.map (·.1)++(Bl true (Bm pv (Txt.join Str.empty (ds.map (·.1))))++[Str.ofString "</"++txt++Str.ofString ">"])→Ok g os [(x,instObj 143 dx),(dx,dictOf (wd hsh tkn (.bool true) (.bool true) .none .none (.bool false) .none .none .none wr da de ns pm pr true rd2 0) ep),(da,listOf #[] n3),(out,listOf (strValues ol3).toArray n4),(wr,Aj out),(de,listOf (dlv.map fun p=>Value.ref p.1).toArray (nde+1)),(ns,listOf (nlv.map fun p=>Value.ref p.1).toArray (nns+1)),(pr,listOf pre.toArray (npr+1))] s'→R (.ok (.ret .none)) s'),codeAny (model rw_dn0283_11.row.prog w) A (.call (.ref 126) ⟨[.ref x,.str q tq],[]⟩) R s
theorem Xe:∀ {w A s g os p zw zr mg mb R x dx hsh tkn wr da de ns pm pr rd ep out n1 n2 ds ol pre pv dl nl its nits n nde nns nn npr dlv nlv dps nps q uri tag tq},Ly w A s g os p zw zr mg mb R x dx hsh tkn wr da de ns pm pr rd ep out n1 n2 ds ol pre pv dl nl its nits n nde nns nn npr dlv nlv dps nps q uri tag tq:=by
 refine @(Ab (Ao neW)<|@(Ab neI<|@(Ab neI<|@(Ab neI<|@(Ab neI<|@(Eu neI<|let_mvar% ?n:=(fun w A s g os p zw zr mg mb R x dx hsh tkn wr da de ns pm pr rd ep out n1 n2 ds ol pre pv dl nl its nits n nde nns nn npr dlv nlv dps nps q uri tag tq=>?_:∀ a b c d e f g h i j k l m n o p q r s t u v w x y z a1 b1 c1 d1 e1 f1 g1 h1 i1 j1 k1 l1 m1 n1 o1 p1 q1 r1 s1 t1 u1,Ly a b c d e f g h i j k l m n o p q r s t u v w x y z a1 b1 c1 d1 e1 f1 g1 h1 i1 j1 k1 l1 m1 n1 o1 p1 q1 r1 s1 t1 u1);?n _ _ _ _ _ _ _ _ _ _ _ _ _ _ _ _ _ _ _ _ _ _ _ _ _ _ _ _ _ _ _ _ _ _ _ _ _ _ _ _ _ _ _ _ _ _ _))))))
 intro X T H hh zq hok hdz hdl hoz hDl hDz hDp hDn hDs hNl hNp hNq hnz hiz hol hq hut hn hsome hl1 hl2 hl3 nd hN;revert X
 k_fill
 intro X
 refine' Cq (fun y=>List.lookup y [("tag",.str q tq),("self",.ref x)]) H X T ?k6 ?k7 (Nat.lt_trans zq (by decide)) ?k9 ?kB ?km ?kl ?_ ?c1 ?c2 ?c3 ?c4
 (case k6=>k_is)
 (case k7=>k_is)
 (case k9=>exact BindsTo.of_eq rfl)
 (case kB=>exact locs rfl)
 (case km=>exact rfl)
 (case kl=>exact Nat.succ_pos _)
 (case c1=>exact rfl)
 (case c2=>exact rfl)
 (case c3=>exact rfl)
 (case c4=>decide)
 k_whole;with_reducible refine let_mvar% ?zq1:=(fun L' h1 k0=>?_:Fa3 _);Am neI (Bu:Tie _ (type_of% ?zq1)) (?zq1 _ _ _);intro hk0 F1 N1 l1;(try k_lt l1);(try dsimp only)
 refine Bw ?_;walk_at "eps2";rename_i Q9 E9;intro hq9 he9
 have hz1:∀ {k:Nat},k≤1000→k+1≤sizeLine:=fun h=>by rw [sizeLine_eq];exact(Nl fun hn1=>fk [_] (.e V0 (.k 1000) (.e (.s (.k 16777216)) (.s V0) K0)) rfl h hn1)
 have ndf:([x,dx,da,out,wr]:List Addr).Nodup:=Ub nd;refine ndk10 nd ?_;intro n_x_dx n_x_da n_x_out n_x_wr n_x_de n_x_dl n_x_ns n_x_nl n_x_pr n_dx_da n_dx_out n_dx_wr n_dx_de n_dx_dl n_dx_ns n_dx_nl n_dx_pr n_da_out n_da_wr n_da_de n_da_dl n_da_ns n_da_nl n_da_pr n_out_wr n_out_de n_out_dl n_out_ns n_out_nl n_out_pr n_wr_de n_wr_dl n_wr_ns n_wr_nl n_wr_pr n_de_dl n_de_ns n_de_nl n_de_pr n_dl_ns n_dl_nl n_dl_pr n_ns_nl n_ns_pr n_nl_pr
 repeat' ((fail_if_success (with_reducible show wpAny _ _ (execs (Stmt.If (Expr.Attribute _ "_data" _) _ _ _::_) _) _ _ _));walk_at "go")
 refine' wpAny_execs_cons (Ds (R:=fun s'=>∃ n3 n4 ol2,ol2.map (·.1)=ol.map (·.1)++Bl true (Bm pv (Txt.join Str.empty (ds.map (·.1))))∧Fr g L' s'.heap (fun y=>List.lookup y [(Str.ofString "tag",Value.str q tq),(Str.ofString "self",Value.ref x)])∧News g L' s'.heap [(x,instObj 143 dx),(dx,dictOf (wd hsh tkn (.bool true) (.bool true) .none .none (.bool false) .none .none .none wr da de ns pm pr true rd 0) ep),(da,listOf #[] n3),(out,listOf (strValues ol2).toArray n4),(wr,Aj out),(de,listOf ((dlv++[(dl,its)]).map fun p=>Value.ref p.1).toArray nde),(dl,listOf its n),(ns,listOf ((nlv++[(nl,nits)]).map fun p=>Value.ref p.1).toArray nns),(nl,listOf nits nn),(pr,listOf (pre++[Value.bool pv]).toArray npr)]∧s'.os=os∧AllBare s'.gens) ?c1 ?c2)
 case c1 =>
  by_cases hds:ds=[]
  ·subst hds
   repeat' (first
    | ((with_reducible show Flow.next=_∧_);(rename Fr ..=>F9);(rename News ..=>N9);first | exact⟨rfl,_,_,_,e5,F9,N9,o5,b5⟩ | exact⟨rfl,_,_,_,by(rw [Bp,List.append_nil]),F9,N9,H.os,H.bare⟩)
    | ((with_reducible show Q9 _ _);refine hq9 _ _ ?_;(try dsimp only))
    | walk_at "go")
  ·have hsz:(!(strValues ds).toArray.isEmpty)=true:=Rv hds
   repeat' (first
    | ((with_reducible show wpAny _ _ (truthy (.ref da)) _ _ _);refine wpAny_truthy_list ⟨_,News.get (by k_asm) (by k_mem),rfl,_,rfl⟩ (Fj hdz) ?_;(try dsimp only))
    | ((with_reducible show Flow.next=_∧_);(rename Fr ..=>F9);(rename News ..=>N9);first | exact⟨rfl,_,_,_,e5,F9,N9,o5,b5⟩ | exact⟨rfl,_,_,_,by(rw [Bp,List.append_nil]),F9,N9,H.os,H.bare⟩)
    | ((with_reducible show wpAny _ _ (call (Value.ref 99) _) _ _ _);(rename Fr ..=>F9);(rename News ..=>N9);refine As [(x,instObj 143 dx),(dx,dictOf (wd hsh tkn (.bool true) (.bool true) .none .none (.bool false) .none .none .none wr da de ns pm pr true rd 0) ep),(da,listOf (strValues ds).toArray n1),(out,listOf (strValues ol).toArray n2),(wr,Aj out)] [(de,listOf ((dlv++[(dl,its)]).map fun p=>Value.ref p.1).toArray nde),(dl,listOf its n),(ns,listOf ((nlv++[(nl,nits)]).map fun p=>Value.ref p.1).toArray nns),(nl,listOf nits nn),(pr,listOf (pre++[Value.bool pv]).toArray npr)] F9 N9 H.os H.bare (by walk_at "l_mem") (by walk_at "l_mem") (by walk_at "l_notin") fun g₂ H₂ K₂ r₂ back=>Iu (X.keeps K₂) (T.keeps K₂) H₂ hh (Nat.lt_of_lt_of_le (Nat.succ_lt_succ zq) (by decide)) ⟨_,r₂ (pr,_) (by k_mem),rfl,_,rfl⟩ hok hdz ndf hdl hoz fun s5 n3 n4 ol2 e5 H5=>?_;obtain⟨F5,N5,o5,b5⟩:=back _ _ H5;clear back F9 N9 H₂ H5;(try clear g₂);revert s5 n3 n4 ol2;with_reducible refine let_mvar% ?ns12S4x4:=(fun s5 n3 n4 ol2=>?_:Fa4 _);Bk Cb (Ek:Tie _ (type_of% ?ns12S4x4)) (?ns12S4x4 _ _ _ _);intro e5 F5 N5 o5 b5;(try dsimp only))
    | ((with_reducible show Q9 _ _);refine hq9 _ _ ?_;(try dsimp only))
    | walk_at "go")
 refine exs3 ?_;with_reducible refine let_mvar% ?zq3:=(fun s6 n3 n4 ol2=>?_:Fa4 _);Bk Cb (Ek:Tie _ (type_of% ?zq3)) (?zq3 _ _ _ _);rintro⟨e5,F6,N6,o6,b6⟩
 (try dsimp only)
 have hoz2:=Sa e5 (Nat.le_trans (Dz _ _) (by decide)) hol
 refine' wpAny_execs_cons (Ds (R:=fun s'=>∃ n4 ol3 txt o,qn dps nps uri tag=some (txt,o)∧ol3.map (·.1)=ol.map (·.1)++(Bl true (Bm pv (Txt.join Str.empty (ds.map (·.1))))++[Str.ofString "</"++txt++Str.ofString ">"])∧Fr g L' s'.heap (fun y=>List.lookup y [(Str.ofString "tag",Value.str q tq),(Str.ofString "self",Value.ref x)])∧News g L' s'.heap [(x,instObj 143 dx),(dx,dictOf (wd hsh tkn (.bool true) (.bool true) .none .none (.bool false) .none .none .none wr da de ns pm pr true rd 0) ep),(da,listOf #[] n3),(out,listOf (strValues ol3).toArray n4),(wr,Aj out),(de,listOf ((dlv++[(dl,its)]).map fun p=>Value.ref p.1).toArray nde),(ns,listOf ((nlv++[(nl,nits)]).map fun p=>Value.ref p.1).toArray nns),(nl,listOf nits nn),(pr,listOf (pre++[Value.bool pv]).toArray npr)]∧s'.os=os∧AllBare s'.gens) ?d1 ?d2)
 case d1 =>
  repeat' (first
    | ((with_reducible show wpAny _ _ (callWith _ (.ref wr) _ _ _) _ _ _);refine Br ?_;(try dsimp only))
    | ((with_reducible show BmP _ _∧_);refine⟨⟨_,_,News.get (by k_asm) (by k_mem)⟩,?_⟩)
    | ((with_reducible show wpAny _ _ (call (.ref wr) _) _ _ _);(rename Fr ..=>F9);(rename News ..=>N9);refine Em F9 N9 (by k_mem) (by walk_at "l_upd") hoz2 ?_;clear F9 N9;walk_at "eps";rename_i h9;intro F9 N9;(try dsimp only))
    | ((with_reducible show wpAny _ _ (call (Value.ref 83) _) _ _ _);(rename Fr ..=>F9);(rename News ..=>N9);refine As [(x,instObj 143 dx),(dx,dictOf (wd hsh tkn (.bool true) (.bool true) .none .none (.bool false) .none .none .none wr da de ns pm pr true rd 0) ep),(dl,listOf its n)] [(da,listOf #[] n3),(out,listOf (strValues ol2).toArray n4),(wr,Aj out),(de,listOf ((dlv++[(dl,its)]).map fun p=>Value.ref p.1).toArray nde),(ns,listOf ((nlv++[(nl,nits)]).map fun p=>Value.ref p.1).toArray nns),(nl,listOf nits nn),(pr,listOf (pre++[Value.bool pv]).toArray npr)] F9 N9 o6 b6 (by walk_at "l_mem") (by walk_at "l_mem") (by walk_at "l_notin") fun g₂ H₂ K₂ r₂ back=>Mx (dlv:=dlv) (nlv:=nlv++[(nl,nits)]) (dps:=dps) (nps:=nps) (uri:=uri) (tag:=tag) (X.keeps K₂) (T.keeps K₂) H₂ ⟨_,r₂ (de,_) (by k_mem),rfl,_,rfl⟩ (fun p hp=>Ai K₂ (hDl p hp)) hDz (hDp.mono fun _ _ z=>z.keeps K₂) hDn (fun z hz=>⟨Nat.le_trans (hDs z hz).1 (by decide),Nat.le_trans (hDs z hz).2 (by decide)⟩) ⟨_,r₂ (ns,_) (by k_mem),rfl,_,rfl⟩ ?hNl (hNp.mono fun _ _ z=>z.keeps K₂) (fun z hz=>⟨Nat.le_trans (hNq z hz).1 (by decide),Nat.le_trans (hNq z hz).2 (by decide)⟩) (by walk_at "l_ne") (by walk_at "l_ne") hiz hh (Nat.lt_of_lt_of_le (Nat.succ_lt_succ zq) (by decide)) (Nat.le_trans hq (by decide)) ⟨Nat.le_trans hut.1 (by decide),Nat.le_trans hut.2 (by decide)⟩ hn (fun s7 txt ta t1 t2 t3 hqn l1 l2 l3 H7=>?_) (fun s7 txt pf ta tb t1 t2 t3 t4 t5 hqn l1 l2 l3 l4 l5 l6 l7 H7=>?_) hsome;(case hNl=>(intro z hz;rcases List.mem_append.mp hz with hz | hz;exact⟨Ai K₂ (hNl z hz).1,(hNl z hz).2⟩;(rw [List.mem_singleton.mp hz];exact⟨⟨_,r₂ (nl,_) (by k_mem),rfl,_,rfl⟩,hnz⟩)));all_goals (have nto:ta≠out:=Ie H7 r₂ (List.Mem.head _) (show (out,_)∈_ by k_mem);(try (have ntb:tb≠out:=Ie H7 r₂ (show (tb,_)∈_ by k_mem) (show (out,_)∈_ by k_mem)));obtain⟨F7,N7,o7,b7⟩:=back _ _ H7;simp only [List.cons_append,List.nil_append] at N7;have hql:txt.length≤1000:=Nat.le_trans (Yg hqn (fun z hz=>(hDs z hz).2) (fun z hz=>(hNq z hz).2) hut.2) (by decide);replace l1:=ltN l1;replace l2:=ltN l2;replace l3:=ltN l3;clear back F9 N9 H₂ H7;(try dsimp only)))
    | ((first | (with_reducible show Flow.next=_∧_) | (with_reducible show True∧_));(rename Fr ..=>F9);(rename News ..=>N9);exact⟨by first | exact rfl | exact trivial,_,ol2++[(_,_)],_,_,hqn,by(rw [List.map_append,e5,List.append_assoc];rfl),F9,by(rw [Av];exact News.sub N9 (by walk_at "l_mem")),by assumption,by assumption⟩)
    | ((with_reducible show Q9 _ _);refine hq9 _ _ ?_;(try dsimp only))
    | walk_at "go")
 refine exs4 ?_;with_reducible refine let_mvar% ?zq4:=(fun s8 n4 ol3 txt o=>?_:Fa5 _);Ee Cb (Lm:Tie _ (type_of% ?zq4)) (?zq4 _ _ _ _ _);rintro⟨hqn,e8,F8,N8,o8,b8⟩
 (try dsimp only)
 rw [List.map_append,List.map_append] at N8
 (try dsimp only [List.map] at N8)
 repeat' (first
    | ((with_reducible show wpAny _ _ (call (.builtin "list.pop") _) _ _ _);(try dsimp only);(with_reducible show wpAny _ _ (call _ [.ref pr]) _ _ _);(rename Fr ..=>F9);(rename News ..=>N9);refine Sf F9 N9 (by walk_at "l_upd") (hz1 hl3) ?_;clear F9 N9;walk_at "eps";rename_i h9;intro F9 N9;(try dsimp only))
    | ((with_reducible show wpAny _ _ (call (.builtin "list.pop") _) _ _ _);(try dsimp only);(with_reducible show wpAny _ _ (call _ [.ref de]) _ _ _);(rename Fr ..=>F9);(rename News ..=>N9);refine Sf F9 N9 (by walk_at "l_upd") (hz1 (by(rw [List.length_map];exact hl1))) ?_;clear F9 N9;walk_at "eps";rename_i h9;intro F9 N9;(try dsimp only))
    | ((with_reducible show wpAny _ _ (call (.builtin "list.pop") _) _ _ _);(try dsimp only);(with_reducible show wpAny _ _ (call _ [.ref ns]) _ _ _);(rename Fr ..=>F9);(rename News ..=>N9);refine Sf F9 N9 (by walk_at "l_upd") (hz1 (by(rw [List.length_map];exact hl2))) ?_;clear F9 N9;walk_at "eps";rename_i h9;intro F9 N9;(try dsimp only))
    | ((with_reducible show wpAny _ _ (setAttr (.ref x) _ _) _ _ _);k_dflt (refine' set_dict ?k1 ?k2 ?k3 ?k4 ?k5 ?k6 ?k7 ?k8 ?k9 ?k10 ?k11 ?k12 ?k13 ?_;(case k1=>k_asm);(case k2=>k_asm);(case k3=>k_asm);(case k4=>k_inst);(case k5=>exact rfl);(case k6=>k_is);(case k7=>k_is);(case k8=>k_is);(case k9=>k_is);(case k10=>k_get);(case k11=>exact put_rd);(case k12=>walk_at "l_upd");(case k13=>exact Nat.le_of_ble_eq_true rfl);k_whole;walk_at "eps";rename_i h9;intro F9 N9;(try k_sweep)))
    | ((with_reducible show wpAny _ _ (call (.builtin "len") [.ref pr]) _ _ _);refine call_len_list ⟨_,News.get (by k_asm) (by k_mem),rfl,_,rfl⟩ (Fj (by(rw [List.size_toArray,sizeLine_eq];exact(Nl fun hn1=>fk [_] (.e V0 (.k 1000) (.e (.s (.k 16777216)) V0 K0)) rfl hl3 hn1)))) ?_;(try dsimp only))
    | ((with_reducible show Q9 _ _);refine hq9 _ _ ?_;(try dsimp only))
    | walk_at "go")
 rename News ..=>N9
 rename Fr ..=>F9
 refine leaveM_ F9 (News.sub N9 (by walk_at "l_mem")) o8 b8 fun H'=>hN _ n3 n4 ol3 txt o _ hqn ?_ e8 H'
 rw [Bool.eq_iff_iff,beq_iff_eq,decide_eq_true_eq,List.size_toArray]
 lia
end
section

set_option genSizeOf false in
set_option genInjectivity false in
structure FD where
 (dx wr da de ns pm pr out:Addr)
 hsh:Nat→Int
 tkn:Nat→Tok
 (ep n1 n2 nde nns npr:Nat)
 (ds ol:List (Str × Tok))
 (dlv nlv:List (Addr × Array Value))
 rest:List (Addr × Obj)
theorem Dj:Nonempty FD:=⟨⟨0,0,0,0,0,0,0,0,fun _=>0,fun _=>default,0,0,0,0,0,0,[],[],[],[],[]⟩⟩
theorem Ru:Nonempty WS:=⟨⟨false,false,[],[],[],[],[]⟩⟩
theorem Qb:Nonempty Told:=⟨.data Str.empty⟩
noncomputable abbrev FD.base(f:FD)(w:WS)(x:Addr):List (Addr × Obj):=[(x,instObj 143 f.dx),(f.dx,dictOf (wd f.hsh f.tkn (.bool true) (.bool true) .none .none (.bool false) .none .none .none f.wr f.da f.de f.ns f.pm f.pr w.seen w.done 0) f.ep),(f.da,listOf (strValues f.ds).toArray f.n1),(f.out,listOf (strValues f.ol).toArray f.n2),(f.wr,Aj f.out),(f.de,listOf (f.dlv.map fun p=>.ref p.1).toArray f.nde),(f.ns,listOf (f.nlv.map fun p=>.ref p.1).toArray f.nns),(f.pr,listOf (w.pre.map .bool).toArray f.npr)]
noncomputable abbrev FD.own(f:FD)(w:WS)(x:Addr):List (Addr × Obj):=[(x,instObj 143 f.dx),(f.dx,dictOf (wd f.hsh f.tkn (.bool true) (.bool true) .none .none (.bool false) .none .none .none f.wr f.da f.de f.ns f.pm f.pr w.seen w.done 0) f.ep),(f.da,listOf (strValues f.ds).toArray f.n1),(f.out,listOf (strValues f.ol).toArray f.n2),(f.wr,Aj f.out),(f.de,listOf (f.dlv.map fun p=>.ref p.1).toArray f.nde),(f.ns,listOf (f.nlv.map fun p=>.ref p.1).toArray f.nns),(f.pr,listOf (w.pre.map .bool).toArray f.npr)]++f.rest
noncomputable abbrev FD.eight(f:FD)(x:Addr):List Addr:=[x,f.dx,f.da,f.out,f.wr,f.de,f.ns,f.pr]
abbrev FD.Off(f:FD)(x:Addr)(tabs:List (Addr × Obj)):Prop:=∀ r∈tabs,r.1∉f.eight x∧∀ q∈f.rest,r.1≠q.1
structure FD.Is (f:FD) (w:WS) (x:Addr):Prop where
 data:f.ds.map (·.1)=w.data
 out:f.ol.map (·.1)=w.out
 dl:∀ p∈f.dlv,∃ n,(p.1,listOf p.2 n)∈f.rest
 nl:∀ p∈f.nlv,∃ n,(p.1,listOf p.2 n)∈f.rest
 dp:All2 (fun(p:Addr × Array Value) l=>All2 (Ap f.rest) p.2.toList l) f.dlv w.decl
 np:All2 (fun(p:Addr × Array Value) l=>All2 (Ap f.rest) p.2.toList l) f.nlv w.nss
 nd:(f.eight x).Nodup
 off:∀ r∈f.rest,r.1∉f.eight x
 ndl:(f.dlv.map (·.1)++f.nlv.map (·.1)).Nodup
section
variable{f:FD}{w:WS}{x:Addr}{tabs:List (Addr × Obj)}{n:Nat}
theorem FD.Is.pre(hI:f.Is w x)(hT:f.Off x tabs)(k:Nat):(∀ q∈(f.base w x).take k,q∈f.own w x++tabs)∧(∀ q∈(f.base w x).drop k++(f.rest++tabs),q∈f.own w x++tabs)∧(∀ q∈(f.base w x).drop k++(f.rest++tabs),q.1∉((f.base w x).take k).map (·.1)):=by
 have e8:f.eight x=(f.base w x).map (·.1):=rfl;have nd:=hI.nd;rw [e8,← List.take_append_drop k (f.base w x),List.map_append] at nd
 refine⟨fun q hq=>Ml _ (Ml _ (List.mem_of_mem_take hq)),fun q hq=>?_,fun q hq z=>?_⟩
 ·rcases List.mem_append.mp hq with h | h
  ·exact Ml _ (Ml _ (List.mem_of_mem_drop h))
  ·rcases List.mem_append.mp h with h | h
   ·exact Ml _ (Mr _ h)
   ·exact Mr _ h
 ·have z8:q.1∈f.eight x:=by
   obtain⟨r,hr,e⟩:=List.mem_map.mp z;rw [← e,e8];exact List.mem_map_of_mem (List.mem_of_mem_take hr)
  rcases List.mem_append.mp hq with h | h
  ·exact(List.nodup_append.mp nd).2.2 _ z _ (List.mem_map_of_mem h) rfl
  ·rcases List.mem_append.mp h with h | h
   ·exact hI.off q h z8
   ·exact(hT q h).1 z8
theorem FD.Is.preN(hI:f.Is w x)(hT:f.Off x tabs)(k:Nat){nl:Addr}{o:Obj}(hnl:(nl,o)∈f.rest){filt:List (Addr × Obj)}(hout:∀ r∈filt,r∈f.rest∧r.1≠nl) :
  (∀ q∈(f.base w x).take k++[(nl,o)],q∈f.own w x++tabs)∧(∀ q∈(f.base w x).drop k++(filt++tabs),q∈f.own w x++tabs)∧(∀ q∈(f.base w x).drop k++(filt++tabs),q.1∉((f.base w x).take k++[(nl,o)]).map (·.1)):=by
 obtain⟨p1,p2,p3⟩:=hI.pre hT k
 have up:∀ q∈(f.base w x).drop k++(filt++tabs),q∈(f.base w x).drop k++(f.rest++tabs)∧q.1≠nl:=fun q hq=>by
  rcases List.mem_append.mp hq with h | h
  ·refine⟨Ml _ h,fun e=>hI.off _ hnl ?_⟩
   show nl∈f.eight x
   rw [← e];exact List.mem_map_of_mem (f:=(·.1)) (l:=f.base w x) (List.mem_of_mem_drop h)
  ·rcases List.mem_append.mp h with h | h
   ·exact⟨Mr _ (Ml _ (hout q h).1),(hout q h).2⟩
   ·exact⟨Mr _ (Mr _ h),(hT q h).2 _ hnl⟩
 refine⟨fun q hq=>?_,fun q hq=>p2 q (up q hq).1,fun q hq z=>?_⟩
 ·rcases List.mem_append.mp hq with h | h
  ·exact p1 q h
  ·rw [List.mem_singleton.mp h];exact Ml _ (Mr _ hnl)
 ·rw [List.map_append] at z
  rcases List.mem_append.mp z with z | z
  ·exact p3 q (up q hq).1 z
  ·exact(up q hq).2 (List.mem_singleton.mp z)
theorem FD.Is.bounds(hI:f.Is w x)(hf:Fit n w)(hn:n≤100):JoinOk Str.empty (f.ds.map (·.1))=true∧(strValues f.ds).toArray.size≤sizeLine∧(Txt.join Str.empty (f.ds.map (·.1))).length≤2000∧(strValues f.ol).toArray.size≤sizeLine∧f.ol.length≤400:=by
 have h1:=Vi hf hn;have h2:=hf.d1;have h3:=hf.o1;rw [← hI.data] at h1;rw [← hI.data,List.length_map] at h2;rw [← hI.out,List.length_map] at h3
 have e:∀ l:List (Str × Tok),(strValues l).toArray.size=l.length:=fun l=>by simp [strValues]
 rw [e,e,sizeLine_eq]
 exact⟨h1.1,by exact(Nl fun hn1=>fk [_,_] (.e V0 (.k 100) (.e V1 V0 (.e (.s (.k 16777216)) V1 K0))) rfl hn h2 hn1),h1.2,by exact(Nl fun hn1=>fk [_,_] (.c 4 V0 (.k 100) (.e V1 (.m 4 V0) (.e (.s (.k 16777216)) V1 K0))) rfl hn h3 hn1),by exact(Nl fun hn1=>fk [_,_] (.c 4 V0 (.k 100) (.e V1 (.m 4 V0) (.e (.s (.k 400)) V1 K0))) rfl hn h3 hn1)⟩
theorem Fit.lastOf(hf:Fit n w):∃ b pv,w.pre=b++[pv]∧w.core.last=pv∧w.pre.map Value.bool=b.map Value.bool++[Value.bool pv]:=by
 obtain⟨b,pv,e⟩:=Bz hf.l4
 exact⟨b,pv,e,by unfold KS.last WS.core;rw [e];simp [List.getLastD_eq_getLast?],by rw [e];simp⟩
theorem FD.Is.nd3(hI:f.Is w x):([x,f.dx,f.da]:List Addr).Nodup:=List.Nodup.sublist (List.take_sublist 3 (f.eight x)) hI.nd
theorem FD.Is.nd5(hI:f.Is w x):([x,f.dx,f.da,f.out,f.wr]:List Addr).Nodup:=List.Nodup.sublist (List.take_sublist 5 (f.eight x)) hI.nd
theorem FD.Is.nd4(hI:f.Is w x):([x,f.dx,f.out,f.wr]:List Addr).Nodup:=List.Nodup.sublist (.cons_cons _ (.cons_cons _ (.cons _ (List.Sublist.refl _)))) hI.nd5
end
theorem Ib{l:List Addr}{a:Addr}(h:l.Nodup)(ha:a∉l):(l++[a]).Nodup:=List.nodup_append.mpr ⟨h,(by simp),fun b hb c hc e=>ha (by rw [← List.mem_singleton.mp hc,← e];exact hb)⟩
theorem nd10_of{a b c d e f g h i j:Addr}(n8:([a,b,c,d,e,f,g,h]:List Addr).Nodup)(hi:i∉[a,b,c,d,e,f,g,h])(hj:j∉[a,b,c,d,e,f,g,h])(hij:i≠j):([a,b,c,d,e,f,i,g,j,h]:List Addr).Nodup:=by
 have p:([a,b,c,d,e,f,i,g,j,h]:List Addr).Perm ([a,b,c,d,e,f,g,h]++[i]++[j]):=by
  refine .cons _ (.cons _ (.cons _ (.cons _ (.cons _ (.cons _ ?_)))))
  show ([i,g,j,h]:List Addr).Perm [g,h,i,j]
  refine(List.Perm.swap _ _ _).trans (.cons _ ?_)
  show ([i,j,h]:List Addr).Perm [h,i,j]
  exact(List.perm_append_comm (l₁:=[i,j]) (l₂:=[h]))
 refine p.symm.nodup (Ib (Ib n8 hi) fun z=>?_)
 rcases List.mem_append.mp z with z | z
 ·exact hj z
 ·exact hij (List.mem_singleton.mp z).symm
end
section

theorem All2.unsnoc{α β:Type}{P:α→β→Prop}{a:α}:∀ {l:List α} {R:List β},All2 P (l++[a]) R→∃ r b,R=r++[b]∧All2 P l r∧P a b:=by
 intro l
 induction l with
 | nil =>
  intro R h
  cases h with
  | cons z t=>cases t;exact⟨[],_,rfl,.nil,z⟩
 | cons c l ih =>
  intro R h
  cases h with
  | cons z h =>
   obtain⟨r,b,e,h1,h2⟩:=ih h;exact⟨_::r,b,congrArg _ e,.cons z h1,h2⟩
theorem Yt{α:Type}{a b c d e:α}:∀ q∈[a,b,d,e],q∈[a,b,c,d,e]:=Fc (.head _) (Fc (.tail _ (.head _)) (Fc (.tail _ (.tail _ (.tail _ (.head _)))) (Fc (.tail _ (.tail _ (.tail _ (.tail _ (.head _))))) (fun _ z=>nomatch z))))
theorem da_not4{a b c d e:Addr}(n:([a,b,c,d,e]:List Addr).Nodup):c∉[a,b,d,e]:=by simp at n ⊢;exact⟨Ne.symm n.1.2.1,Ne.symm n.2.1.1,n.2.2.1.1,n.2.2.1.2⟩
theorem swap_da{α:Type}{a b c d e:α}{l t:List α}:∀ q∈([a,b,c,d,e]++l)++t,q∈[a,b,d,e]++(c::(l++t)):=Fp (Fp (Fc (.head _) (Fc (.tail _ (.head _)) (Fc (.tail _ (.tail _ (.tail _ (.tail _ (.head _))))) (Fc (.tail _ (.tail _ (.head _))) (Fc (.tail _ (.tail _ (.tail _ (.head _)))) (List.forall_mem_nil _)))))) (fun _ h=>.tail _ (.tail _ (.tail _ (.tail _ (.tail _ (Ml _ h))))))) (fun _ h=>.tail _ (.tail _ (.tail _ (.tail _ (.tail _ (Mr _ h))))))
theorem Gy{h:Heap}{a l:Addr}{o its:Array Value}{k:Nat}(g1:h.get? a=some (Ae o))(g2:h.get? l=some (listOf its k)):a≠l:=fun e=>by
 subst e;rw [g1] at g2
 exact absurd (congrArg Obj.cls (Option.some.inj g2)) (by simp)
theorem filt_of(nl:Addr)(l:List (Addr × Obj)):∃ filt:List (Addr × Obj),(∀ r∈l,r.1≠nl→r∈filt)∧∀ r∈filt,r∈l∧r.1≠nl:=⟨l.filter fun r=>decide (r.1≠nl),fun r hr e=>List.mem_filter.mpr ⟨hr,decide_eq_true e⟩,fun r hr=>⟨(List.mem_filter.mp hr).1,of_decide_eq_true (List.mem_filter.mp hr).2⟩⟩
theorem Ja{β:Type}(nb:List (Addr × β)){nl:Addr}{i:β}:nl∈(nb++[(nl,i)]).map (·.1):=by simp
theorem ne_last{β:Type}{nb:List (Addr × β)}{nl:Addr}{i:β}{q:Addr × β}(nd:((nb++[(nl,i)]).map (·.1)).Nodup)(hq:q∈nb):q.1≠nl:=by
 rw [List.map_append] at nd
 exact fun e=>(List.nodup_append.mp nd).2.2 q.1 (List.mem_map_of_mem (f:=(·.1)) hq) nl (by simp) e
theorem notin8{a b c d e f g h t:Addr}(h1:t≠a)(h2:t≠b)(h3:t≠c)(h4:t≠d)(h5:t≠e)(h6:t≠f)(h7:t≠g)(h8:t≠h):t∉[a,b,c,d,e,f,g,h]:=Ac h1 (Ac h2 (Ac h3 (Ac h4 (Ac h5 (Ac h6 (Ac h7 (Ac h8 Aq)))))))
theorem Ym{α:Type}{a b c d e f g h t n:α}{l ts:List α}:∀ q∈([a,b,c,d,e,f,g,h]++(t::n::l))++ts,q∈[t,a,b,c,d,e,n]++([f,g,h]++(l++ts)):=Fp (Fp (Fc (.tail _ (.head _)) (Fc (.tail _ (.tail _ (.head _))) (Fc (.tail _ (.tail _ (.tail _ (.head _)))) (Fc (.tail _ (.tail _ (.tail _ (.tail _ (.head _))))) (Fc (.tail _ (.tail _ (.tail _ (.tail _ (.tail _ (.head _)))))) (Fc (.tail _ (.tail _ (.tail _ (.tail _ (.tail _ (.tail _ (.tail _ (.head _)))))))) (Fc (.tail _ (.tail _ (.tail _ (.tail _ (.tail _ (.tail _ (.tail _ (.tail _ (.head _))))))))) (Fc (.tail _ (.tail _ (.tail _ (.tail _ (.tail _ (.tail _ (.tail _ (.tail _ (.tail _ (.head _)))))))))) (List.forall_mem_nil _))))))))) (Fc (.head _) (Fc (.tail _ (.tail _ (.tail _ (.tail _ (.tail _ (.tail _ (.head _))))))) (fun _ h=>.tail _ (.tail _ (.tail _ (.tail _ (.tail _ (.tail _ (.tail _ (.tail _ (.tail _ (.tail _ (show _∈l++ts from Ml _ h)))))))))))))) (fun _ h=>.tail _ (.tail _ (.tail _ (.tail _ (.tail _ (.tail _ (.tail _ (.tail _ (.tail _ (.tail _ (show _∈l++ts from Mr _ h)))))))))))
section
variable{W:World}{A:Around}{E:Value→Shared→Prop}{s:Shared}{g:Heap}{os:OsState}{p:Program}{zw:List Str}{zr:ExcName→Option Value}{mg mb:Str→Option Value}{L:Addr}{m:Str→Option Value}{Q:Value→Shared→Prop}{w:WS}{f:FD}{x:Addr}{tabs:List (Addr × Obj)}{n:Nat}
noncomputable def Kw(W:World)(A:Around)(s:Shared)(E:Value→Shared→Prop)(g:Heap)(os:OsState)(p:Program)(zw:List Str)(zr:ExcName→Option Value)(mg mb:Str→Option Value)(L:Addr)(m:Str→Option Value)(Q:Value→Shared→Prop)(x:Addr)(tabs:List (Addr × Obj))(n:Nat)(d:Str)(td:Tok)(w:WS)(f:FD):Prop :=
 ∀ (X:(hd11.heap_39 W.params).In g) (T:Top p zw zr mg mb g) (hh:A.handled=none) (zq:A.depth<600) (F:Fr g L s.heap m) (N:News g L s.heap (f.own w x++tabs)) (o1:s.os=os) (b1:AllBare s.gens) (hI:f.Is w x) (hT:f.Off x tabs) (hf:Fit n w) (hn:n≤100) (hc:Cw w (.data d)) (h:∀ (f':FD) (s':Shared),f'.out=f.out→f'.Is (w.tell (.data d)) x→f'.Off x tabs→Fr g L s'.heap m→News g L s'.heap (f'.own (w.tell (.data d)) x++tabs)→s'.os=os→AllBare s'.gens→Q .none s'),wpAny (model rw_dn0283_11.row.prog W) A (call (.ref 90) [.ref x,.str d td]) Q E s
theorem Wr:∀ {W A s E g os p zw zr mg mb L m Q x tabs n d td w f},Kw W A s E g os p zw zr mg mb L m Q x tabs n d td w f:=by
 refine @(Ab (Ao neW)<|@(Ab neI<|@(Ec neI<|@(Au Ru<|@(Au Dj<|let_mvar% ?n:=(fun W A s E g os p zw zr mg mb L m Q x tabs n d td w f=>?_:∀ a b c d e f g h i j k l m n o p q r s t u,Kw a b c d e f g h i j k l m n o p q r s t u);?n _ _ _ _ _ _ _ _ _ _ _ _ _ _ _ _ _ _ _ _ _)))))
 intro X T hh zq F N o1 b1 hI hT hf hn hc h;obtain⟨p1,p2,p3⟩:=hI.pre hT 3;obtain⟨y1,y2,y3,y4,y5⟩:=hI.bounds hf hn
 refine As [(x,instObj 143 f.dx),(f.dx,dictOf (wd f.hsh f.tkn (.bool true) (.bool true) .none .none (.bool false) .none .none .none f.wr f.da f.de f.ns f.pm f.pr w.seen w.done 0) f.ep),(f.da,listOf (strValues f.ds).toArray f.n1)] ([(f.out,listOf (strValues f.ol).toArray f.n2),(f.wr,Aj f.out),(f.de,listOf (f.dlv.map fun p=>.ref p.1).toArray f.nde),(f.ns,listOf (f.nlv.map fun p=>.ref p.1).toArray f.nns),(f.pr,listOf (w.pre.map .bool).toArray f.npr)]++(f.rest++tabs)) F N o1 b1 p1 p2 p3 fun g₂ H₂ K₂ r₂ back=>?_
 refine Vj (X.keeps K₂) (T.keeps K₂) H₂ hh (Nat.lt_trans zq (by decide)) y2 hI.nd3 fun s' n3 H'=>?_
 obtain⟨F',N',o',b'⟩:=back _ _ H';refine h { f with ds:=f.ds++[(d,td)],n1:=n3 } s' rfl ⟨?_,?_,hI.dl,hI.nl,hI.dp,hI.np,hI.nd,hI.off,hI.ndl⟩ hT F' N' o' b'
 ·show (f.ds++[(d,td)]).map (·.1)=w.data++[d]
  rw [List.map_append,hI.data];rfl
 ·show f.ol.map (·.1)=w.out++[]
  rw [List.append_nil];exact hI.out
noncomputable def Gx(W:World)(A:Around)(s:Shared)(E:Value→Shared→Prop)(g:Heap)(os:OsState)(p:Program)(zw:List Str)(zr:ExcName→Option Value)(mg mb:Str→Option Value)(L:Addr)(m:Str→Option Value)(Q:Value→Shared→Prop)(x:Addr)(tabs:List (Addr × Obj))(n:Nat)(d:Str)(td:Tok)(w:WS)(f:FD):Prop :=
 ∀ (X:(hd11.heap_39 W.params).In g) (T:Top p zw zr mg mb g) (hh:A.handled=none) (zq:A.depth<600) (F:Fr g L s.heap m) (N:News g L s.heap (f.own w x++tabs)) (o1:s.os=os) (b1:AllBare s.gens) (hI:f.Is w x) (hT:f.Off x tabs) (hf:Fit n w) (hn:n≤100) (hc:Cw w (.comment d)) (hdn:w.done=false) (h:∀ (f':FD) (s':Shared),f'.out=f.out→f'.Is (w.tell (.comment d)) x→f'.Off x tabs→Fr g L s'.heap m→News g L s'.heap (f'.own (w.tell (.comment d)) x++tabs)→s'.os=os→AllBare s'.gens→Q .none s'),wpAny (model rw_dn0283_11.row.prog W) A (call (.ref 133) [.ref x,.str d td]) Q E s
theorem Qm:∀ {W A s E g os p zw zr mg mb L m Q x tabs n d td w f},Gx W A s E g os p zw zr mg mb L m Q x tabs n d td w f:=by
 refine @(Ab (Ao neW)<|@(Ab neI<|@(Ec neI<|@(Au Ru<|@(Au Dj<|let_mvar% ?n:=(fun W A s E g os p zw zr mg mb L m Q x tabs n d td w f=>?_:∀ a b c d e f g h i j k l m n o p q r s t u,Gx a b c d e f g h i j k l m n o p q r s t u);?n _ _ _ _ _ _ _ _ _ _ _ _ _ _ _ _ _ _ _ _ _)))))
 intro X T hh zq F N o1 b1 hI hT hf hn hc hdn h;obtain⟨p1,p2,p3⟩:=hI.pre hT 5;obtain⟨y1,y2,y3,y4,y5⟩:=hI.bounds hf hn;obtain⟨b,pv,epv,hlast,epm⟩:=hf.lastOf;obtain⟨hc1,hc2,hsn,hc4⟩:=hc;obtain⟨wsn,wdn,wdecl,wnss,wpre,wdata,wout⟩:=w;obtain rfl:wsn=true:=hsn;obtain rfl:wdn=false:=hdn
 refine As [(x,instObj 143 f.dx),(f.dx,dictOf (wd f.hsh f.tkn (.bool true) (.bool true) .none .none (.bool false) .none .none .none f.wr f.da f.de f.ns f.pm f.pr true false 0) f.ep),(f.da,listOf (strValues f.ds).toArray f.n1),(f.out,listOf (strValues f.ol).toArray f.n2),(f.wr,Aj f.out)] ([(f.de,listOf (f.dlv.map fun p=>.ref p.1).toArray f.nde),(f.ns,listOf (f.nlv.map fun p=>.ref p.1).toArray f.nns),(f.pr,listOf (wpre.map .bool).toArray f.npr)]++(f.rest++tabs)) F N o1 b1 p1 p2 p3 fun g₂ H₂ K₂ r₂ back=>?_
 have hpr:g₂.IsList f.pr (b.map Value.bool++[Value.bool pv]).toArray:=by rw [← epm];exact⟨_,r₂ (f.pr,_) (Ml _ (.tail _ (.tail _ (.head _)))),rfl,_,rfl⟩
 refine Pu (X.keeps K₂) (T.keeps K₂) H₂ hh (Nat.lt_trans zq (by decide)) hpr y1 y2 y3 y4 (Nat.le_trans y5 (by decide)) (Nat.le_trans hc1 (by decide)) hc2 hI.nd5 fun s' n3 n4 ol3 e3 H'=>?_
 obtain⟨F',N',o',b'⟩:=back _ _ H';refine h { f with ds:=[],n1:=n3,ol:=ol3,n2:=n4 } s' rfl ⟨?_,?_,hI.dl,hI.nl,hI.dp,hI.np,hI.nd,hI.off,hI.ndl⟩ hT F' ?_ o' b'
 ·rfl
 ·show ol3.map (·.1)=wout++(KS.flush ⟨true,false,wdecl,wnss,wpre⟩ wdata++["<!--"++Fv d++"-->"])
  rw [e3,hI.out,hI.data];unfold KS.flush;rw [show KS.last ⟨true,false,wdecl,wnss,wpre⟩=pv from hlast]
 ·exact N'
noncomputable def Pj(W:World)(A:Around)(s:Shared)(E:Value→Shared→Prop)(g:Heap)(os:OsState)(p:Program)(zw:List Str)(zr:ExcName→Option Value)(mg mb:Str→Option Value)(L:Addr)(m:Str→Option Value)(Q:Value→Shared→Prop)(x:Addr)(tabs:List (Addr × Obj))(n:Nat)(d:Str)(td ti:Tok)(w:WS)(f:FD):Prop :=
 ∀ (X:(hd11.heap_39 W.params).In g) (T:Top p zw zr mg mb g) (hh:A.handled=none) (zq:A.depth<600) (F:Fr g L s.heap m) (N:News g L s.heap (f.own w x++tabs)) (o1:s.os=os) (b1:AllBare s.gens) (hI:f.Is w x) (hT:f.Off x tabs) (hf:Fit n w) (hn:n≤100) (hc:Cw w (.pi d)) (h:∀ (f':FD) (s':Shared),f'.out=f.out→f'.Is (w.tell (.pi d)) x→f'.Off x tabs→Fr g L s'.heap m→News g L s'.heap (f'.own (w.tell (.pi d)) x++tabs)→s'.os=os→AllBare s'.gens→Q .none s'),wpAny (model rw_dn0283_11.row.prog W) A (call (.ref 140) [.ref x,.str "i" ti,.str d td]) Q E s
theorem tell_pi:∀ {W A s E g os p zw zr mg mb L m Q x tabs n d td ti w f},Pj W A s E g os p zw zr mg mb L m Q x tabs n d td ti w f:=by
 refine @(Ab (Ao neW)<|@(Ab neI<|@(Ed neI<|@(Au Ru<|@(Au Dj<|let_mvar% ?n:=(fun W A s E g os p zw zr mg mb L m Q x tabs n d td ti w f=>?_:∀ a b c d e f g h i j k l m n o p q r s t u v,Pj a b c d e f g h i j k l m n o p q r s t u v);?n _ _ _ _ _ _ _ _ _ _ _ _ _ _ _ _ _ _ _ _ _ _)))))
 intro X T hh zq F N o1 b1 hI hT hf hn hc h;obtain⟨p1,p2,p3⟩:=hI.pre hT 5;obtain⟨y1,y2,y3,y4,y5⟩:=hI.bounds hf hn;obtain⟨b,pv,epv,hlast,epm⟩:=hf.lastOf;obtain⟨hc1,hc2,hsn,hdn,hc5⟩:=hc;obtain⟨wsn,wdn,wdecl,wnss,wpre,wdata,wout⟩:=w;obtain rfl:wsn=true:=hsn;obtain rfl:wdn=false:=hdn
 refine As [(x,instObj 143 f.dx),(f.dx,dictOf (wd f.hsh f.tkn (.bool true) (.bool true) .none .none (.bool false) .none .none .none f.wr f.da f.de f.ns f.pm f.pr true false 0) f.ep),(f.da,listOf (strValues f.ds).toArray f.n1),(f.out,listOf (strValues f.ol).toArray f.n2),(f.wr,Aj f.out)] ([(f.de,listOf (f.dlv.map fun p=>.ref p.1).toArray f.nde),(f.ns,listOf (f.nlv.map fun p=>.ref p.1).toArray f.nns),(f.pr,listOf (wpre.map .bool).toArray f.npr)]++(f.rest++tabs)) F N o1 b1 p1 p2 p3 fun g₂ H₂ K₂ r₂ back=>?_
 have hpr:g₂.IsList f.pr (b.map Value.bool++[Value.bool pv]).toArray:=by rw [← epm];exact⟨_,r₂ (f.pr,_) (Ml _ (.tail _ (.tail _ (.head _)))),rfl,_,rfl⟩
 refine pi_spec (X.keeps K₂) (T.keeps K₂) H₂ hh (Nat.lt_trans zq (by decide)) hpr y1 y2 y3 y4 (Nat.le_trans y5 (by decide)) (Nat.le_trans hc1 (by decide)) hc5 (by decide) hc2 hI.nd5 fun s' n3 n4 ol3 e3 H'=>?_
 obtain⟨F',N',o',b'⟩:=back _ _ H';refine h { f with ds:=[],n1:=n3,ol:=ol3,n2:=n4 } s' rfl ⟨?_,?_,hI.dl,hI.nl,hI.dp,hI.np,hI.nd,hI.off,hI.ndl⟩ hT F' ?_ o' b'
 ·rfl
 ·show ol3.map (·.1)=wout++(KS.flush ⟨true,false,wdecl,wnss,wpre⟩ wdata++["<?"++"i"++" "++Fv d++"?>"])
  rw [e3,hI.out,hI.data];unfold KS.flush;rw [show KS.last ⟨true,false,wdecl,wnss,wpre⟩=pv from hlast]
 ·exact N'
noncomputable def Kx(W:World)(A:Around)(s:Shared)(E:Value→Shared→Prop)(g:Heap)(os:OsState)(p:Program)(zw:List Str)(zr:ExcName→Option Value)(mg mb:Str→Option Value)(L:Addr)(m:Str→Option Value)(Q:Value→Shared→Prop)(x:Addr)(tabs:List (Addr × Obj))(n:Nat)(d:Str)(td:Tok)(w:WS)(f:FD):Prop :=
 ∀ (X:(hd11.heap_39 W.params).In g) (T:Top p zw zr mg mb g) (hh:A.handled=none) (zq:A.depth<600) (F:Fr g L s.heap m) (N:News g L s.heap (f.own w x++tabs)) (o1:s.os=os) (b1:AllBare s.gens) (hI:f.Is w x) (hT:f.Off x tabs) (hf:Fit n w) (hn:n≤100) (hc:Cw w (.comment d)) (hdn:w.done=true) (h:∀ (f':FD) (s':Shared),f'.out=f.out→f'.Is (w.tell (.comment d)) x→f'.Off x tabs→Fr g L s'.heap m→News g L s'.heap (f'.own (w.tell (.comment d)) x++tabs)→s'.os=os→AllBare s'.gens→Q .none s'),wpAny (model rw_dn0283_11.row.prog W) A (call (.ref 133) [.ref x,.str d td]) Q E s
theorem Ws:∀ {W A s E g os p zw zr mg mb L m Q x tabs n d td w f},Kx W A s E g os p zw zr mg mb L m Q x tabs n d td w f:=by
 refine @(Ab (Ao neW)<|@(Ab neI<|@(Ec neI<|@(Au Ru<|@(Au Dj<|let_mvar% ?n:=(fun W A s E g os p zw zr mg mb L m Q x tabs n d td w f=>?_:∀ a b c d e f g h i j k l m n o p q r s t u,Kx a b c d e f g h i j k l m n o p q r s t u);?n _ _ _ _ _ _ _ _ _ _ _ _ _ _ _ _ _ _ _ _ _)))))
 intro X T hh zq F N o1 b1 hI hT hf hn hc hdn h;obtain⟨p1,p2,p3⟩:=hI.pre hT 5;obtain⟨y1,y2,y3,y4,y5⟩:=hI.bounds hf hn;obtain⟨hc1,hc2,hsn,hc4⟩:=hc;obtain⟨wsn,wdn,wdecl,wnss,wpre,wdata,wout⟩:=w;obtain rfl:wsn=true:=hsn;obtain rfl:wdn=true:=hdn;have nda:=hI.nd5
 refine As [(x,instObj 143 f.dx),(f.dx,dictOf (wd f.hsh f.tkn (.bool true) (.bool true) .none .none (.bool false) .none .none .none f.wr f.da f.de f.ns f.pm f.pr true true 0) f.ep),(f.out,listOf (strValues f.ol).toArray f.n2),(f.wr,Aj f.out)] ([(f.da,listOf (strValues f.ds).toArray f.n1),(f.de,listOf (f.dlv.map fun p=>.ref p.1).toArray f.nde),(f.ns,listOf (f.nlv.map fun p=>.ref p.1).toArray f.nns),(f.pr,listOf (wpre.map .bool).toArray f.npr)]++(f.rest++tabs)) F N o1 b1 (fun q hq=>p1 q (Yt q hq)) (fun q hq=>?_) (fun q hq z=>?_) fun g₂ H₂ K₂ r₂ back=>?_
 ·rcases List.mem_cons.mp hq with h | h
  ·rw [h];exact p1 _ (.tail _ (.tail _ (.head _)))
  ·exact p2 q h
 ·have z':=Yt (c:=f.da) _ z
  rcases List.mem_cons.mp hq with h | h
  ·rw [h] at z;exact da_not4 nda z
  ·exact p3 q h z'
 refine Pt (X.keeps K₂) (T.keeps K₂) H₂ hh (Nat.lt_trans zq (by decide)) (Nat.le_trans y5 (by decide)) (Nat.le_trans hc1 (by decide)) hc2 hI.nd4 fun s' n4 ol3 e3 H'=>?_
 obtain⟨F',N',o',b'⟩:=back _ _ H';refine h { f with ol:=ol3,n2:=n4 } s' rfl ⟨hI.data,?_,hI.dl,hI.nl,hI.dp,hI.np,hI.nd,hI.off,hI.ndl⟩ hT F' (News.sub N' swap_da) o' b'
 show ol3.map (·.1)=wout++[Str.ofString "\n",Str.ofString "<!--"++Fv d++Str.ofString "-->"]
 rw [e3,hI.out]
noncomputable def Nw(W:World)(A:Around)(s:Shared)(E:Value→Shared→Prop)(g:Heap)(os:OsState)(p:Program)(zw:List Str)(zr:ExcName→Option Value)(mg mb:Str→Option Value)(L:Addr)(m:Str→Option Value)(Q:Value→Shared→Prop)(x:Addr)(tabs:List (Addr × Obj))(n:Nat)(pf uri:Str)(tp tu:Tok)(w:WS)(f:FD):Prop :=
 ∀ (X:(hd11.heap_39 W.params).In g) (T:Top p zw zr mg mb g) (hh:A.handled=none) (zq:A.depth<600) (F:Fr g L s.heap m) (N:News g L s.heap (f.own w x++tabs)) (o1:s.os=os) (b1:AllBare s.gens) (hI:f.Is w x) (hT:f.Off x tabs) (hf:Fit n w) (hn:n≤100) (hc:Cw w (.sns pf uri)) (h:∀ (f':FD) (s':Shared),f'.out=f.out→f'.Is (w.tell (.sns pf uri)) x→f'.Off x tabs→Fr g L s'.heap m→News g L s'.heap (f'.own (w.tell (.sns pf uri)) x++tabs)→s'.os=os→AllBare s'.gens→Q .none s'),wpAny (model rw_dn0283_11.row.prog W) A (call (.ref 106) [.ref x,.str pf tp,.str uri tu]) Q E s
theorem Nv:∀ {W A s E g os p zw zr mg mb L m Q x tabs n pf uri tp tu w f},Nw W A s E g os p zw zr mg mb L m Q x tabs n pf uri tp tu w f:=by
 refine @(Ab (Ao neW)<|@(Ab neI<|@(Et neI<|@(Au Ru<|@(Au Dj<|let_mvar% ?n:=(fun W A s E g os p zw zr mg mb L m Q x tabs n pf uri tp tu w f=>?_:∀ a b c d e f g h i j k l m n o p q r s t u v w,Nw a b c d e f g h i j k l m n o p q r s t u v w);?n _ _ _ _ _ _ _ _ _ _ _ _ _ _ _ _ _ _ _ _ _ _ _)))))
 intro X T hh zq F N o1 b1 hI hT hf hn hc h;obtain⟨y1,y2,y3,y4,y5⟩:=hI.bounds hf hn;obtain⟨b,pv,epv,hlast,epm⟩:=hf.lastOf;have hI0:=hI;obtain⟨i1,i2,i3,i4,i5,i6,nd,off,ndl⟩:=hI
 obtain⟨nb,⟨nl,its⟩,enl⟩:=Bz (l:=f.nlv) (by rw [i6.length,hf.l2];exact Nat.succ_pos _)
 have hmnl:(nl,its)∈f.nlv:=by rw [enl];exact Mr _ (.head _)
 obtain⟨cnt,hnl⟩:=i4 (nl,its) hmnl;rw [enl] at i6 ndl;obtain⟨r0,b0,ens,j1,j2⟩:=All2.unsnoc i6
 have htup:∀ a o,(a,Ae o)∈f.rest→a≠nl:=fun a o hm=>Gy (N _ (Ml _ (Mr _ hm))).1 (N _ (Ml _ (Mr _ hnl))).1
 obtain⟨filt,hin,hout⟩:=filt_of nl f.rest;obtain⟨p1,p2,p3⟩:=hI0.preN hT 5 hnl hout
 have hiz:its.size≤sizeLine:=by
  have e1:its.size=b0.length:=by rw [← j2.length];exact Array.length_toList.symm
  have e2:=hf.f2;rw [ens,Ck,List.length_append] at e2
  rw [e1,sizeLine_eq];exact(Nl fun hn1=>fk [_,_,_] (.e V0 (.k 100) (.e (.a V1 V2) (.a V0 (.k 7)) (.e (.s (.k 16777216)) V1 K0))) rfl hn e2 hn1)
 refine As [(x,instObj 143 f.dx),(f.dx,dictOf (wd f.hsh f.tkn (.bool true) (.bool true) .none .none (.bool false) .none .none .none f.wr f.da f.de f.ns f.pm f.pr w.seen w.done 0) f.ep),(f.da,listOf (strValues f.ds).toArray f.n1),(f.out,listOf (strValues f.ol).toArray f.n2),(f.wr,Aj f.out),(nl,listOf its cnt)] ([(f.de,listOf (f.dlv.map fun p=>.ref p.1).toArray f.nde),(f.ns,listOf (f.nlv.map fun p=>.ref p.1).toArray f.nns),(f.pr,listOf (w.pre.map .bool).toArray f.npr)]++(filt++tabs)) F N o1 b1 p1 p2 p3 fun g₂ H₂ K₂ r₂ back=>?_
 have hpr:g₂.IsList f.pr (b.map Value.bool++[Value.bool pv]).toArray:=by rw [← epm];exact⟨_,r₂ (f.pr,_) (Ml _ (.tail _ (.tail _ (.head _)))),rfl,_,rfl⟩
 have hns:g₂.IsList f.ns ((nb.map fun p=>Value.ref p.1)++[Value.ref nl]).toArray:=by
  have enm:f.nlv.map (fun p=>Value.ref p.1)=(nb.map fun p=>Value.ref p.1)++[Value.ref nl]:=by rw [enl,List.map_append];rfl
  rw [← enm];exact⟨_,r₂ (f.ns,_) (Ml _ (.tail _ (.head _))),rfl,_,rfl⟩
 refine Oe (X.keeps K₂) (T.keeps K₂) H₂ hh (Nat.lt_trans zq (by decide)) hpr y1 y2 y3 y4 hns hiz (Ib hI0.nd5 fun z=>off _ hnl (List.mem_of_mem_take (i:=5) z)) fun s' n3 n4 ol2 tb l1 l2 l3 l4 l5 l6 e3 H'=>?_
 have hne:∀ r∈[(f.de,listOf (f.dlv.map fun p=>.ref p.1).toArray f.nde),(f.ns,listOf (f.nlv.map fun p=>.ref p.1).toArray f.nns),(f.pr,listOf (w.pre.map .bool).toArray f.npr)]++(filt++tabs),tb≠r.1:=fun r hr=>Ie H' r₂ (.head _) (show (r.1,r.2)∈_ from hr)
 obtain⟨F',N',o',b'⟩:=back _ _ H'
 have enm2:f.nlv.map (fun p=>Value.ref p.1)=(nb++[(nl,its.push (.ref tb))]).map fun p=>Value.ref p.1:=by rw [enl,List.map_append,List.map_append];rfl
 rw [enm2] at N'
 have mono:∀ {v:Value} {q:Pr},Ap f.rest v q→Ap ((tb,Ae #[.str uri tu,.str pf tp])::(nl,listOf (its.push (.ref tb)) (cnt+1))::filt) v q:=fun⟨a',y1,y2,e,hm⟩=>⟨a',y1,y2,e,.tail _ (.tail _ (hin _ hm (htup _ _ hm)))⟩
 refine h { f with ds:=[],n1:=n3,ol:=ol2,n2:=n4,nlv:=nb++[(nl,its.push (.ref tb))],rest:=(tb,Ae #[.str uri tu,.str pf tp])::(nl,listOf (its.push (.ref tb)) (cnt+1))::filt } s' rfl ⟨rfl,?_,?_,?_,?_,?_,nd,?_,?_⟩ ?_ F' (News.sub N' ?_) o' b'
 ·show ol2.map (·.1)=w.out++w.core.flush w.data
  rw [e3,i2,i1];unfold KS.flush;rw [hlast];rfl
 ·intro q hq
  obtain⟨k,hk⟩:=i3 q hq
  exact⟨k,.tail _ (.tail _ (hin _ hk fun e=>(List.nodup_append.mp ndl).2.2 q.1 (List.mem_map_of_mem (f:=(·.1)) hq) nl (Ja nb) e))⟩
 ·intro q hq
  rcases List.mem_append.mp hq with hq | hq
  ·obtain⟨k,hk⟩:=i4 q (by rw [enl];exact Ml _ hq)
   exact⟨k,.tail _ (.tail _ (hin _ hk (ne_last (β:=Array Value) (q:=q) (List.nodup_append.mp ndl).2.1 hq)))⟩
  ·rw [List.mem_singleton.mp hq]
   exact⟨cnt+1,.tail _ (.head _)⟩
 ·exact i5.mono fun _ _ z=>z.mono fun _ _=>mono
 ·show All2 _ (nb++[(nl,its.push (.ref tb))]) (Bx (uri,pf) w.nss)
  rw [ens,Be]
  refine(j1.mono fun _ _ z=>z.mono fun _ _=>mono).snoc ?_
  show All2 _ (its.push (.ref tb)).toList (b0++[(uri,pf)])
  rw [Array.toList_push]
  exact(j2.mono fun _ _=>mono).snoc ⟨tb,tu,tp,rfl,.head _⟩
 ·intro r hr
  rcases List.mem_cons.mp hr with rfl | hr
  ·exact notin8 (Nat.ne_of_gt l1) (Nat.ne_of_gt l2) (Nat.ne_of_gt l3) (Nat.ne_of_gt l4) (Nat.ne_of_gt l5) (hne (f.de,_) (Ml _ (.head _))) (hne (f.ns,_) (Ml _ (.tail _ (.head _)))) (hne (f.pr,_) (Ml _ (.tail _ (.tail _ (.head _)))))
  rcases List.mem_cons.mp hr with rfl | hr
  ·exact off (nl,listOf its cnt) hnl
  ·exact off r (hout r hr).1
 ·show (f.dlv.map (·.1)++(nb++[(nl,its.push (.ref tb))]).map (·.1)).Nodup
  rw [List.map_append] at ndl ⊢;exact ndl
 ·intro r hr
  refine⟨(hT r hr).1,fun q hq=>?_⟩
  rcases List.mem_cons.mp hq with rfl | hq
  ·exact Ne.symm (hne r (Mr _ (Mr _ hr)))
  rcases List.mem_cons.mp hq with rfl | hq
  ·exact(hT r hr).2 (nl,listOf its cnt) hnl
  ·exact(hT r hr).2 q (hout q hq).1
 ·exact Ym
end
end
section

theorem Ft{P:Value→Pr→Prop}:∀ {dlv:List (Addr × Array Value)} {decl:List (List Pr)},All2 (fun(p:Addr × Array Value) l=>All2 P p.2.toList l) dlv decl→All2 P (comes dlv) (flat decl):=by
 intro dlv decl h
 induction h with
 | nil=>exact .nil
 | cons z h ih =>
  have:=ih.append z;unfold comes flat at *
  simpa using this
theorem Fz{P:Value→Pr→Prop}{dlv:List (Addr × Array Value)}{decl:List (List Pr)}(h:All2 (fun(p:Addr × Array Value) l=>All2 P p.2.toList l) dlv decl):∀ p∈dlv,p.2.size≤(flat decl).length:=by
 induction h with
 | nil=>exact fun _ z=>nomatch z
 | @cons p l dlv decl z h ih =>
  intro q hq
  have e:(flat (l::decl)).length=(flat decl).length+l.length:=by unfold flat;simp
  rcases List.mem_cons.mp hq with rfl | hq
  ·have:=z.length
   simp only [Array.length_toList] at this
   exact(Nl fun hn1=>fk [_,_,_,_] (.e (.a V0 V1) V2 (.e V3 V1 (.e (.s V2) V3 K0))) rfl (Es e) (El this) hn1)
  ·have:=ih q hq
   exact(Nl fun hn1=>fk [_,_,_,_] (.e (.a V0 V1) V2 (.e V3 V0 (.e (.s V2) V3 K0))) rfl (Es e) this hn1)
theorem shuf10{α:Type}{a b c d e f g h i j:α}:∀ q∈[a,b,c,d,e,f,i,g,j,h],q∈[a,b,c,d,e,f,g,h]++[i,j]:=Fc (.head _) (Fc (.tail _ (.head _)) (Fc (.tail _ (.tail _ (.head _))) (Fc (.tail _ (.tail _ (.tail _ (.head _)))) (Fc (.tail _ (.tail _ (.tail _ (.tail _ (.head _))))) (Fc (.tail _ (.tail _ (.tail _ (.tail _ (.tail _ (.head _)))))) (Fc (.tail _ (.tail _ (.tail _ (.tail _ (.tail _ (.tail _ (.tail _ (.tail _ (.head _))))))))) (Fc (.tail _ (.tail _ (.tail _ (.tail _ (.tail _ (.tail _ (.head _))))))) (Fc (.tail _ (.tail _ (.tail _ (.tail _ (.tail _ (.tail _ (.tail _ (.tail _ (.tail _ (.head _)))))))))) (Fc (.tail _ (.tail _ (.tail _ (.tail _ (.tail _ (.tail _ (.tail _ (.head _)))))))) (List.forall_mem_nil _))))))))))
theorem Xj(nl dl:Addr)(l:List (Addr × Obj)):∃ filt:List (Addr × Obj),(∀ r∈l,r.1≠nl→r.1≠dl→r∈filt)∧∀ r∈filt,r∈l∧r.1≠nl∧r.1≠dl:=⟨l.filter fun r=>decide (r.1≠nl∧r.1≠dl),fun r hr e e'=>List.mem_filter.mpr ⟨hr,decide_eq_true ⟨e,e'⟩⟩,fun r hr=>⟨(List.mem_filter.mp hr).1,of_decide_eq_true (List.mem_filter.mp hr).2⟩⟩
theorem nd_two{β:Type}{db nb:List (Addr × β)}{dl nl:Addr}{i j:β}(nd:((db++[(dl,i)]).map (·.1)++(nb++[(nl,j)]).map (·.1)).Nodup):dl≠nl∧(∀ q∈db,q.1≠dl∧q.1≠nl)∧(∀ q∈nb,q.1≠dl∧q.1≠nl)∧(db.map (·.1)++nb.map (·.1)).Nodup:=by
 obtain⟨n1,n2,n3⟩:=List.nodup_append.mp nd;rw [List.map_append] at n1 n2
 have up:∀ {l:List (Addr × β)} {q a:Addr × β},q∈l→q.1∈(l++[a]).map (·.1):=fun h=>List.mem_map_of_mem (Ml _ h)
 refine⟨n3 dl (Ja db) nl (Ja nb),fun q hq=>⟨(List.nodup_append.mp n1).2.2 q.1 (List.mem_map_of_mem hq) dl (.head _),n3 q.1 (up hq) nl (Ja nb)⟩,fun q hq=>⟨Ne.symm (n3 dl (Ja db) q.1 (up hq)),(List.nodup_append.mp n2).2.2 q.1 (List.mem_map_of_mem hq) nl (.head _)⟩,?_⟩
 refine List.nodup_append.mpr ⟨(List.nodup_append.mp n1).1,(List.nodup_append.mp n2).1,fun a ha c hc=>n3 a ?_ c ?_⟩
 ·rw [List.map_append];exact Ml _ ha
 ·rw [List.map_append];exact Ml _ hc
noncomputable def Kz(W:World)(A:Around)(s:Shared)(E:Value→Shared→Prop)(g:Heap)(os:OsState)(p:Program)(zw:List Str)(zr:ExcName→Option Value)(mg mb:Str→Option Value)(L:Addr)(m:Str→Option Value)(Q:Value→Shared→Prop)(x:Addr)(tabs:List (Addr × Obj))(n:Nat)(d:Str)(td:Tok)(w:WS)(f:FD):Prop :=
 ∀ (X:(hd11.heap_39 W.params).In g) (T:Top p zw zr mg mb g) (hh:A.handled=none) (zq:A.depth<600) (F:Fr g L s.heap m) (N:News g L s.heap (f.own w x++tabs)) (o1:s.os=os) (b1:AllBare s.gens) (hI:f.Is w x) (hT:f.Off x tabs) (hf:Fit n w) (hn:n≤100) (hc:Cw w (.stop d)) (h:∀ (f':FD) (s':Shared),f'.out=f.out→f'.Is (w.tell (.stop d)) x→f'.Off x tabs→Fr g L s'.heap m→News g L s'.heap (f'.own (w.tell (.stop d)) x++tabs)→s'.os=os→AllBare s'.gens→Q .none s'),wpAny (model rw_dn0283_11.row.prog W) A (call (.ref 126) [.ref x,.str d td]) Q E s
theorem Wu:∀ {W A s E g os p zw zr mg mb L m Q x tabs n d td w f},Kz W A s E g os p zw zr mg mb L m Q x tabs n d td w f:=by
 refine @(Ab (Ao neW)<|@(Ab neI<|@(Ec neI<|@(Au Ru<|@(Au Dj<|let_mvar% ?n:=(fun W A s E g os p zw zr mg mb L m Q x tabs n d td w f=>?_:∀ a b c d e f g h i j k l m n o p q r s t u,Kz a b c d e f g h i j k l m n o p q r s t u);?n _ _ _ _ _ _ _ _ _ _ _ _ _ _ _ _ _ _ _ _ _)))))
 intro X T hh zq F N o1 b1 hI hT hf hn hc h;obtain⟨y1,y2,y3,y4,y5⟩:=hI.bounds hf hn;obtain⟨b,pv,epv,hlast,epm⟩:=hf.lastOf;have hI0:=hI;obtain⟨i1,i2,i3,i4,i5,i6,nd,off,ndl⟩:=hI;obtain⟨hnm,hpl,hsn⟩:=hc;have hg:=Dd hnm.1
 obtain⟨nb,⟨nl,nits⟩,enl⟩:=Bz (l:=f.nlv) (by rw [i6.length,hf.l2];exact Nat.succ_pos _)
 obtain⟨db,⟨dl,its⟩,edl⟩:=Bz (l:=f.dlv) (by rw [i5.length,hf.l1];exact hf.l4)
 obtain⟨cn,hnl⟩:=i4 (nl,nits) (by rw [enl];exact Mr _ (.head _))
 obtain⟨cd,hdl⟩:=i3 (dl,its) (by rw [edl];exact Mr _ (.head _))
 rw [enl] at i6 ndl;rw [edl] at i5 ndl;obtain⟨r0,t0,ens,j1,j2⟩:=All2.unsnoc i6;obtain⟨r1,t1,eds,k1,k2⟩:=All2.unsnoc i5
 have hmr:∀ q∈f.rest,q∈f.own w x++tabs:=fun q hq=>Ml _ (Mr _ hq)
 have htup:∀ a o,(a,Ae o)∈f.rest→a≠nl∧a≠dl:=fun a o hm=>⟨Gy (N _ (hmr _ hm)).1 (N _ (hmr _ hnl)).1,Gy (N _ (hmr _ hm)).1 (N _ (hmr _ hdl)).1⟩
 obtain⟨filt,hin,hout⟩:=Xj nl dl f.rest;obtain⟨hdn,hbd,hbn,ndl2⟩:=nd_two ndl
 have up8:∀ q∈[(x,instObj 143 f.dx),(f.dx,dictOf (wd f.hsh f.tkn (.bool true) (.bool true) .none .none (.bool false) .none .none .none f.wr f.da f.de f.ns f.pm f.pr w.seen w.done 0) f.ep),(f.da,listOf (strValues f.ds).toArray f.n1),(f.out,listOf (strValues f.ol).toArray f.n2),(f.wr,Aj f.out),(f.de,listOf ((db++[(dl,its)]).map fun p=>Value.ref p.1).toArray f.nde),(dl,listOf its cd),(f.ns,listOf ((nb++[(nl,nits)]).map fun p=>Value.ref p.1).toArray f.nns),(nl,listOf nits cn),(f.pr,listOf (b.map Value.bool++[Value.bool pv]).toArray f.npr)],q∈f.base w x++[(dl,listOf its cd),(nl,listOf nits cn)]:=by
  rw [← edl,← enl,← epm];exact shuf10
 have h1:∀ q∈[(x,instObj 143 f.dx),(f.dx,dictOf (wd f.hsh f.tkn (.bool true) (.bool true) .none .none (.bool false) .none .none .none f.wr f.da f.de f.ns f.pm f.pr w.seen w.done 0) f.ep),(f.da,listOf (strValues f.ds).toArray f.n1),(f.out,listOf (strValues f.ol).toArray f.n2),(f.wr,Aj f.out),(f.de,listOf ((db++[(dl,its)]).map fun p=>Value.ref p.1).toArray f.nde),(dl,listOf its cd),(f.ns,listOf ((nb++[(nl,nits)]).map fun p=>Value.ref p.1).toArray f.nns),(nl,listOf nits cn),(f.pr,listOf (b.map Value.bool++[Value.bool pv]).toArray f.npr)],q∈f.own w x++tabs:=fun q hq=>by
  rcases List.mem_append.mp (up8 q hq) with z | z
  ·exact Ml _ (Ml _ z)
  ·rcases List.mem_cons.mp z with z | z
   ·rw [z];exact hmr _ hdl
   ·rw [List.mem_singleton.mp z];exact hmr _ hnl
 have h2:∀ q∈filt++tabs,q∈f.own w x++tabs:=fun q hq=>by
  rcases List.mem_append.mp hq with z | z
  ·exact hmr q (hout q z).1
  ·exact Mr _ z
 have hor:∀ r∈filt++tabs,r.1∉f.eight x∧r.1≠nl∧r.1≠dl:=fun r hr=>by
  rcases List.mem_append.mp hr with z | z
  ·exact⟨off r (hout r z).1,(hout r z).2⟩
  ·exact⟨(hT r z).1,(hT r z).2 _ hnl,(hT r z).2 _ hdl⟩
 have h3:∀ q∈filt++tabs,q.1∉([(x,instObj 143 f.dx),(f.dx,dictOf (wd f.hsh f.tkn (.bool true) (.bool true) .none .none (.bool false) .none .none .none f.wr f.da f.de f.ns f.pm f.pr w.seen w.done 0) f.ep),(f.da,listOf (strValues f.ds).toArray f.n1),(f.out,listOf (strValues f.ol).toArray f.n2),(f.wr,Aj f.out),(f.de,listOf ((db++[(dl,its)]).map fun p=>Value.ref p.1).toArray f.nde),(dl,listOf its cd),(f.ns,listOf ((nb++[(nl,nits)]).map fun p=>Value.ref p.1).toArray f.nns),(nl,listOf nits cn),(f.pr,listOf (b.map Value.bool++[Value.bool pv]).toArray f.npr)]:List (Addr × Obj)).map (·.1):=fun q hq z=>by
  obtain⟨r,hr,e⟩:=List.mem_map.mp z;obtain⟨v1,v2,v3⟩:=hor q hq
  rcases List.mem_append.mp (up8 r hr) with u | u
  ·exact v1 (e ▸ List.mem_map_of_mem (f:=(·.1)) (l:=f.base w x) u)
  ·rcases List.mem_cons.mp u with u | u
   ·rw [u] at e;exact v3 e.symm
   ·rw [List.mem_singleton.mp u] at e;exact v2 e.symm
 have f1:=hf.f1;have f2:=hf.f2;have z5:=Fz i5;have z6:=Fz i6;have l3:=hf.l3;have l1:=i5.length;have l2:=i6.length;rw [hf.l1,List.length_append,List.length_singleton] at l1;rw [hf.l2,List.length_append,List.length_singleton] at l2
 have l0:w.pre.length=b.length+1:=by rw [epv];exact List.length_append
 refine As [(x,instObj 143 f.dx),(f.dx,dictOf (wd f.hsh f.tkn (.bool true) (.bool true) .none .none (.bool false) .none .none .none f.wr f.da f.de f.ns f.pm f.pr w.seen w.done 0) f.ep),(f.da,listOf (strValues f.ds).toArray f.n1),(f.out,listOf (strValues f.ol).toArray f.n2),(f.wr,Aj f.out),(f.de,listOf ((db++[(dl,its)]).map fun p=>Value.ref p.1).toArray f.nde),(dl,listOf its cd),(f.ns,listOf ((nb++[(nl,nits)]).map fun p=>Value.ref p.1).toArray f.nns),(nl,listOf nits cn),(f.pr,listOf (b.map Value.bool++[Value.bool pv]).toArray f.npr)] (filt++tabs) F N o1 b1 h1 h2 h3 fun g₂ H₂ K₂ r₂ back=>?_
 rw [hsn] at H₂
 have hrf:∀ q∈filt,g₂.get? q.1=some q.2:=fun q hq=>r₂ q (Ml _ hq)
 have mono:∀ {v:Value} {q:Pr},Ap f.rest v q→Ap filt v q:=fun⟨a',y1,y2,e,hm⟩=>⟨a',y1,y2,e,hin _ hm (htup _ _ hm).1 (htup _ _ hm).2⟩
 refine Xe (dlv:=db) (nlv:=nb) (dps:=flat w.decl) (nps:=flat w.nss) (uri:=(cutName d).1) (tag:=(cutName d).2) (X.keeps K₂) (T.keeps K₂) H₂ hh (Nat.lt_trans zq (by decide)) y1 y2 y3 y4 ?a1 ?a2 ?a3 (by exact(Nt fun hn1=>fk [_,_] (.c 4 V0 (.k 100) (.e V1 (.a (.m 4 V0) K1) (.e (.k 3000) V1 K0))) rfl hn f1 hn1)) (fun q hq=>⟨Nat.le_trans (hf.g1 q hq).1 (by decide),(hf.g1 q hq).2.1⟩) ?a4 ?a5 (fun q hq=>⟨Nat.le_trans (hf.g2 q hq).1 (by decide),(hf.g2 q hq).2.1⟩) ?a6 ?a7 (by exact(Nl fun hn1=>fk [_] (.e V0 (.k 400) (.e (.s (.k 5000)) V0 K0)) rfl y5 hn1)) hg.2.1 ⟨hg.2.2.1,hg.2.2.2⟩ hg.1 (Je hnm.2) (by exact(Nl fun hn1=>fk [_,_,_] (.e V0 (.k 100) (.e V1 (.s V0) (.e (.s V2) V1 (.e (.s (.k 1000)) V2 K0)))) rfl hn l3 (El l1) hn1)) (by exact(Nl fun hn1=>fk [_,_,_] (.e V0 (.k 100) (.e V1 (.s V0) (.e (.s V2) (.s V1) (.e (.s (.k 1000)) V2 K0)))) rfl hn l3 (El l2) hn1)) (by rw [List.length_map];exact(Nl fun hn1=>fk [_,_,_] (.e V0 (.k 100) (.e V1 (.s V0) (.e (.s V2) V1 (.e (.s (.k 1000)) V2 K0)))) rfl hn l3 (Es l0) hn1)) (nd10_of hI0.nd (off _ hdl) (off _ hnl) hdn) fun s' n3 n4 ol3 txt o rd2 hqn hrd e3 H'=>?z3
 case a1 =>
  intro q hq
  obtain⟨k,hk⟩:=i3 q (by rw [edl];exact Ml _ hq)
  exact⟨_,hrf _ (hin _ hk (hbd q hq).2 (hbd q hq).1),rfl,_,rfl⟩
 case a2=>intro q hq;have:=z5 q hq;lia
 case a3=>exact(Ft i5).mono fun _ _ z=>Fm hrf (mono z)
 case a4 =>
  intro q hq
  obtain⟨k,hk⟩:=i4 q (by rw [enl];exact Ml _ hq)
  have:=z6 q (Ml _ hq)
  exact⟨⟨_,hrf _ (hin _ hk (hbn q hq).2 (hbn q hq).1),rfl,_,rfl⟩,by lia⟩
 case a5=>exact(Ft i6).mono fun _ _ z=>Fm hrf (mono z)
 case a6=>have:=z6 (nl,nits) (by simp);simp only at this;lia
 case a7=>have:=z5 (dl,its) (by simp);simp only at this;rw [sizeLine_eq];exact(Nl fun hn1=>fk [_,_,_] (.c 4 V0 (.k 100) (.e V1 (.a (.m 4 V0) K1) (.e V2 V1 (.e (.s (.k 16777216)) V2 K0)))) rfl hn f1 this hn1)
 case z3 =>
  obtain⟨F',N',o',b'⟩:=back _ _ H';have e1:(w.tell (.stop d)).seen=true:=hsn
  have e2:(w.tell (.stop d)).done=rd2:=by
   show decide (w.pre.length=2)=rd2
   rw [hrd,List.length_map,l0]
   exact decide_eq_decide.mpr ⟨fun e=>Nat.succ.inj e,fun e=>congrArg Nat.succ e⟩
  have e3':(w.tell (.stop d)).pre.map Value.bool=b.map Value.bool:=by show w.pre.dropLast.map Value.bool=_;rw [epv,List.dropLast_concat]
  refine h { f with ds:=[],n1:=n3,ol:=ol3,n2:=n4,dlv:=db,nde:=f.nde+1,nlv:=nb,nns:=f.nns+1,npr:=f.npr+1,rest:=filt } s' rfl ⟨rfl,?_,?_,?_,?_,?_,nd,?_,ndl2⟩ ?_ F' ?_ o' b'
  ·show ol3.map (·.1)=w.out++(w.core.flush w.data++["</"++w.core.endText d++">"])
   have ht:w.core.endText d=txt:=by
    unfold KS.endText;rw [show qn (flat w.core.decl) (flat w.core.nss) (cutName d).1 (cutName d).2=some (txt,o) from hqn]
   rw [e3,i2,i1,ht];unfold KS.flush;rw [hlast,show w.core.seen=true from hsn]
  ·intro q hq
   obtain⟨k,hk⟩:=i3 q (by rw [edl];exact Ml _ hq)
   exact⟨k,hin _ hk (hbd q hq).2 (hbd q hq).1⟩
  ·intro q hq
   obtain⟨k,hk⟩:=i4 q (by rw [enl];exact Ml _ hq)
   exact⟨k,hin _ hk (hbn q hq).2 (hbn q hq).1⟩
  ·show All2 _ db w.decl.dropLast
   rw [eds,List.dropLast_concat]
   exact k1.mono fun _ _ z=>z.mono fun _ _=>mono
  ·show All2 _ nb w.nss.dropLast
   rw [ens,List.dropLast_concat]
   exact j1.mono fun _ _ z=>z.mono fun _ _=>mono
  ·exact fun r hr=>off r (hout r hr).1
  ·exact fun r hr=>⟨(hT r hr).1,fun q hq=>(hT r hr).2 q (hout q hq).1⟩
  ·show News g L s'.heap (([(x,instObj 143 f.dx),(f.dx,dictOf (wd f.hsh f.tkn (.bool true) (.bool true) .none .none (.bool false) .none .none .none f.wr f.da f.de f.ns f.pm f.pr (w.tell (.stop d)).seen (w.tell (.stop d)).done 0) f.ep),(f.da,listOf #[] n3),(f.out,listOf (strValues ol3).toArray n4),(f.wr,Aj f.out),(f.de,listOf (db.map fun p=>.ref p.1).toArray (f.nde+1)),(f.ns,listOf (nb.map fun p=>.ref p.1).toArray (f.nns+1)),(f.pr,listOf ((w.tell (.stop d)).pre.map .bool).toArray (f.npr+1))]++filt)++tabs)
   rw [e1,e2,e3'];exact N'
end
section

theorem Yn{α:Type}{a b c d e f g h dl nl:α}{p t:List α}:∀ q∈dl::nl::(p++t),q∈[a,b,c,d,e,f,dl,g,nl,h]++(p++t):=Fc (.tail _ (.tail _ (.tail _ (.tail _ (.tail _ (.tail _ (.head _))))))) (Fc (.tail _ (.tail _ (.tail _ (.tail _ (.tail _ (.tail _ (.tail _ (.tail _ (.head _))))))))) (fun _ h=>.tail _ (.tail _ (.tail _ (.tail _ (.tail _ (.tail _ (.tail _ (.tail _ (.tail _ (.tail _ (h))))))))))))
theorem Yo{α:Type}{P:α→Prop}{a b c d e f g h dl nl:α}{pf prs r t:List α}(hp:∀ r∈pf,r∈prs∧P r):∀ q∈([a,b,c,d,e,f,g,h]++(dl::nl::(pf++r)))++t,q∈([a,b,c,d,e,f,dl,g,nl,h]++(prs++t))++r:=Fp (Fp (Fc (.head _) (Fc (.tail _ (.head _)) (Fc (.tail _ (.tail _ (.head _))) (Fc (.tail _ (.tail _ (.tail _ (.head _)))) (Fc (.tail _ (.tail _ (.tail _ (.tail _ (.head _))))) (Fc (.tail _ (.tail _ (.tail _ (.tail _ (.tail _ (.head _)))))) (Fc (.tail _ (.tail _ (.tail _ (.tail _ (.tail _ (.tail _ (.tail _ (.head _)))))))) (Fc (.tail _ (.tail _ (.tail _ (.tail _ (.tail _ (.tail _ (.tail _ (.tail _ (.tail _ (.head _)))))))))) (List.forall_mem_nil _))))))))) (Fc (.tail _ (.tail _ (.tail _ (.tail _ (.tail _ (.tail _ (.head _))))))) (Fc (.tail _ (.tail _ (.tail _ (.tail _ (.tail _ (.tail _ (.tail _ (.tail _ (.head _))))))))) (Fp (fun _ h=>.tail _ (.tail _ (.tail _ (.tail _ (.tail _ (.tail _ (.tail _ (.tail _ (.tail _ (.tail _ (show _∈(prs++t)++r from Ml _ (Ml _ (hp _ h).1)))))))))))) (fun _ h=>.tail _ (.tail _ (.tail _ (.tail _ (.tail _ (.tail _ (.tail _ (.tail _ (.tail _ (.tail _ (show _∈(prs++t)++r from Mr _ h))))))))))))))) (fun _ h=>.tail _ (.tail _ (.tail _ (.tail _ (.tail _ (.tail _ (.tail _ (.tail _ (.tail _ (.tail _ (show _∈(prs++t)++r from Ml _ (Mr _ h))))))))))))
noncomputable def Jq(W:World)(A:Around)(s:Shared)(E:Value→Shared→Prop)(g:Heap)(os:OsState)(p:Program)(zw:List Str)(zr:ExcName→Option Value)(mg mb:Str→Option Value)(L:Addr)(m:Str→Option Value)(Q:Value→Shared→Prop)(x:Addr)(tabs:List (Addr × Obj))(n:Nat)(tag:Str)(tt:Tok)(at_:Addr)(na:Nat)(l:List ((Str × Tok) × (Str × Tok)))(w:WS)(f:FD):Prop :=
 ∀ (X:(hd11.heap_39 W.params).In g) (T:Top p zw zr mg mb g) (hh:A.handled=none) (zq:A.depth<600) (F:Fr g L s.heap m) (N:News g L s.heap (f.own w x++tabs)) (o1:s.os=os) (b1:AllBare s.gens) (hI:f.Is w x) (hT:f.Off x tabs) (hf:Fit n w) (hn:n≤100) (hc:Cw w (.start tag (l.map fun p=>(p.1.1,p.2.1)))) (hat:g.get? at_=some (dictOf (Bg W.params l) na)) (hsys:(at_ == sysModules)=false) (hu:A.units<8000) (C116:CodeHd g 118 116) (hLT:Eo 116 ⟨136,71,136,96⟩ "C14NWriterTarget._start.<locals>.<lambda>" tabs) (h:∀ (f':FD) (s':Shared) (zt:List (Addr × Obj)),Eo 116 ⟨136,71,136,96⟩ "C14NWriterTarget._start.<locals>.<lambda>" zt→f'.out=f.out→f'.Is (w.tell (.start tag (l.map fun p=>(p.1.1,p.2.1)))) x→f'.Off x zt→Fr g L s'.heap m→News g L s'.heap (f'.own (w.tell (.start tag (l.map fun p=>(p.1.1,p.2.1)))) x++zt)→s'.os=os→AllBare s'.gens→Q .none s'),wpAny (model rw_dn0283_11.row.prog W) A (call (.ref 113) [.ref x,.str tag tt,.ref at_]) Q E s
theorem Un:∀ {W A s E g os p zw zr mg mb L m Q x tabs n tag tt at_ na l w f},Jq W A s E g os p zw zr mg mb L m Q x tabs n tag tt at_ na l w f:=by
 refine @(Ab (Ao neW)<|@(Ab neI<|@(Dq neI<|@(Au Ru<|@(Au Dj<|let_mvar% ?n:=(fun W A s E g os p zw zr mg mb L m Q x tabs n tag tt at_ na l w f=>?_:∀ a b c d e f g h i j k l m n o p q r s t u v w x,Jq a b c d e f g h i j k l m n o p q r s t u v w x);?n _ _ _ _ _ _ _ _ _ _ _ _ _ _ _ _ _ _ _ _ _ _ _ _)))))
 intro X T hh zq F N o1 b1 hI hT hf hn hc hat hsys hu C116 hLT h;obtain⟨y1,y2,y3,y4,y5⟩:=hI.bounds hf hn
 have hzz2:=hf.lastOf;revert hzz2;refine Fw ?_;with_reducible refine let_mvar% ?zz1:=(fun b pv=>?_:Fa2 _);Al neI (Bn:Tie _ (type_of% ?zz1)) (?zz1 _ _);rintro⟨epv,hlast,epm⟩
 obtain⟨i1,i2,i3,i4,i5,i6,nd,off,ndl⟩:=hI;obtain⟨c1,c2,c3,c4⟩:=hc
 have emm:((l.map fun p=>(p.1.1,p.2.1)).map (·.1))=l.map (·.1.1):=List.map_map
 rw [emm] at c1 c3;rw [List.length_map] at c2
 have h1:∀ q∈([(x,instObj 143 f.dx),(f.dx,dictOf (wd f.hsh f.tkn (.bool true) (.bool true) .none .none (.bool false) .none .none .none f.wr f.da f.de f.ns f.pm f.pr w.seen w.done 0) f.ep),(f.da,listOf (strValues f.ds).toArray f.n1),(f.out,listOf (strValues f.ol).toArray f.n2),(f.wr,Aj f.out),(f.de,listOf (f.dlv.map fun p=>Value.ref p.1).toArray f.nde),(f.ns,listOf (f.nlv.map fun p=>Value.ref p.1).toArray f.nns),(f.pr,listOf (b.map Value.bool++[Value.bool pv]).toArray f.npr)]++tabs),q∈f.own w x++tabs:=by
  rw [← epm];intro q hq
  rcases List.mem_append.mp hq with hq | hq
  ·exact Ml _ (Ml _ hq)
  ·exact Mr _ hq
 have h2:∀ q∈f.rest,q∈f.own w x++tabs:=fun q hq=>Ml _ (Mr _ hq)
 have h3:∀ q∈f.rest,q.1∉(([(x,instObj 143 f.dx),(f.dx,dictOf (wd f.hsh f.tkn (.bool true) (.bool true) .none .none (.bool false) .none .none .none f.wr f.da f.de f.ns f.pm f.pr w.seen w.done 0) f.ep),(f.da,listOf (strValues f.ds).toArray f.n1),(f.out,listOf (strValues f.ol).toArray f.n2),(f.wr,Aj f.out),(f.de,listOf (f.dlv.map fun p=>Value.ref p.1).toArray f.nde),(f.ns,listOf (f.nlv.map fun p=>Value.ref p.1).toArray f.nns),(f.pr,listOf (b.map Value.bool++[Value.bool pv]).toArray f.npr)]++tabs)).map (·.1):=by
  intro q hq z;rw [List.map_append] at z
  rcases List.mem_append.mp z with z | z
  ·exact off q hq z
  ·obtain⟨r,hr,e⟩:=List.mem_map.mp z
   exact(hT r hr).2 q hq e
 have f1:=hf.f1;have f2:=hf.f2;have z5:=Fz i5;have z6:=Fz i6;have l3:=hf.l3;have l1:=i5.length;have l2:=i6.length;rw [hf.l1] at l1;rw [hf.l2] at l2
 have l0:w.pre.length=b.length+1:=by rw [epv];exact List.length_append
 refine As ([(x,instObj 143 f.dx),(f.dx,dictOf (wd f.hsh f.tkn (.bool true) (.bool true) .none .none (.bool false) .none .none .none f.wr f.da f.de f.ns f.pm f.pr w.seen w.done 0) f.ep),(f.da,listOf (strValues f.ds).toArray f.n1),(f.out,listOf (strValues f.ol).toArray f.n2),(f.wr,Aj f.out),(f.de,listOf (f.dlv.map fun p=>Value.ref p.1).toArray f.nde),(f.ns,listOf (f.nlv.map fun p=>Value.ref p.1).toArray f.nns),(f.pr,listOf (b.map Value.bool++[Value.bool pv]).toArray f.npr)]++tabs) f.rest F N o1 b1 h1 h2 h3 ?_;with_reducible refine let_mvar% ?zz2:=(fun g₂=>?_:Fa _);Bo neI (tie:Tie _ (type_of% ?zz2)) (?zz2 _);intro H₂ K₂ r₂ back
 refine Ul (dlv:=f.dlv) (nlv:=f.nlv) (lower:=flat w.decl) (nps:=flat w.nss) (l:=l) (na:=na) (tabs:=tabs) (X.keeps K₂) (T.keeps K₂) H₂ hh (Nat.lt_trans zq (by decide)) ?cc y1 y2 y3 y4 hu hLT (K₂ _ _ hat) c2 hsys c1 c3 ?vl ?a1 ?a2 ?a3 (by exact(Nt fun hn1=>fk [_,_] (.c 4 V0 (.k 100) (.e V1 (.a (.m 4 V0) K1) (.e (.k 2900) V1 K0))) rfl hn f1 hn1)) (fun q hq=>⟨Nat.le_trans (hf.g1 q hq).1 (by decide),(hf.g1 q hq).2.1⟩) ?a4 ?a5 hf.g2 (by exact(Nl fun hn1=>fk [_] (.e V0 (.k 400) (.e (.s (.k 4000)) V0 K0)) rfl y5 hn1)) (by exact(Nl fun hn1=>fk [_,_,_] (.e V0 (.k 100) (.e V1 (.s V0) (.e V2 V1 (.e (.s (.k 1000)) V2 K0)))) rfl hn l3 (El l1) hn1)) (by exact(Nl fun hn1=>fk [_,_,_] (.e V0 (.k 100) (.e V1 (.s V0) (.e V2 (.s V1) (.e (.s (.k 1000)) V2 K0)))) rfl hn l3 (El l2) hn1)) (by rw [List.length_map];exact(Nl fun hn1=>fk [_,_,_] (.e V0 (.k 100) (.e V1 (.s V0) (.e (.s V2) V1 (.e (.s (.k 1000)) V2 K0)))) rfl hn l3 (Es l0) hn1)) (fun q hq=>(hT q hq).1) nd fun s' n2 n3 n4 n5 n6 nl dl ol2 itsd ndd prs zt e7 hits hT' hoff hnl hdl hne H'=>?z3
 case cc =>
  obtain⟨o,vs,file,tf,fl,tg,inF,text,tt',y1,y2⟩:=C116;exact⟨o,vs,file,tf,fl,tg,inF,text,tt',K₂ _ _ y1,y2⟩
 case vl=>exact fun q hq=>c4 (q.1.1,q.2.1) (List.mem_map_of_mem (f:=fun p:(Str × Tok) × (Str × Tok)=>(p.1.1,p.2.1)) hq)
 case a1 =>
  intro q hq;obtain⟨k,hk⟩:=i3 q hq;exact⟨_,r₂ _ hk,rfl,_,rfl⟩
 case a2=>intro q hq;have:=z5 q hq;lia
 case a3=>exact(Ft i5).mono fun _ _ z=>Fm r₂ z
 case a4 =>
  intro q hq;obtain⟨k,hk⟩:=i4 q hq;have:=z6 q hq
  exact⟨⟨_,r₂ _ hk,rfl,_,rfl⟩,by lia⟩
 case a5=>exact(Ft i6).mono fun _ _ z=>Fm r₂ z
 case z3 =>
  have hfr:∀ a o,(a,o)∈(dl,listOf itsd ndd)::(nl,listOf #[] 0)::(prs++zt)→∀ r∈f.rest,a≠r.1:=fun a o ha r hr=>Ie H' r₂ (o:=o) (Yn _ ha) (show (r.1,r.2)∈_ from hr)
  obtain⟨F',N',o',b'⟩:=back _ _ H'
  obtain⟨pf,hpf⟩:∃ l,l=prs.filter (fun r=>decide (r.1∉zt.map (·.1))):=⟨_,rfl⟩
  have hpin:∀ r∈pf,r∈prs∧∀ t∈zt,t.1≠r.1:=fun r hr=>by
   rw [hpf] at hr;have:=List.mem_filter.mp hr
   exact⟨this.1,fun t ht e=>(of_decide_eq_true this.2) (e ▸ List.mem_map_of_mem (f:=(·.1)) ht)⟩
  have hfld:∀ t∈zt,∃ vs,t.2.data=.fields vs:=fun t ht=>by
   rcases hT' with rfl | ⟨c',oc,vs,t',rfl,y1,_⟩
   ·rw [List.mem_singleton.mp ht];exact⟨_,rfl⟩
   ·rcases List.mem_cons.mp ht with rfl | ht
    ·exact⟨_,rfl⟩
    ·rw [List.mem_singleton.mp ht];exact⟨_,y1⟩
  have mono2:∀ {v:Value} {q:Pr},Ap prs v q→Ap pf v q:=fun⟨a',y1,y2,e,hm⟩=>⟨a',y1,y2,e,by
   rw [hpf]
   refine List.mem_filter.mpr ⟨hm,decide_eq_true fun hz=>?_⟩
   obtain⟨t,ht,e1⟩:=List.mem_map.mp hz;have g1:=(N' _ (Ml _ (Mr _ (Ml _ hm)))).1;have g2:=(N' t (Ml _ (Mr _ (Mr _ ht)))).1;rw [e1,g1] at g2;obtain⟨vs,y⟩:=hfld t ht;rw [← Option.some.inj g2] at y
   cases y⟩
  have mono:∀ {v:Value} {q:Pr},Ap f.rest v q→Ap ((dl,listOf itsd ndd)::(nl,listOf #[] 0)::(pf++f.rest)) v q:=fun⟨a',y1,y2,e,hm⟩=>⟨a',y1,y2,e,.tail _ (.tail _ (Mr _ hm))⟩
  refine h { f with ds:=[],n1:=n2,ol:=ol2,n2:=n3,dlv:=f.dlv++[(dl,itsd)],nde:=n6,nlv:=f.nlv++[(nl,#[])],nns:=n4,npr:=n5,rest:=(dl,listOf itsd ndd)::(nl,listOf #[] 0)::(pf++f.rest) } s' zt hT' rfl ⟨rfl,?_,?_,?_,?_,?_,nd,?_,?_⟩ ?_ F' ?_ o' b'
  ·show ol2.map (·.1)=w.out++(w.core.flush w.data++Cf (w.core.names tag (l.map fun p=>(p.1.1,p.2.1))).1 (w.core.names tag (l.map fun p=>(p.1.1,p.2.1))).2 tag (l.map fun p=>(p.1.1,p.2.1)))
   rw [e7,i2,i1];unfold KS.flush KS.names;rw [hlast,emm];rfl
  ·intro q hq
   rcases List.mem_append.mp hq with hq | hq
   ·obtain⟨k,hk⟩:=i3 q hq
    exact⟨k,.tail _ (.tail _ (Mr _ hk))⟩
   ·rw [List.mem_singleton.mp hq];exact⟨ndd,.head _⟩
  ·intro q hq
   rcases List.mem_append.mp hq with hq | hq
   ·obtain⟨k,hk⟩:=i4 q hq
    exact⟨k,.tail _ (.tail _ (Mr _ hk))⟩
   ·rw [List.mem_singleton.mp hq];exact⟨0,.tail _ (.head _)⟩
  ·show All2 _ (f.dlv++[(dl,itsd)]) (w.decl++[(w.core.names tag (l.map fun p=>(p.1.1,p.2.1))).1])
   refine(i5.mono fun _ _ z=>z.mono fun _ _=>mono).snoc ?_
   unfold KS.names;rw [emm]
   exact hits.mono fun _ _ z=>(mono2 z).mono fun _ hq=>.tail _ (.tail _ (Ml _ hq))
  ·show All2 _ (f.nlv++[(nl,#[])]) (w.nss++[[]])
   exact(i6.mono fun _ _ z=>z.mono fun _ _=>mono).snoc .nil
  ·intro r hr
   rcases List.mem_cons.mp hr with rfl | hr
   ·exact hdl
   rcases List.mem_cons.mp hr with rfl | hr
   ·exact hnl
   rcases List.mem_append.mp hr with hr | hr
   ·exact(hoff r (Ml _ (hpin r hr).1)).1
   ·exact off r hr
  ·show ((f.dlv++[(dl,itsd)]).map (fun p:Addr × Array Value=>p.1)++(f.nlv++[(nl,(#[]:Array Value))]).map (fun p:Addr × Array Value=>p.1)).Nodup
   have hA:∀ a∈f.dlv.map (·.1),a≠dl∧a≠nl:=fun a ha=>by
    obtain⟨q,hq,rfl⟩:=List.mem_map.mp ha;obtain⟨k,hk⟩:=i3 q hq;exact⟨Ne.symm (hfr dl _ (.head _) _ hk),Ne.symm (hfr nl _ (.tail _ (.head _)) _ hk)⟩
   have hB:∀ a∈f.nlv.map (·.1),a≠dl∧a≠nl:=fun a ha=>by
    obtain⟨q,hq,rfl⟩:=List.mem_map.mp ha;obtain⟨k,hk⟩:=i4 q hq;exact⟨Ne.symm (hfr dl _ (.head _) _ hk),Ne.symm (hfr nl _ (.tail _ (.head _)) _ hk)⟩
   obtain⟨m1,m2,m3⟩:=List.nodup_append.mp ndl;rw [List.map_append,List.map_append]
   refine List.nodup_append.mpr ⟨List.nodup_append.mpr ⟨m1,by simp,fun a ha c hc=>by rw [List.mem_singleton.mp hc];exact(hA a ha).1⟩,List.nodup_append.mpr ⟨m2,by simp,fun a ha c hc=>by rw [List.mem_singleton.mp hc];exact(hB a ha).2⟩,fun a ha c hc=>?_⟩
   rcases List.mem_append.mp ha with ha | ha
   ·rcases List.mem_append.mp hc with hc | hc
    ·exact m3 a ha c hc
    ·rw [List.mem_singleton.mp hc];exact(hA a ha).2
   ·rw [List.mem_singleton.mp ha]
    rcases List.mem_append.mp hc with hc | hc
    ·exact Ne.symm (hB c hc).1
    ·rw [List.mem_singleton.mp hc];exact Ne.symm hne
  ·intro r hr
   refine⟨(hoff r (Mr _ hr)).1,fun q hq=>?_⟩
   rcases List.mem_cons.mp hq with rfl | hq
   ·exact(hoff r (Mr _ hr)).2.2
   rcases List.mem_cons.mp hq with rfl | hq
   ·exact(hoff r (Mr _ hr)).2.1
   rcases List.mem_append.mp hq with hq | hq
   ·exact(hpin q hq).2 r hr
   ·exact hfr r.1 r.2 (.tail _ (.tail _ (Mr _ hr))) q hq
  ·have epd:(w.tell (.start tag (l.map fun p=>(p.1.1,p.2.1)))).pre.map Value.bool=b.map Value.bool++[Value.bool pv,Value.bool (Bt pv (l.map fun p=>(p.1.1,p.2.1)))]:=by
    show (w.pre++[Bt w.core.last (l.map fun p=>(p.1.1,p.2.1))]).map Value.bool=_
    rw [hlast,List.map_append,epm,List.append_assoc];rfl
   have N9:=News.sub N' (Yo hpin)
   show News g L s'.heap (([(x,instObj 143 f.dx),(f.dx,dictOf (wd f.hsh f.tkn (.bool true) (.bool true) .none .none (.bool false) .none .none .none f.wr f.da f.de f.ns f.pm f.pr true w.done 0) f.ep),(f.da,listOf #[] n2),(f.out,listOf (strValues ol2).toArray n3),(f.wr,Aj f.out),(f.de,listOf ((f.dlv++[(dl,itsd)]).map fun(p:Addr × Array Value)=>.ref p.1).toArray n6),(f.ns,listOf ((f.nlv++[(nl,(#[]:Array Value))]).map fun(p:Addr × Array Value)=>.ref p.1).toArray n4),(f.pr,listOf ((w.tell (.start tag (l.map fun p=>(p.1.1,p.2.1)))).pre.map .bool).toArray n5)]++((dl,listOf itsd ndd)::(nl,listOf #[] 0)::(pf++f.rest)))++zt)
   rw [epd];exact N9
end
theorem rs13:True∧True:=by
 (try walk1);(try w_top off)
 all_goals (first | trivial | exact ⟨trivial,trivial⟩)
section

noncomputable def Tg(W:World)(g:Heap)(a:Addr):Told→Prop
 | .start tag attrs=>∃ t tt at_ na l,IsTup g a #[.int 0 t,.str tag tt,.ref at_]∧g.get? at_=some (dictOf (Bg W.params l) na)∧(at_ == sysModules)=false∧attrs=l.map fun p=>(p.1.1,p.2.1)
 | .stop tag=>∃ t tt,IsTup g a #[.int 1 t,.str tag tt,.none]
 | .data x=>∃ t tt,IsTup g a #[.int 2 t,.str x tt,.none]
 | .comment x=>∃ t tt,IsTup g a #[.int 3 t,.str x tt,.none]
 | .pi x=>∃ t tt,IsTup g a #[.int 4 t,.str x tt,.none]
 | .sns p u=>∃ t tp tu,IsTup g a #[.int 5 t,.str p tp,.str u tu]
end
theorem rs14:True∧True:=by
 (try walk1);(try w_top off)
 all_goals (first | trivial | exact ⟨trivial,trivial⟩)
section

theorem Yu{P:Told→Prop}(h1:∀ tag attrs,P (.start tag attrs))(h2:∀ d,P (.stop d))(h3:∀ p u,P (.sns p u))(h4:∀ d,P (.data d))(h5:∀ d,P (.comment d))(h6:∀ d,P (.pi d))(c:Told):P c:=by
 cases c with
 | start a b=>exact h1 a b
 | stop a=>exact h2 a
 | sns a b=>exact h3 a b
 | data a=>exact h4 a
 | comment a=>exact h5 a
 | pi a=>exact h6 a
noncomputable def Ky(W:World)(A:Around)(s:Shared)(g:Heap)(os:OsState)(p:Program)(zw:List Str)(zr:ExcName→Option Value)(mg mb:Str→Option Value)(R:Result→Shared→Prop)(x ca:Addr)(tabs:List (Addr × Obj))(n:Nat)(w:WS)(f:FD)(c:Told):Prop :=
 ∀ (X:(hd11.heap_39 W.params).In g) (T:Top p zw zr mg mb g) (H:Ok g os (f.own w x++tabs) s) (hh:A.handled=none) (zq:A.depth<500) (hu:A.units<7000) (C116:CodeHd g 118 116) (hI:f.Is w x) (hT:f.Off x tabs) (hLT:Eo 116 ⟨136,71,136,96⟩ "C14NWriterTarget._start.<locals>.<lambda>" tabs) (hf:Fit n w) (hn:n≤100) (hc:Cw w c) (hca:Tg W g ca c) (hN:∀ (f':FD) (s':Shared) (zt:List (Addr × Obj)),Eo 116 ⟨136,71,136,96⟩ "C14NWriterTarget._start.<locals>.<lambda>" zt→f'.out=f.out→f'.Is (w.tell c) x→f'.Off x zt→Ok g os (f'.own (w.tell c) x++zt) s'→R (.ok (.ret .none)) s'),codeAny (model rw_dn0283_11.row.prog W) A (.call (.ref 175) ⟨[.ref x,.ref ca],[]⟩) R s
theorem Wt:∀ {a b c d e f g h i j k l m n o p q r},Ky a b c d e f g h i j k l m n o p q r:=by
 refine @(Ab (Ao neW)<|@(Eu neI<|@(Au Ru<|@(Au Dj<|@(Au Qb<|let_mvar% ?n:=(fun W A s g os p zw zr mg mb R x ca tabs n w f c=>?_:∀ a b c d e f g h i j k l m n o p q r,Ky a b c d e f g h i j k l m n o p q r);?n _ _ _ _ _ _ _ _ _ _ _ _ _ _ _ _ _ _)))))
 intro X T H hh zq hu C116 hI hT hLT hf hn hc hca hN;revert X
 k_fill
 intro X
 refine' Cq (fun y=>List.lookup y [("call",.ref ca),("target",.ref x)]) H X T ?k6 ?k7 (Nat.lt_trans zq (by decide)) ?k9 ?kB ?km ?kl ?_ ?c1 ?c2 ?c3 ?c4
 (case k6=>k_is)
 (case k7=>k_is)
 (case k9=>exact BindsTo.of_eq rfl)
 (case kB=>exact locs rfl)
 (case km=>exact rfl)
 (case kl=>exact Nat.succ_pos _)
 (case c1=>exact rfl)
 (case c2=>exact rfl)
 (case c3=>exact rfl)
 (case c4=>decide)
 k_whole;with_reducible refine let_mvar% ?za:=(fun L' h1 k0=>?_:Fa3 _);Am neI (Bu:Tie _ (type_of% ?za)) (?za _ _ _);intro hk0 F1 N1 l1;(try k_lt l1);(try dsimp only)
 revert c;refine Yu ?start ?stop ?sns ?data ?comment ?pi
 case data =>
  walk_at "eps";rename_i d;intro hc hca hN
  revert hca;refine Fw ?_;walk_at "eps2";rename_i t tt;intro hca
  repeat' (first
   | ((with_reducible show wpAny _ _ (assign (Expr.Tuple _ _ _) _ (.ref ca)) _ _ _);(rename Fr ..=>F9);(rename News ..=>N9);refine Cz hh F9 N9 (by obtain⟨o,y1,y2⟩:=hca;exact⟨o,F9.keep _ _ y1,y2⟩) ?_ rfl rfl rfl rfl;clear F9 N9;walk_at "eps2";rename_i h20 tk20;intro F20 N20;(try dsimp only))
   | ((fail_if_success (with_reducible show wpAny _ _ (call (.ref 90) _) _ _ _));walk_at "go"))
  (try any_goals (exact Str.empty))
  (try any_goals (exact .none))
  (try any_goals (exact L'))
  (rename Fr ..=>F9);(rename News ..=>N9)
  refine Wr (os:=os) (f:=f) (w:=w) (tabs:=tabs) (n:=n) X T ?hhdata ?rmdata F9 N9 ?osdata ?brdata hI hT hf hn hc ?zzdata
  case osdata=>exact H.os
  case brdata=>exact H.bare
  case hhdata=>exact hh
  case rmdata=>show A.depth+1<600;exact(Nt fun hn1=>fk [_] (.e (.s V0) (.k 500) (.e (.k 600) (.s V0) K0)) rfl zq hn1)
  with_reducible refine let_mvar% ?zezzdata:=(fun f' s'=>?_:Fa2 _);Al (Dj.elim fun f=>⟨(f,{})⟩) (Bn:Tie _ (type_of% ?zezzdata)) (?zezzdata _ _);intro ho' hI' hT' F' N' o' b'
  repeat' ((fail_if_success (with_reducible show LeaveM _ _ _ _ _));walk_at "go")
  (try any_goals (exact Str.empty))
  (try any_goals (exact .none))
  (try any_goals (exact L'))
  exact leaveM_ F' N' o' b' fun H'=>hN f' s' tabs hLT ho' hI' hT' H'
 case stop =>
  walk_at "eps";rename_i d;intro hc hca hN
  revert hca;refine Fw ?_;walk_at "eps2";rename_i t tt;intro hca
  repeat' (first
   | ((with_reducible show wpAny _ _ (assign (Expr.Tuple _ _ _) _ (.ref ca)) _ _ _);(rename Fr ..=>F9);(rename News ..=>N9);refine Cz hh F9 N9 (by obtain⟨o,y1,y2⟩:=hca;exact⟨o,F9.keep _ _ y1,y2⟩) ?_ rfl rfl rfl rfl;clear F9 N9;walk_at "eps2";rename_i h20 tk20;intro F20 N20;(try dsimp only))
   | ((fail_if_success (with_reducible show wpAny _ _ (call (.ref 126) _) _ _ _));walk_at "go"))
  (try any_goals (exact Str.empty))
  (try any_goals (exact .none))
  (try any_goals (exact L'))
  (rename Fr ..=>F9);(rename News ..=>N9)
  refine Wu (os:=os) (f:=f) (w:=w) (tabs:=tabs) (n:=n) X T ?hhstop ?rmstop F9 N9 ?osstop ?brstop hI hT hf hn hc ?zzstop
  case osstop=>exact H.os
  case brstop=>exact H.bare
  case hhstop=>exact hh
  case rmstop=>show A.depth+1<600;exact(Nt fun hn1=>fk [_] (.e (.s V0) (.k 500) (.e (.k 600) (.s V0) K0)) rfl zq hn1)
  with_reducible refine let_mvar% ?zezzstop:=(fun f' s'=>?_:Fa2 _);Al (Dj.elim fun f=>⟨(f,{})⟩) (Bn:Tie _ (type_of% ?zezzstop)) (?zezzstop _ _);intro ho' hI' hT' F' N' o' b'
  repeat' ((fail_if_success (with_reducible show LeaveM _ _ _ _ _));walk_at "go")
  (try any_goals (exact Str.empty))
  (try any_goals (exact .none))
  (try any_goals (exact L'))
  exact leaveM_ F' N' o' b' fun H'=>hN f' s' tabs hLT ho' hI' hT' H'
 case sns =>
  walk_at "eps2";rename_i p u;intro hc hca hN
  revert hca;refine Lz ?_;with_reducible refine let_mvar% ?zc9:=(fun t tp tu=>?_:Fa3 _);Am neI (Bu:Tie _ (type_of% ?zc9)) (?zc9 _ _ _);intro hca
  repeat' (first
   | ((with_reducible show wpAny _ _ (assign (Expr.Tuple _ _ _) _ (.ref ca)) _ _ _);(rename Fr ..=>F9);(rename News ..=>N9);refine Cz hh F9 N9 (by obtain⟨o,y1,y2⟩:=hca;exact⟨o,F9.keep _ _ y1,y2⟩) ?_ rfl rfl rfl rfl;clear F9 N9;walk_at "eps2";rename_i h20 tk20;intro F20 N20;(try dsimp only))
   | ((fail_if_success (with_reducible show wpAny _ _ (call (.ref 106) _) _ _ _));walk_at "go"))
  (try any_goals (exact Str.empty))
  (try any_goals (exact .none))
  (try any_goals (exact L'))
  (rename Fr ..=>F9);(rename News ..=>N9)
  refine Nv (os:=os) (f:=f) (w:=w) (tabs:=tabs) (n:=n) X T ?hhsns ?rmsns F9 N9 ?ossns ?brsns hI hT hf hn hc ?zzsns
  case ossns=>exact H.os
  case brsns=>exact H.bare
  case hhsns=>exact hh
  case rmsns=>show A.depth+1<600;exact(Nt fun hn1=>fk [_] (.e (.s V0) (.k 500) (.e (.k 600) (.s V0) K0)) rfl zq hn1)
  with_reducible refine let_mvar% ?zezzsns:=(fun f' s'=>?_:Fa2 _);Al (Dj.elim fun f=>⟨(f,{})⟩) (Bn:Tie _ (type_of% ?zezzsns)) (?zezzsns _ _);intro ho' hI' hT' F' N' o' b'
  repeat' ((fail_if_success (with_reducible show LeaveM _ _ _ _ _));walk_at "go")
  (try any_goals (exact Str.empty))
  (try any_goals (exact .none))
  (try any_goals (exact L'))
  exact leaveM_ F' N' o' b' fun H'=>hN f' s' tabs hLT ho' hI' hT' H'
 case pi =>
  walk_at "eps";rename_i d;intro hc hca hN
  revert hca;refine Fw ?_;walk_at "eps2";rename_i t tt;intro hca
  repeat' (first
   | ((with_reducible show wpAny _ _ (assign (Expr.Tuple _ _ _) _ (.ref ca)) _ _ _);(rename Fr ..=>F9);(rename News ..=>N9);refine Cz hh F9 N9 (by obtain⟨o,y1,y2⟩:=hca;exact⟨o,F9.keep _ _ y1,y2⟩) ?_ rfl rfl rfl rfl;clear F9 N9;walk_at "eps2";rename_i h20 tk20;intro F20 N20;(try dsimp only))
   | ((fail_if_success (with_reducible show wpAny _ _ (call (.ref 140) _) _ _ _));walk_at "go"))
  (try any_goals (exact Str.empty))
  (try any_goals (exact .none))
  (try any_goals (exact L'))
  (rename Fr ..=>F9);(rename News ..=>N9)
  refine tell_pi (os:=os) (f:=f) (w:=w) (tabs:=tabs) (n:=n) X T ?hhpi ?rmpi F9 N9 ?ospi ?brpi hI hT hf hn hc ?zzpi
  case ospi=>exact H.os
  case brpi=>exact H.bare
  case hhpi=>exact hh
  case rmpi=>show A.depth+1<600;exact(Nt fun hn1=>fk [_] (.e (.s V0) (.k 500) (.e (.k 600) (.s V0) K0)) rfl zq hn1)
  with_reducible refine let_mvar% ?zezzpi:=(fun f' s'=>?_:Fa2 _);Al (Dj.elim fun f=>⟨(f,{})⟩) (Bn:Tie _ (type_of% ?zezzpi)) (?zezzpi _ _);intro ho' hI' hT' F' N' o' b'
  repeat' ((fail_if_success (with_reducible show LeaveM _ _ _ _ _));walk_at "go")
  (try any_goals (exact Str.empty))
  (try any_goals (exact .none))
  (try any_goals (exact L'))
  exact leaveM_ F' N' o' b' fun H'=>hN f' s' tabs hLT ho' hI' hT' H'
 case comment =>
  walk_at "eps";rename_i d;intro hc hca hN
  revert hca;refine Fw ?_;walk_at "eps2";rename_i t tt;intro hca
  repeat' (first
   | ((with_reducible show wpAny _ _ (assign (Expr.Tuple _ _ _) _ (.ref ca)) _ _ _);(rename Fr ..=>F9);(rename News ..=>N9);refine Cz hh F9 N9 (by obtain⟨o,y1,y2⟩:=hca;exact⟨o,F9.keep _ _ y1,y2⟩) ?_ rfl rfl rfl rfl;clear F9 N9;walk_at "eps2";rename_i h20 tk20;intro F20 N20;(try dsimp only))
   | ((fail_if_success (with_reducible show wpAny _ _ (call (.ref 133) _) _ _ _));walk_at "go"))
  (try any_goals (exact Str.empty))
  (try any_goals (exact .none))
  (try any_goals (exact L'))
  (rename Fr ..=>F9);(rename News ..=>N9)
  rcases Bool.eq_false_or_eq_true w.done with hd | hd
  ·refine Ws (os:=os) (f:=f) (w:=w) (tabs:=tabs) (n:=n) X T ?hhlast ?rmlast F9 N9 ?oslast ?brlast hI hT hf hn hc hd ?zzlast
   case oslast=>exact H.os
   case brlast=>exact H.bare
   case hhlast=>exact hh
   case rmlast=>show A.depth+1<600;exact(Nt fun hn1=>fk [_] (.e (.s V0) (.k 500) (.e (.k 600) (.s V0) K0)) rfl zq hn1)
   with_reducible refine let_mvar% ?zezzlast:=(fun f' s'=>?_:Fa2 _);Al (Dj.elim fun f=>⟨(f,{})⟩) (Bn:Tie _ (type_of% ?zezzlast)) (?zezzlast _ _);intro ho' hI' hT' F' N' o' b'
   repeat' ((fail_if_success (with_reducible show LeaveM _ _ _ _ _));walk_at "go")
   (try any_goals (exact Str.empty))
   (try any_goals (exact .none))
   (try any_goals (exact L'))
   exact leaveM_ F' N' o' b' fun H'=>hN f' s' tabs hLT ho' hI' hT' H'
  ·refine Qm (os:=os) (f:=f) (w:=w) (tabs:=tabs) (n:=n) X T ?hhcomment ?rmcomment F9 N9 ?oscomment ?brcomment hI hT hf hn hc hd ?zzcomment
   case oscomment=>exact H.os
   case brcomment=>exact H.bare
   case hhcomment=>exact hh
   case rmcomment=>show A.depth+1<600;exact(Nt fun hn1=>fk [_] (.e (.s V0) (.k 500) (.e (.k 600) (.s V0) K0)) rfl zq hn1)
   with_reducible refine let_mvar% ?zezzcomment:=(fun f' s'=>?_:Fa2 _);Al (Dj.elim fun f=>⟨(f,{})⟩) (Bn:Tie _ (type_of% ?zezzcomment)) (?zezzcomment _ _);intro ho' hI' hT' F' N' o' b'
   repeat' ((fail_if_success (with_reducible show LeaveM _ _ _ _ _));walk_at "go")
   (try any_goals (exact Str.empty))
   (try any_goals (exact .none))
   (try any_goals (exact L'))
   exact leaveM_ F' N' o' b' fun H'=>hN f' s' tabs hLT ho' hI' hT' H'
 case start =>
  walk_at "eps2";rename_i tag attrs;intro hc hca hN
  revert hca;refine exi5 ?_;with_reducible refine let_mvar% ?zc12:=(fun t tt at_ na l=>?_:Fa5 _);Ee neI (Lm:Tie _ (type_of% ?zc12)) (?zc12 _ _ _ _ _);rintro⟨hca,hat,hsys,rfl⟩
  repeat' (first
   | ((with_reducible show wpAny _ _ (assign (Expr.Tuple _ _ _) _ (.ref ca)) _ _ _);(rename Fr ..=>F9);(rename News ..=>N9);refine Cz hh F9 N9 (by obtain⟨o,y1,y2⟩:=hca;exact⟨o,F9.keep _ _ y1,y2⟩) ?_ rfl rfl rfl rfl;clear F9 N9;walk_at "eps2";rename_i h20 tk20;intro F20 N20;(try dsimp only))
   | ((fail_if_success (with_reducible show wpAny _ _ (call (.ref 113) _) _ _ _));walk_at "go"))
  (try any_goals (exact Str.empty))
  (try any_goals (exact .none))
  (try any_goals (exact L'))
  (rename Fr ..=>F9);(rename News ..=>N9)
  refine Un (os:=os) (f:=f) (w:=w) (tabs:=tabs) (n:=n) X T ?hhstart ?rmstart F9 N9 ?osstart ?brstart hI hT hf hn hc hat hsys (show A.units+3<8000 by exact(Nt fun hn1=>fk [_] (.e (.s V0) (.k 7000) (.e (.k 8000) (.a V0 (.k 3)) K0)) rfl hu hn1)) C116 hLT ?zzstart
  case osstart=>exact H.os
  case brstart=>exact H.bare
  case hhstart=>exact hh
  case rmstart=>show A.depth+1<600;exact(Nt fun hn1=>fk [_] (.e (.s V0) (.k 500) (.e (.k 600) (.s V0) K0)) rfl zq hn1)
  with_reducible refine let_mvar% ?zezzstart:=(fun f' s' zt=>?_:Fa3 _);Am (Dj.elim fun f=>⟨(f,{},default)⟩) (Bu:Tie _ (type_of% ?zezzstart)) (?zezzstart _ _ _);intro hLT' ho' hI' hT' F' N' o' b'
  repeat' ((fail_if_success (with_reducible show LeaveM _ _ _ _ _));walk_at "go")
  (try any_goals (exact Str.empty))
  (try any_goals (exact .none))
  (try any_goals (exact L'))
  exact leaveM_ F' N' o' b' fun H'=>hN f' s' zt hLT' ho' hI' hT' H'
end
section

noncomputable def Bq(W:World)(own:List (Addr × Obj))(v:Value):Told→Prop
 | .start tag attrs=>∃ a t tt at_ na l,v=.ref a∧(a,Ae #[.int 0 t,.str tag tt,.ref at_])∈own∧(at_,dictOf (Bg W.params l) na)∈own∧(at_ == sysModules)=false∧attrs=l.map fun p=>(p.1.1,p.2.1)
 | .stop tag=>∃ a t tt,v=.ref a∧(a,Ae #[.int 1 t,.str tag tt,.none])∈own
 | .data x=>∃ a t tt,v=.ref a∧(a,Ae #[.int 2 t,.str x tt,.none])∈own
 | .comment x=>∃ a t tt,v=.ref a∧(a,Ae #[.int 3 t,.str x tt,.none])∈own
 | .pi x=>∃ a t tt,v=.ref a∧(a,Ae #[.int 4 t,.str x tt,.none])∈own
 | .sns p u=>∃ a t tp tu,v=.ref a∧(a,Ae #[.int 5 t,.str p tp,.str u tu])∈own
theorem Bq.sub{W:World}{o1 o2:List (Addr × Obj)}{v:Value}{c:Told}(k:∀ p∈o1,p∈o2)(x:Bq W o1 v c):Bq W o2 v c:=by
 cases c with
 | start tag attrs=>obtain⟨a,t,tt,at_,na,l,e,y1,y2,y3⟩:=x;exact⟨a,t,tt,at_,na,l,e,k _ y1,k _ y2,y3⟩
 | stop tag=>obtain⟨a,t,tt,e,y⟩:=x;exact⟨a,t,tt,e,k _ y⟩
 | data x'=>obtain⟨a,t,tt,e,y⟩:=x;exact⟨a,t,tt,e,k _ y⟩
 | comment x'=>obtain⟨a,t,tt,e,y⟩:=x;exact⟨a,t,tt,e,k _ y⟩
 | pi x'=>obtain⟨a,t,tt,e,y⟩:=x;exact⟨a,t,tt,e,k _ y⟩
 | sns p u=>obtain⟨a,t,tp,tu,e,y⟩:=x;exact⟨a,t,tp,tu,e,k _ y⟩
theorem Bq.told{W:World}{own:List (Addr × Obj)}{g:Heap}{v:Value}{c:Told}(k:∀ p∈own,g.get? p.1=some p.2)(x:Bq W own v c):∃ a,v=.ref a∧Tg W g a c:=by
 cases c with
 | start tag attrs=>obtain⟨a,t,tt,at_,na,l,e,y1,y2,y3⟩:=x;exact⟨a,e,t,tt,at_,na,l,⟨_,k _ y1,rfl,_,rfl⟩,k _ y2,y3⟩
 | stop tag=>obtain⟨a,t,tt,e,y⟩:=x;exact⟨a,e,t,tt,⟨_,k _ y,rfl,_,rfl⟩⟩
 | data x'=>obtain⟨a,t,tt,e,y⟩:=x;exact⟨a,e,t,tt,⟨_,k _ y,rfl,_,rfl⟩⟩
 | comment x'=>obtain⟨a,t,tt,e,y⟩:=x;exact⟨a,e,t,tt,⟨_,k _ y,rfl,_,rfl⟩⟩
 | pi x'=>obtain⟨a,t,tt,e,y⟩:=x;exact⟨a,e,t,tt,⟨_,k _ y,rfl,_,rfl⟩⟩
 | sns p u=>obtain⟨a,t,tp,tu,e,y⟩:=x;exact⟨a,e,t,tp,tu,⟨_,k _ y,rfl,_,rfl⟩⟩
theorem ss_es{prog:Program}{w:World}:∀ {es:List DictEntry} {kvs:List (Str × Value)} {q:List (Str × (Str × Tok))},(∀ e∈es,∃ k,(strKind prog w).is k e.key=true∧e.hash=(strKind prog w).hash k)→Pairs (strKind prog w) es kvs→kvs=q.map (fun p=>(p.1,.str p.2.1 p.2.2)) →
  ∃ l,es=Bg w.params l∧(l.map fun p=>(p.1.1,p.2.1))=q.map fun p=>(p.1,p.2.1):=by
 intro es kvs q
 induction q generalizing es kvs with
 | nil=>intro _ hp he;subst he;cases hp;exact⟨[],rfl,rfl⟩
 | cons p q ih =>
  intro hk hp he;obtain⟨k,v,t⟩:=p;subst he;rw [List.map_cons] at hp
  cases es with
  | nil=>cases hp
  | cons e es =>
  cases hp with
  | cons a b r =>
  obtain⟨l,hl,hq⟩:=ih (fun e he=>hk e (.tail _ he)) r rfl
  obtain⟨k',h1,h2⟩:=hk _ (.head _);have:=(strKind prog w).inj _ _ _ a h1;dsimp only at this;subst this;obtain⟨tk',ek⟩:=Value.isStrOf_shape a;obtain⟨eh,ekey,ev⟩:=e;dsimp only at ek b h2;subst ek b h2
  exact⟨((k,tk'),(v,t))::l,by rw [hl];rfl,by rw [List.map_cons,hq];rfl⟩
theorem ss_of{prog:Program}{w:World}{o:Obj}{kvs:List (Str × Value)}{q:List (Str × (Str × Tok))}(h:o.IsDictOf (strKind prog w) kvs)(e:kvs=q.map fun p=>(p.1,.str p.2.1 p.2.2)) :
  ∃ l n,o=dictOf (Bg w.params l) n∧(l.map fun p=>(p.1.1,p.2.1))=q.map fun p=>(p.1,p.2.1):=by
 obtain⟨es,ep,⟨x1,x2,x3⟩,hd,hk,hp,hn⟩:=h
 obtain⟨l,e1,e2⟩:=ss_es (fun e he=>hk e (by simpa using he)) hp e
 refine⟨l,ep,?_,e2⟩;obtain⟨c,d,dt,sl⟩:=o;dsimp only at x1 x2 x3 hd;subst x1 x2 x3 hd;rw [← e1]
section
variable{prog:Program}{w:World}{A:Around}{E:Value→Shared→Prop}{s:Shared}{h₀:Heap}{L:Addr}{m:Str→Option Value}{news:List (Addr × Obj)}
theorem Gf{t:Addr}{v1 v2:Value}{n:Nat}{Q:List Value→Shared→Prop}(hh:A.handled=none)(hF:Fr h₀ L s.heap m)(N:News h₀ L s.heap ((t,Ae #[v1,v2])::news))
  (hQ:∀ h',Fr h₀ L h' m→News h₀ L h' news→Q [v1,v2] { s with heap:=h' }) (hn:n=2):wpAny (model prog w) A (unpackItems (.ref t) n none) Q E s:=by
 subst hn
 exact unpackItems_tuple (items:=#[v1,v2]) hh ⟨_,(N _ (.head _)).1,rfl,_,rfl⟩ fun h' he=>hQ h' (Fr.extBut hF he (Nat.le_refl _)) (News.sub (News.ext N he) fun _ z=>.tail _ z)
theorem Wo{value slice:PySem.Expr}{a:Addr}{l:List (Str × Tok)}{i:Int}{t:Tok}{Q:Value→Shared→Prop}(hl:s.heap.IsList a (strValues l).toArray)(h0:0≤i)(h1:i<l.length)(h2:l.length≤100)
  (h:∀ t',Q (.str (pick Str.empty (l.map (·.1)) i) t') s)
  (hs:subscripted slice false (.ref a) (.int i t)=operate [.ref a,.int i t] (getItem (.ref a) (.int i t)):=by with_unfolding_all rfl) :
  wpAny (model prog w) A (subscriptTail value slice (.ref a) (.int i t)) Q E s:=by
 obtain⟨k,rfl⟩:=Int.eq_ofNat_of_zero_le h0
 have hk:k<l.length:=by lia
 have e1:l[k]?=some l[k]:=List.getElem?_eq_getElem hk
 have e2:pick Str.empty (l.map (·.1)) (k:Int)=l[k].1:=by
  unfold pick;rw [Int.toNat_natCast,List.getD_eq_getElem?_getD,List.getElem?_map,e1];rfl
 refine tail_any hl.typeIs PySem.F.slot_list_getitem.lookup (wpAny_getItem_list hl h0 (by lia) (x:=.str l[k].1 l[k].2) ?_ (e2 ▸ h l[k].2)) hs
 rw [Int.toNat_natCast,List.getElem?_toArray];unfold strValues;rw [List.getElem?_map,e1];rfl
end
theorem Ye{l:List Str}{n:Nat}(h:∀ x∈l,x.length≤n)(i:Int):(pick Str.empty l i).length≤n:=by
 unfold pick;rw [List.getD_eq_getElem?_getD]
 cases e:l[i.toNat]? with
 | none=>exact Nat.zero_le _
 | some v=>exact h v (List.mem_of_getElem? e)
theorem Wy(i:Int):(Fq i).length≤40:=Ye (by decide) i
theorem Dv(i:Int):Fq i∈[Str.empty,"","{urn:a}","{urn:b}","{http://www.w3.org/2001/XMLSchema}"]:=by
 unfold Fq pick;rw [List.getD_eq_getElem?_getD]
 cases e:(["","{urn:a}","{urn:b}","{http://www.w3.org/2001/XMLSchema}"]:List Str)[i.toNat]? with
 | none=>exact .head _
 | some v=>exact .tail _ (List.mem_of_getElem? e)
theorem Kt(i:Int){v:Str × Tok}:Cv∉([(Fq i++"k",v)]:List (Str × (Str × Tok))).map (·.1):=by
 simp only [List.map_cons,List.map_nil,List.mem_singleton]
 have h:∀ u∈[Str.empty,"","{urn:a}","{urn:b}","{http://www.w3.org/2001/XMLSchema}"],Cv≠u++"k":=by decide
 exact h _ (Dv i)
theorem fm_lo(a:Int){b:Int}(h:0<b):0≤a.fmod b:=Int.fmod_nonneg_of_pos a h
theorem fm_hi(a:Int){b:Int}(h:0<b):a.fmod b<b:=Int.fmod_lt_of_pos a h
theorem Oq(a:Int){b:Int}(h:0<b):a.fmod b=a % b:=Int.fmod_eq_emod_of_nonneg a (Int.le_of_lt h)
theorem Rc(a:Int){b:Int}(h:0<b):a.fdiv b=a / b:=Int.fdiv_eq_ediv_of_nonneg a (Int.le_of_lt h)
section
variable{prog:Program}{w:World}{A:Around}{E:Value→Shared→Prop}{s:Shared}
theorem Se{value slice:PySem.Expr}{o:Addr}{l:List (Str × Tok)}{a b:Int}{n:Nat}{t:Tok}{Q:Value→Shared→Prop}(hl:s.heap.IsList o (strValues l).toArray)(hn:l.length=n)(hb:0<b)(hbn:b=(n:Int))(h2:n≤100)
  (h:∀ t',Q (.str (pick Str.empty (l.map (·.1)) (a % b)) t') s)
  (hs:subscripted slice false (.ref o) (.int (a.fmod b) t)=operate [.ref o,.int (a.fmod b) t] (getItem (.ref o) (.int (a.fmod b) t)):=by with_unfolding_all rfl) :
  wpAny (model prog w) A (subscriptTail value slice (.ref o) (.int (a.fmod b) t)) Q E s :=
 Wo hl (fm_lo a hb) (by rw [hn,← hbn];exact fm_hi a hb) (by rw [hn];exact h2) (by rw [Oq a hb];exact h) hs
theorem Ct(names:List Str){value slice:PySem.Expr}{o:Addr}{vs:List Value}{a b:Int}{t:Tok}{Q:Value→Shared→Prop}(hl:s.heap.IsList o vs.toArray)(hv:∃ l:List (Str × Tok),vs=strValues l∧l.map (·.1)=names)(hb:0<b)(hbn:b=(names.length:Int))(h2:names.length≤100)
  (h:∀ t',Q (.str (pick Str.empty names (a % b)) t') s)
  (hs:subscripted slice false (.ref o) (.int (a.fmod b) t)=operate [.ref o,.int (a.fmod b) t] (getItem (.ref o) (.int (a.fmod b) t)):=by with_unfolding_all rfl) :
  wpAny (model prog w) A (subscriptTail value slice (.ref o) (.int (a.fmod b) t)) Q E s:=by
 obtain⟨l,rfl,rfl⟩:=hv
 exact Se (n:=l.length) hl rfl hb (by simpa using hbn) (by simpa using h2) h hs
noncomputable abbrev Fg(k0:Nat):List (Str × Tok):=[("",k0),("{urn:a}",k0+1),("{urn:b}",k0+1+1),("{http://www.w3.org/2001/XMLSchema}",k0+1+1+1)]
theorem Yf{value slice:PySem.Expr}{o:Addr}{k0:Nat}{a:Int}{t:Tok}{Q:Value→Shared→Prop}(hl:s.heap.IsList o (strValues (Fg k0)).toArray)
  (h:∀ t',Q (.str (Fq (a % 4)) t') s)
  (hs:subscripted slice false (.ref o) (.int (a.fmod 4) t)=operate [.ref o,.int (a.fmod 4) t] (getItem (.ref o) (.int (a.fmod 4) t)):=by with_unfolding_all rfl) :
  wpAny (model prog w) A (subscriptTail value slice (.ref o) (.int (a.fmod 4) t)) Q E s :=
 Se (n:=4) hl rfl (by decide) rfl (by decide) h hs
theorem add_uri{i:Int}{b:Str}{t u:Tok}{Q:Value→Shared→Prop}(hb:b.length≤100)(h:∀ t' tk,Q (.str (Fq i++b) t') { s with toks:=tk }):wpAny (model prog w) A (binaryOp .Add (.str (Fq i) t) (.str b u)) Q E s :=
 add_str h (Nat.le_trans (Nat.add_le_add (Wy i) hb) (by rw [sizeLine_eq];decide))
theorem Wq{value slice:PySem.Expr}{l:Addr}{its:Array Value}{v:Value}{t:Tok}{Q:Value→Shared→Prop}(hl:s.heap.IsList l (its.push v))(h:Q v s)
  (hs:subscripted slice false (.ref l) (.int (-1) t)=operate [.ref l,.int (-1) t] (getItem (.ref l) (.int (-1) t)):=by with_unfolding_all rfl) :
  wpAny (model prog w) A (subscriptTail value slice (.ref l) (.int (-1) t)) Q E s :=
 De (vs:=its.toList) (v:=v) (by(have e:(its.toList++[v]).toArray=its.push v:=by cases its;exact(List.push_toArray _ _).symm);rw [e];exact hl) h hs
end
section
variable{prog:Program}{w:World}{A:Around}{E:Value→Shared→Prop}{s:Shared}{h₀:Heap}{L d:Addr}{m:Str→Option Value}{news:List (Addr × Obj)}{g:Obj→List (Addr × Obj)}{o:Obj}
noncomputable def Qq(prog:Program)(w:World)(o:Obj)(q:List (Str × (Str × Tok))):Prop :=
 o.IsDictOf (strKind prog w) (q.map fun p=>(p.1,.str p.2.1 p.2.2))∧∃ D,PyProof.V.FlatPairs PyData.str (q.map fun p=>(p.1,.str p.2.1 p.2.2)) D
theorem Xk{kvs:List (Str × Value)}{D:List (PyData × PyData)}(h:PyProof.V.FlatPairs PyData.str kvs D):D.length=kvs.length:=by
 induction h<;>simp_all
theorem Sg{k v:Str}{tk t:Tok}{q:List (Str × (Str × Tok))}{Q:Unit→Shared→Prop}(F:Fr h₀ L s.heap m)(N:News h₀ L s.heap news)(U:UpdF d o news g)(hd:Qq prog w o q)(hk:k∉q.map (·.1))(hz:q.length≤10)
  (h:∀ h' o' tk',Fr h₀ L h' m→News h₀ L h' (g o')→Qq prog w o' (q++[(k,(v,t))])→Q () { s with heap:=h',toks:=tk' }):wpAny (model prog w) A (setItem (.ref d) (.str k tk) (.str v t)) Q E s:=by
 obtain⟨h1,D,h2⟩:=hd
 have e:stored (q.map fun p=>(p.1,.str p.2.1 p.2.2)) k (.str v t)=(q++[(k,(v,t))]).map fun p=>(p.1,.str p.2.1 p.2.2):=by
  unfold stored;rw [if_neg,List.map_append]
  ·rfl
  ·intro hc
   simp only [List.any_map,List.any_eq_true,Function.comp,decide_eq_true_eq] at hc
   obtain⟨p,hp,he⟩:=hc;exact hk (he ▸ List.mem_map_of_mem hp)
 refine setItem_K PyProof.V.same_str (strKind_is _ _ _ _) (PyProof.V.Flat.str _ _) F N U h1 h2 (fun h' o' F' N' a b=>?_) ?_
 ·rw [e] at a b
  exact h h' o' _ F' N' ⟨a,_,b⟩
 ·rw [Xk h2,List.length_map,sizeLine_eq];exact(Nl fun hn1=>fk [_] (.e V0 (.k 10) (.e (.s (.k 16777216)) V0 K0)) rfl hz hn1)
theorem Yb{env:Env}{pos:Pos}{Q:Value→Shared→Prop}(F:Fr h₀ L s.heap m)(N:News h₀ L s.heap news)(hbig:h₀.NoLimit)
  (k:∀ d h' o,Fr h₀ L h' m→News h₀ L h' ((d,o)::news)→(∀ p∈news,p.1<d)→(d == sysModules)=false→Qq prog w o []→Q (.ref d) { s with heap:=h' }):wpAny (model prog w) A (eval (.Dict [] [] pos) env) Q E s :=
 newDict_K F N hbig fun d h' o F' N' l lo a b _ _=>k d h' o F' N' l lo ⟨a,_,b⟩
theorem Qq.ss{q:List (Str × (Str × Tok))}(h:Qq prog w o q):∃ l n,o=dictOf (Bg w.params l) n∧(l.map fun p=>(p.1.1,p.2.1))=q.map fun p=>(p.1,p.2.1):=ss_of h.1 rfl
theorem m5_of{a b c d e:Str}{m m0:Str→Option Value}(h:∀ y,y≠a→y≠b→y≠c→y≠d→y≠e→m y=m0 y):m=m5 a b c d e m0 (m a) (m b) (m c) (m d) (m e):=funext fun y=>Ho (congrArg m) fun h1=>Ho (congrArg m) fun h2=>Ho (congrArg m) fun h3=>Ho (congrArg m) fun h4=>Ho (congrArg m) fun h5=>h y h5 h4 h3 h2 h1
end
end
section

noncomputable abbrev Io(sa ur cl sd:Addr):Str→Option Value:=fun y=>if y="standing" then some (.ref sd) else if y="calls" then some (.ref cl) else if y="uris" then some (.ref ur) else List.lookup y [("script",.ref sa)]
noncomputable abbrev Gj(sa ur cl sd:Addr)(u1 u2 u3 u4 u5:Option Value):Str→Option Value:=m5 "x" "kind" "more" "attrs" "told" (Io sa ur cl sd) u1 u2 u3 u4 u5
noncomputable def By(xs:List (Int × Tok)):List Value:=xs.map fun x=>.int x.1 x.2
inductive CallsJ (w:World) (xs zs:List (Int × Tok)) (k0:Nat) (sa ur cl sd src:Addr) (rem:List Value) (m:Str→Option Value) (own:List (Addr × Obj)):Prop
 | mk (ys:List (Int × Tok)) (st:List Told × List Str) (cv:List Value) (nC nS:Nat) (sv:List (Str × Tok)) (ob:List (Addr × Obj)) (u1 u2 u3 u4 u5:Option Value) (h0:rem=By ys) (h1:(ys.map (·.1)).foldl Ag st=Ar (xs.map (·.1))) (h2:ScriptOk st) (h3:st.1.length+ys.length≤70) (h4:m=Gj sa ur cl sd u1 u2 u3 u4 u5) (h5:sv.map (·.1)=st.2) (h6:All2 (Bq w ob) cv st.1) (h7:own=(cl,listOf cv.toArray nC)::(sd,listOf (strValues sv).toArray nS)::(ur,listOf (strValues (Fg k0)).toArray 0)::(src,listOf (By zs).toArray 0)::ob) (h8:(∀ q∈ob,q.1≠cl∧q.1≠sd∧q.1≠ur∧q.1≠src)):CallsJ w xs zs k0 sa ur cl sd src rem m own
theorem All2.imp{α β:Type}{P P':α→β→Prop}(hP:∀ a b,P a b→P' a b){l:List α}{r:List β}(h:All2 P l r):All2 P' l r:=h.mono hP
section
variable{w:World}{xs zs ys:List (Int × Tok)}{k0:Nat}{sa ur cl sd src I L:Addr}{oI so:Obj}{m:Str→Option Value}{g h':Heap}{st:List Told × List Str}{cv:List Value}{nC nS:Nat}{ob news:List (Addr × Obj)}{x:Int}{tx:Tok}{os:OsState}
theorem Bs{h9:Heap}{os9:OsState}{gs9:_}(c:Told)(v:Value)(nw:List (Addr × Obj))(sv':List (Str × Tok))(F:Fr g L h9 m)(N:News g L h9 news)
  (zf:Ag st x=(st.1++[c],sv'.map (·.1))) (hv:Bq w (nw++ob) v c) (hso:so=listOf (strValues sv').toArray nS)
  (hsub:∀ q∈[(I,oI),(cl,listOf (cv.toArray.push v) (nC+1)),(sd,so),(ur,listOf (strValues (Fg k0)).toArray 0),(src,listOf (By zs).toArray 0)],q∈news) (hnn:∀ q∈nw,q∈news) (hob:∀ q∈ob,q∈news)
  (hnw:∀ q∈nw,q.1≠cl∧q.1≠sd∧q.1≠ur∧q.1≠src∧q.1≠I)
  (hm:∀ y,y≠Str.ofString "x"→y≠Str.ofString "kind"→y≠Str.ofString "more"→y≠Str.ofString "attrs"→y≠Str.ofString "told"→m y=Io sa ur cl sd y)
  (eF:(((x,tx)::ys).map (·.1)).foldl Ag st=Ar (xs.map (·.1))) (sO:ScriptOk st) (eL:st.1.length+((x,tx)::ys).length≤70) (eC:All2 (Bq w ob) cv st.1)
  (off:∀ q∈ob,q.1≠cl∧q.1≠sd∧q.1≠ur∧q.1≠src) (n1:cl≠I) (n2:sd≠I) (n3:ur≠I) (n4:src≠I) (n5:∀ q∈ob,q.1≠I) (o1:os9=os) (b1:AllBare gs9) :
  ∃ m'' own',CallsJ w xs zs k0 sa ur cl sd src (By ys) m'' own'∧Fr g L h9 m''∧News g L h9 ((I,oI)::own')∧(∀ p∈own',p.1≠I)∧os9=os∧AllBare gs9:=by
 have epush:cv.toArray.push v=(cv++[v]).toArray:=List.push_toArray _ _;subst hso
 refine⟨m,(cl,listOf (cv++[v]).toArray (nC+1))::(sd,listOf (strValues sv').toArray nS)::(ur,listOf (strValues (Fg k0)).toArray 0)::(src,listOf (By zs).toArray 0)::(nw++ob),
  ⟨ys,Ag st x,cv++[v],nC+1,nS,sv',nw++ob,_,_,_,_,_,rfl,eF,sO.step x,?_,m5_of hm,by rw [zf],?_,rfl,?_⟩,F,?_,?_,o1,b1⟩
 ·rw [zf];simp only [List.length_append,List.length_cons,List.length_nil] at eL ⊢;exact(Nl fun hn1=>fk [_,_] (.e (.a V0 (.s V1)) (.k 70) (.e (.s (.k 70)) (.a (.a V0 (.s K0)) V1) K0)) rfl eL hn1)
 ·rw [zf]
  exact(eC.mono fun a b z=>z.sub fun p hp=>Mr _ hp).snoc hv
 ·exact Fp (fun q z=>⟨(hnw q z).1,(hnw q z).2.1,(hnw q z).2.2.1,(hnw q z).2.2.2.1⟩) off
 ·rw [epush] at hsub
  exact News.sub N (Fc (hsub _ (.head _)) (Fc (hsub _ (.tail _ (.head _))) (Fc (hsub _ (.tail _ (.tail _ (.head _)))) (Fc (hsub _ (.tail _ (.tail _ (.tail _ (.head _))))) (Fc (hsub _ (.tail _ (.tail _ (.tail _ (.tail _ (.head _)))))) (Fp hnn hob))))))
 ·exact Fc n1 (Fc n2 (Fc n3 (Fc n4 (Fp (fun q h=>(hnw q h).2.2.2.2) n5))))
end
end
theorem rs15:True∧True:=by
 (try walk1);(try w_top off)
 all_goals (first | trivial | exact ⟨trivial,trivial⟩)
section

open PyProof.Rows.LCg
section
variable{prog:Program}{w:World}{A:Around}{E:Value→Shared→Prop}{s:Shared}{h₀:Heap}{L:Addr}{m:Str→Option Value}{env:Env}
noncomputable def Gk(w:World)(A:Around)(s:Shared)(prog:Program)(E:Value→Shared→Prop)(h₀:Heap)(L:Addr)(m:Str→Option Value)(env:Env)(elt iter:PySem.Expr)(x:Str)(px:Pos)(scope:Scope)(cl:List (Str × Addr))(pos:Pos)(Q:Value→Shared→Prop):Prop :=
 ∀ (hclos:closureFor scope env=pure cl) (hcell:∀ y∈scope.names,y.2≠.cell) (hkind:scope.kind=.function) (hnames:∀ y∈scope.names,y.2=.local→scope.names.lookup y.1=some .local) (hx:scope.names.lookup x=some .local) (h:wpAny (model prog w) A (eval iter env) (fun xv s₁=>∃ (I ax:Addr) (vs:List Value) (news:List (Addr × Obj)),xv=.ref I∧A.handled=none∧Fr h₀ L s₁.heap m∧News h₀ L s₁.heap ((I,revObj ax ((vs.length:Int) - 1))::news)∧(∀ p∈news,p.1≠I)∧ax≠I∧SrcAt h₀ ax vs.toArray news∧vs.length≤sizeLine ∧
   CompRest prog w A h₀ L m env elt x scope cl s₁ (SrcAt h₀ ax vs.toArray) (fun i v=>vs.toArray[vs.toArray.size - 1 - i]?=some v) (FinE h₀ L m s₁ Q) vs.toArray.size 0 [] news) E s) (hs:∀ x,foldedSetIterable iter env x=pure x),wpAny (model prog w) A (eval (.ListComp elt [⟨.Name x px,iter,[],0⟩] scope pos) env) Q E s
theorem Jr:∀ a b c d e f g h i j k l m n o p q,Gk a b c d e f g h i j k l m n o p q:=by
 refine Ab (Ao neW)<|Ab neI<|Au neI<|let_mvar% ?n:=(fun w A s prog E h₀ L m env elt iter x px scope cl pos Q=>?_:∀ a b c d e f g h i j k l m n o p q,Gk a b c d e f g h i j k l m n o p q);?n _ _ _ _ _ _ _ _ _ _ _ _ _ _ _ _ _
 intro hclos hcell hkind hnames hx h hs;rw [eval_ListComp]
 refine wpAny_comprehension_free (use:=none) rfl hs hclos hkind hnames (wpAny_mono h (fun xv s₁ h₁=>?_) fun _ _ e=>e)
 obtain⟨I,ax,vs,news,rfl,hh,F,N,off,hne,S,hsz,R⟩:=h₁
 have N':News h₀ L s₁.heap news:=fun p hp=>N p (.tail _ hp)
 have hl:=S.list F.keep N';have hI:=N _ (.head _)
 have hit:s₁.heap.IsRevIter I ax ((vs.toArray.size:Int) - 1):=⟨_,hI.1,rfl,by simp [revObj]⟩
 refine wpAny_pyIter_revIter hit ?_
 refine block_U (Walks.listRev hh I ax hne vs.toArray) (by simpa using hsz) (fun i h st=>by obtain⟨o,e,_⟩:=st.2.1;exact⟨o,e⟩) (fun i h h' o nw st e e' k N S=>⟨st.1,by obtain⟨o',q,r⟩:=st.2.1;rw [e] at q;cases q;exact⟨o,e',r⟩,S.list k N⟩)
  hcell hkind hx ⟨Nat.zero_le _,by simpa using hit,hl⟩ (fun b hb=>?_) F N' (Ne.symm hI.2.1) hI.2.2 off S R ?_
 ·rcases List.mem_cons.mp hb with rfl | hb
  ·exact Heap.lt_size hI.1
  ·rw [List.mem_singleton.mp hb];obtain⟨_,e,_⟩:=hl;exact Heap.lt_size e
 ·intro D C h tk m' ys news' F' N' o1 hn hC₀ hD₀ hCL hDL hCD offC fin
  refine⟨m',hn,fun h'' hs''=>fin D h'' tk (F'.change hs'' hCL hC₀) (fun p hp=>?_) o1⟩
  refine⟨hs''.extBut _ _ ?_ (N' p hp).1,(N' p hp).2⟩
  rcases List.mem_cons.mp hp with rfl | hp
  ·exact Ne.symm hCD
  ·exact offC p hp
theorem Po{elt iter:PySem.Expr}{x:Str}{px:Pos}{scope:Scope}{cl:List (Str × Addr)}{pos:Pos}{Q:Value→Shared→Prop}
  (hclos:closureFor scope env=pure cl) (hcell:∀ y∈scope.names,y.2≠.cell) (hkind:scope.kind=.function)
  (hnames:∀ y∈scope.names,y.2=.local→scope.names.lookup y.1=some .local) (hx:scope.names.lookup x=some .local)
  (h:wpAny (model prog w) A (eval iter env) (fun xv s₁=>∃ (I ax:Addr) (vs:List Value) (news:List (Addr × Obj)),xv=.ref I∧A.handled=none∧Fr h₀ L s₁.heap m∧News h₀ L s₁.heap ((I,revObj ax ((vs.length:Int) - 1))::news)∧(∀ p∈news,p.1≠I)∧ax≠I∧SrcAt h₀ ax vs.toArray news∧vs.length≤sizeLine ∧
   CompRest prog w A h₀ L m env elt x scope cl s₁ (SrcAt h₀ ax vs.toArray) (fun i v=>vs.toArray[vs.toArray.size - 1 - i]?=some v) (FinE h₀ L m s₁ Q) vs.toArray.size 0 [] news) E s)
  (hs:∀ x,foldedSetIterable iter env x=pure x:=by intro _;rfl) :
  wpAny (model prog w) A (eval (.ListComp elt [⟨.Name x px,iter,[],0⟩] scope pos) env) Q E s:=Jr w A s prog E h₀ L m env elt iter x px scope cl pos Q hclos hcell hkind hnames hx h hs
end
noncomputable abbrev Va:Scope:={ kind:=.function,names:=[(".0",.local),("tag",.local)],isGenerator:=false,isCoroutine:=false,more:=[] }
noncomputable abbrev stElt(p1 p2 p3 p4:Pos):PySem.Expr:=.Tuple [.Constant (.int 1) 0 p1,.Name "tag" p2,.Constant .none 0 p3] 0 p4
theorem st_elt{w:World}{A:Around}{E:Value→Shared→Prop}{s:Shared}{g:Heap}{L C:Addr}{m m₂:Str→Option Value}{news:List (Addr × Obj)}{env:Env}{cl:List (Str × Addr)}{oC:Obj}{d:Str}{td:Tok}{p1 p2 p3 p4:Pos}{Q:Value→Shared→Prop}
  (F1:Fr g L s.heap m) (N1:News g L s.heap ((C,oC)::news)) (hC:NsObj oC m₂) (hu:m₂ "tag"=some (.str d td))
  (h:∀ (T':Addr) t3 h' tk,Fr g L h' m→News g L h' ((T',Ae #[.int 1 t3,.str d td,.none])::(C,oC)::news)→(∀ r∈(C,oC)::news,r.1<T')→Q (.ref T') { s with heap:=h',toks:=tk }) :
  wpAny (model rw_dn0283_11.row.prog w) A (eval (stElt p1 p2 p3 p4) (compEnvC Va cl C env)) Q E s:=by
 repeat' (first
    | ((with_reducible show wpAny _ _ (newTuple _) _ _ _);refine kup_newTuple F1 N1 ?_ (by rw [sizeLine_eq];exact Nat.le_of_ble_eq_true rfl);intro T' h' F' N' l')
    | ((with_reducible show wpAny _ _ (eval (Expr.Name _ _) _) _ _ _);refine LCgL.ld_own N1 (.head _) hC hu ?_)
    | walk_at "go")
 exact h T' _ h' _ F' N' l'
theorem Ry{D:Addr}:∀ {l:List (Addr × Obj)},Off1 D l→∀ p∈l,p.1≠D
 | [],_,_,h=>nomatch h
 | q::l,h,p,hp=>by
  rcases List.mem_cons.mp hp with rfl | hp
  ·exact h.1
  ·exact Ry h.2 p hp
theorem Jb{n:Nat}(h:n≤1000):Builtin.List.listTooLong n=false:=by
 unfold Builtin.List.listTooLong;have:=sizeLine_eq
 simp;exact(Nl fun hn1=>fk [_,_] (.e V0 (.k 1000) (.e (.k 16777216) V1 (.e (.s V1) V0 K0))) rfl h (Es this) hn1)
section
variable{w:World}{A:Around}{s:Shared}{g:Heap}{L:Addr}{m:Str→Option Value}{env:Env}{cl:List (Str × Addr)}{p1 p2 p3 p4:Pos}{Q:Value→Shared→Prop}
theorem Sk{ax:Addr}{tags:List (Str × Tok)}{base:List (Addr × Obj)}(hS:SrcAt g ax (strValues tags).toArray base)
  (fin:∀ ys tu,All2 (Bq w tu) ys ((tags.map (·.1)).reverse.map Told.stop)→(∀ q∈tu,∀ r∈base,r.1≠q.1)→FinE g L m s Q ys (tu++base)) :
  ∀ k i ys tu,i+k=tags.length→All2 (Bq w tu) ys (((tags.map (·.1)).reverse.take i).map Told.stop)→(∀ q∈tu,∀ r∈base,r.1≠q.1) →
   CompRest rw_dn0283_11.row.prog w A g L m env (stElt p1 p2 p3 p4) "tag" Va cl s (SrcAt g ax (strValues tags).toArray) (fun i v=>(strValues tags).toArray[(strValues tags).toArray.size - 1 - i]?=some v) (FinE g L m s Q) k i ys (tu++base)
 | 0,i,ys,tu,hi,hy,ho=>by
  have e:i=(tags.map (·.1)).reverse.length:=by simp;exact(Nat.le_antisymm (Nl fun hn2=>fk [_,_] (.e (.a V0 K0) V1 (.e (.s V1) V0 K0)) rfl (El hi) hn2) (Nl fun hn3=>fk [_,_] (.e V0 (.a V1 K0) (.e (.s V1) V0 K0)) rfl (Es hi) hn3))
  rw [e,List.take_length] at hy;exact fin ys tu hy ho
 | k+1,i,ys,tu,hi,hy,ho=>by
  intro v I oI C oC D m₂ h tk E' hP hC hv F1 N1 off hne
  have hlt:tags.length - 1 - i<tags.length:=by exact(Nt fun hn1=>fk [_,_,_] (.e V0 V1 (.e V1 V2 (.e (.s V2) V0 K0))) rfl hn1 (Nat.sub_le _ _) (Nat.le_of_eq (Nat.sub_add_cancel (Nl fun hn3=>fk [_,_,_] (.e (.a V0 (.s V1)) V2 (.e (.s V2) K1 K0)) rfl (El hi) hn3))))
  have hv':v=.str tags[tags.length - 1 - i].1 tags[tags.length - 1 - i].2:=by
   rw [List.getElem?_toArray] at hP
   simp only [strValues,List.size_toArray,List.length_map,List.getElem?_map,List.getElem?_eq_getElem hlt,Option.map_some] at hP
   exact(Option.some.inj hP).symm
  subst hv'
  have N2:News g L h ((C,oC)::(I,oI)::(D,lst ys)::(tu++base)):=News.sub N1 (by walk_at "l_sub")
  refine st_elt (s:={ s with heap:=h,toks:=tk }) F1 N2 hC hv fun T' t3 h' tk' F' N' l'=>?_
  have e9:(tags.map (·.1)).reverse.take (i+1)=(tags.map (·.1)).reverse.take i++[tags[tags.length - 1 - i].1]:=by
   rw [List.take_succ_eq_append_getElem (by simp;exact(Nt fun hn1=>fk [_,_,_] (.e (.a V0 (.s V1)) V2 (.e V2 V0 K0)) rfl (El hi) hn1))]
   simp
  refine⟨h',tk',((T',Ae #[.int 1 t3,.str tags[tags.length - 1 - i].1 tags[tags.length - 1 - i].2,.none])::tu)++base,rfl,F',News.sub N' ?_,?_,?_,?_⟩
  ·dsimp only [List.cons_append]
   walk_at "l_sub"
  ·have o:=off.mem
   refine Off3.of fun p hp=>?_
   rcases List.mem_cons.mp hp with rfl | hp
   ·exact⟨Nat.ne_of_gt (l' (I,oI) (.tail _ (.head _))),Nat.ne_of_gt (l' (C,oC) (.head _)),Nat.ne_of_gt (l' (D,lst ys) (.tail _ (.tail _ (.head _))))⟩
   ·exact o p hp
  ·rcases hS with z | ⟨o,hm,r⟩
   ·exact .inl z
   ·exact .inr ⟨o,Mr _ hm,r⟩
  ·refine Sk hS fin k (i+1) _ _ (by exact(Nat.le_antisymm (Nl fun hn2=>fk [_,_,_] (.e (.a V0 (.s V1)) V2 (.e (.s V2) (.a (.s V0) V1) K0)) rfl (El hi) hn2) (Nl fun hn5=>fk [_,_,_] (.e V0 (.a V1 (.s V2)) (.e (.a (.a (.s V1) V2) K1) V0 K0)) rfl (Es hi) hn5))) ?_ ?_
   ·rw [e9,List.map_append]
    exact(hy.mono fun a b z=>z.sub fun p hp=>.tail _ hp).snoc ⟨T',_,_,rfl,.head _⟩
   ·intro q hq r hr
    rcases List.mem_cons.mp hq with rfl | hq
    ·exact Nat.ne_of_lt (l' r (by simp [hr]))
    ·exact ho q hq r hr
end
end
section
open PyProof.Rows.LCg
def TA(w:World)(g:Heap)(v:Value)(c:Told):Prop:=∃ a,v=.ref a∧Tg w g a c
noncomputable abbrev Fk(ca lv:Addr)(u:Option Value):Str→Option Value:=fun y=>if y="call" then u else if y="levels" then some (.ref lv) else List.lookup y [("calls",.ref ca)]
theorem Sz{ca lv:Addr}{u v:Option Value}:(fun y=>if y=Str.ofString "call" then v else Fk ca lv u y)=Fk ca lv v:=by
 funext y
 unfold Fk
 by_cases h:y="call"<;>simp [h]
theorem Sy{ca lv:Addr}:(fun y=>if y=Str.ofString "levels" then some (Value.ref lv) else List.lookup y [(Str.ofString "calls",Value.ref ca)])=Fk ca lv none:=by
 funext y
 unfold Fk
 by_cases h:y="call"
 ·subst h;rfl
 ·simp [h]
noncomputable abbrev LV:=Addr × List Value × Nat
noncomputable abbrev Ef(lvs:List LV):List (Addr × Obj):=lvs.map fun l=>(l.1,listOf l.2.1.toArray l.2.2)
inductive StandJ (P:Value→Told→Prop) (cs:List Told) (ca lv:Addr) (rem:List Value) (m:Str→Option Value) (own:List (Addr × Obj)):Prop
 | mk (cs1 cs2:List Told) (lvs:List LV) (n:Nat) (u:Option Value) (h0:cs=cs1++cs2) (h1:All2 P rem cs2) (h2:m=Fk ca lv u) (h3:All2 (fun(l:LV) lev=>All2 P l.2.1 lev) lvs (Af cs1)) (h4:(lvs.map (·.1)).Nodup) (h5:(∀ l∈lvs,l.1≠lv)) (h6:own=(lv,listOf (lvs.map fun l=>.ref l.1).toArray n)::Ef lvs):StandJ P cs ca lv rem m own
theorem Vd{D:Addr}{o o':Obj}:∀ {pre post:List (Addr × Obj)},(∀ p∈pre,p.1≠D)→(∀ p∈post,p.1≠D)→Upd D o o' (pre++(D,o)::post) (pre++(D,o')::post)
 | [],_,_,h=>.head h
 | q::pre,_,h,h'=>.tail (h q (.head _)) (Vd (fun p hp=>h p (.tail _ hp)) h')
theorem All2.snoc_inv{α β:Type}{P:α→β→Prop}:∀ {l:List α} {r:List β} {b:β},All2 P l (r++[b])→∃ l0 a,l=l0++[a]∧All2 P l0 r∧P a b:=by
 intro l r
 induction r generalizing l with
 | nil =>
  intro b h
  cases h with
  | cons h t=>cases t;exact⟨[],_,rfl,.nil,h⟩
 | cons c r ih =>
  intro b h
  cases h with
  | cons h t =>
   obtain⟨l0,a,e,h0,ha⟩:=ih t;exact⟨_::l0,a,congrArg _ e,.cons h h0,ha⟩
theorem Ih:∀ (cs:List Told) (l:List (List Told)) (n:Nat),l.length≤n→(∀ lev∈l,lev.length≤n)→1≤n→(cs.foldl Ak l).length≤n+cs.length∧∀ lev∈cs.foldl Ak l,lev.length≤n+cs.length
 | [],l,n,h1,h2,_=>⟨h1,h2⟩
 | c::cs,l,n,h1,h2,h3=>by
  have:(Ak l c).length≤n+1∧∀ lev∈Ak l c,lev.length≤n+1:=by
   cases c with
   | start tag attrs =>
    refine⟨by simp [Ak];exact h1,fun lev hl=>?_⟩
    rcases List.mem_append.mp hl with z | z
    ·exact Nat.le_succ_of_le (h2 lev z)
    ·rw [List.mem_singleton.mp z];simp
   | stop tag=>exact⟨by simp [Ak];exact(Nl fun hn1=>fk [_,_] (.e V0 V1 (.e (.a (.a (.s V1) K1) K1) V0 K0)) rfl h1 hn1),fun lev hl=>Nat.le_succ_of_le (h2 lev (List.dropLast_subset _ hl))⟩
   | sns p u =>
    refine⟨by simp [Ak,Bx];exact(Nl fun hn1=>fk [_,_] (.e V0 V1 (.e (.a (.s V1) K1) V0 K0)) rfl h1 hn1),fun lev hl=>?_⟩
    rcases List.mem_append.mp hl with z | z
    ·exact Nat.le_succ_of_le (h2 lev (List.dropLast_subset _ z))
    ·rw [List.mem_singleton.mp z,List.length_append]
     rcases List.eq_nil_or_concat l with rfl | ⟨l0,x,rfl⟩
     ·simp
     ·have:=h2 x (by simp)
      simp [List.getLastD_eq_getLast?];exact this
   | data x=>exact⟨Nat.le_succ_of_le h1,fun lev hl=>Nat.le_succ_of_le (h2 lev hl)⟩
   | comment x=>exact⟨Nat.le_succ_of_le h1,fun lev hl=>Nat.le_succ_of_le (h2 lev hl)⟩
   | pi x=>exact⟨Nat.le_succ_of_le h1,fun lev hl=>Nat.le_succ_of_le (h2 lev hl)⟩
  have r:=Ih cs (Ak l c) (n+1) this.1 this.2 (by exact(Nl fun hn1=>fk [_] (.e (.a (.s V0) K1) K1 K0) rfl hn1))
  simp only [List.foldl_cons,List.length_cons]
  exact⟨by exact(Nl fun hn1=>fk [_,_,_] (.e V0 (.a (.s V1) V2) (.e (.a (.a V1 (.s V2)) K1) V0 K0)) rfl r.1 hn1),fun lev hl=>by have:=r.2 lev hl;exact(Nl fun hn1=>fk [_,_,_] (.e V0 (.a (.s V1) V2) (.e (.a (.a V1 (.s V2)) K1) V0 K0)) rfl this hn1)⟩
theorem Pf(cs:List Told):(Af cs).length≤1+cs.length:=(Ih cs [[]] 1 (by simp) (by simp) (by simp)).1
theorem Wl(cs:List Told)(lev:List Told)(h:lev∈Af cs):lev.length≤1+cs.length:=(Ih cs [[]] 1 (by simp) (by simp) (by simp)).2 lev h
section
variable{P:Value→Told→Prop}{g h':Heap}{L I:Addr}{oI:Obj}{cs cs1 cs2:List Told}{ca lv:Addr}{c:Told}{os:OsState}{m:Str→Option Value}{news:List (Addr × Obj)}{rem:List Value}{os9:OsState}{gs9:_}
theorem Du(lvs:List LV)(n:Nat)(u:Option Value)(F:Fr g L h' m)(N:News g L h' news)(hm:m=Fk ca lv u)
  (e:cs=cs1++c::cs2) (hr:All2 P rem cs2) (hl:All2 (fun(l:LV) lev=>All2 P l.2.1 lev) lvs (Ak (Af cs1) c)) (nd:(lvs.map (·.1)).Nodup) (no:∀ l∈lvs,l.1≠lv)
  (sub:∀ q∈(I,oI)::(lv,listOf (lvs.map fun l=>.ref l.1).toArray n)::Ef lvs,q∈news) (n1:lv≠I) (n2:∀ l∈lvs,l.1≠I) (o1:os9=os) (b1:AllBare gs9) :
  ∃ m'' own',StandJ P cs ca lv rem m'' own'∧Fr g L h' m''∧News g L h' ((I,oI)::own')∧(∀ p∈own',p.1≠I)∧os9=os∧AllBare gs9:=by
 refine⟨m,(lv,listOf (lvs.map fun l=>.ref l.1).toArray n)::Ef lvs,⟨cs1++[c],cs2,lvs,n,u,by rw [e];simp,hr,hm,?_,nd,no,rfl⟩,F,News.sub N sub,?_,o1,b1⟩
 ·rw [Bc];exact hl
 ·intro p hp
  rcases List.mem_cons.mp hp with rfl | hp
  ·exact n1
  ·obtain⟨l,hl',rfl⟩:=List.mem_map.mp hp
   exact n2 l hl'
end
end
section
open PyProof.Rows.LCg
theorem All2.flat{α β γ:Type}{P:α→β→Prop}{f:γ→List α}:∀ {lvs:List γ} {levs:List (List β)},All2 (fun l lev=>All2 P (f l) lev) lvs levs→All2 P (lvs.flatMap f) levs.flatten:=by
 intro lvs levs h
 induction h with
 | nil=>exact .nil
 | cons h t ih =>
  rw [List.flatMap_cons,List.flatten_cons];exact h.append ih
theorem Vp{α:Type}(l:List (List α)):l.dropLast.flatten.length≤l.flatten.length:=by
 rcases List.eq_nil_or_concat l with rfl | ⟨l0,x,rfl⟩
 ·simp
 ·simp
theorem Gd:∀ (cs:List Told) (l:List (List Told)),(cs.foldl Ak l).flatten.length≤l.flatten.length+cs.length
 | [],l=>Nat.le_refl _
 | c::cs,l=>by
  have h1:(Ak l c).flatten.length≤l.flatten.length+1:=by
   cases c with
   | start tag attrs=>simp [Ak]
   | stop tag=>exact Nat.le_succ_of_le (Vp l)
   | sns p u =>
    rcases List.eq_nil_or_concat l with rfl | ⟨l0,x,rfl⟩
    ·simp [Ak,Bx]
    ·rw [List.concat_eq_append];simp only [Ak];rw [Be];simp;exact(Nl fun hn1=>fk [_,_] (.e (.a (.a (.a V0 V1) K1) K1) (.a V0 (.s V1)) K0) rfl hn1)
   | data x=>exact Nat.le_succ _
   | comment x=>exact Nat.le_succ _
   | pi x=>exact Nat.le_succ _
  have:=Gd cs (Ak l c)
  simp only [List.foldl_cons,List.length_cons];exact(Nl fun hn1=>fk [_,_,_,_] (.e V0 (.s V1) (.e V2 (.a V0 V3) (.e (.a (.a V1 (.s V3)) K1) V2 K0))) rfl h1 this hn1)
section
variable{prog:Program}{w:World}{A:Around}{E:Value→Shared→Prop}{s:Shared}{h₀:Heap}{L:Addr}{m:Str→Option Value}{env:Env}{os:OsState}
theorem Ob{elt target iter ifs g0 rest scope pos it acc}{env:Env}{R:Result→Shared→Prop}
  (h0:codeAny (model prog w) A (.compLoop (.ListComp elt (g0::⟨target,iter,ifs,0⟩::rest) scope pos) 1 it acc env) R s)
  (h:wpAny (model prog w) A (pyIter it) (fun it' s'=>codeAny (model prog w) A (.compLoop (.ListComp elt (g0::⟨target,iter,ifs,0⟩::rest) scope pos) 1 it' acc env) R s') (notedBy (model prog w) A env fun x s'=>R (.error x) s') s) :
  codeAny (model prog w) A (.compStart (.ListComp elt (g0::⟨target,iter,ifs,0⟩::rest) scope pos) 1 it acc env) R s:=by
 refine codeAny_of_tree ?_
 show wpAny _ _ ((compStart (.ListComp elt (g0::⟨target,iter,ifs,0⟩::rest) scope pos) 1 it acc env).onRaise (fun x=>do noteFrame x env;standAt theWindowsPlace)) _ _ s
 refine wpAny_notedAt ?_;unfold compStart
 show wpAny _ _ (ask >>= _) _ _ s
 refine Wb (wpAny_askSetting (wpAny_ite ?_))
 split
 ·first
   | exact Wb (Wp (Wp (And.intro rfl h0)))
   | exact Wp (And.intro rfl h0)
 ·exact Wb (wpAny_rule (Wb (wpAny_standAt (Wb (wpAny_mono h (fun it' s' h'=>Wp (And.intro rfl h')) fun _ _ x=>x)))))
noncomputable def Gl(w:World)(A:Around)(s:Shared)(prog:Program)(E:Value→Shared→Prop)(h₀:Heap)(L:Addr)(m:Str→Option Value)(env:Env)(os:OsState)(iter:PySem.Expr)(x1 x2:Str)(pa pb pc pd:Pos)(scope:Scope)(cl:List (Str × Addr))(pos:Pos)(Q:Value→Shared→Prop):Prop :=
 ∀ (hclos:closureFor scope env=pure cl) (hcell:∀ y∈scope.names,y.2≠.cell) (hkind:scope.kind=.function) (hnames:∀ y∈scope.names,y.2=.local→scope.names.lookup y.1=some .local) (hx1:scope.names.lookup x1=some .local) (hx2:scope.names.lookup x2=some .local) (hd1:(x1 == ("__debug__":Str))=false) (hd2:(x2 == ("__debug__":Str))=false) (h:wpAny (model prog w) A (eval iter env) (fun xv s₁=>∃ (lv:Addr) (lvs:List (Addr × Array Value)) (news:List (Addr × Obj)),xv=.ref lv∧A.handled=none∧Fr h₀ L s₁.heap m∧News h₀ L s₁.heap news∧s₁.os=os∧AllBare s₁.gens∧SrcAt h₀ lv (lvs.map fun l=>.ref l.1).toArray news∧(∀ l∈lvs,SrcAt h₀ l.1 l.2 news)∧lvs.length≤1000∧(lvs.flatMap fun l=>l.2.toList).length≤1000 ∧
   ∀ D s',Fr h₀ L s'.heap m→News h₀ L s'.heap ((D,lst (lvs.flatMap fun l=>l.2.toList))::news)→s'.os=os→AllBare s'.gens→Q (.ref D) s') E s) (hs:∀ x,foldedSetIterable iter env x=pure x),wpAny (model prog w) A (eval (.ListComp (.Name x2 pa) [⟨.Name x1 pb,iter,[],0⟩,⟨.Name x2 pc,.Name x1 pd,[],0⟩] scope pos) env) Q E s
theorem Js:∀ a b c d e f g h i j k l m n o p q r s t u,Gl a b c d e f g h i j k l m n o p q r s t u:=by
 refine Ab (Ao neW)<|Ab neI<|Et neI<|let_mvar% ?n:=(fun w A s prog E h₀ L m env os iter x1 x2 pa pb pc pd scope cl pos Q=>?_:∀ a b c d e f g h i j k l m n o p q r s t u,Gl a b c d e f g h i j k l m n o p q r s t u);?n _ _ _ _ _ _ _ _ _ _ _ _ _ _ _ _ _ _ _ _ _
 intro hclos hcell hkind hnames hx1 hx2 hd1 hd2 h hs;rw [eval_ListComp]
 refine wpAny_comprehension_free (use:=none) rfl hs hclos hkind hnames (wpAny_mono h (fun xv s₁ h₁=>?_) fun _ _ e=>e)
 obtain⟨lv,lvs,news,rfl,hh,F,N,ho,hb,S,Sl,hz1,hz2,k⟩:=h₁
 refine Qy (o0:=lst []) (target:=.Name x1 pb) (ipos:=iter.pos) (os:=os) (tail:=fun I D C=>eval (.Name x1 pd) (compEnvC scope cl C env) >>= fun x=>standAt pd >>= fun _=>foldedSetIterable (.Name x1 pd) (compEnvC scope cl C env) x >>= fun x=>holding [x] (pyIter x) >>= fun it=>runOwn (.compStart (.ListComp (.Name x2 pa) [⟨.Name x1 pb,iter,[],0⟩,⟨.Name x2 pc,.Name x1 pd,[],0⟩] scope pos) 1 it (.ref D) (compEnvC scope cl C env)) (compEnvC scope cl C env) >>= fun _=>again (.compLoop (.ListComp (.Name x2 pa) [⟨.Name x1 pb,iter,[],0⟩,⟨.Name x2 pc,.Name x1 pd,[],0⟩] scope pos) 0 (.ref I) (.ref D) (compEnvC scope cl C env)))
  (fun D rem own=>∃ l1 l2,lvs=l1++l2∧rem=l2.map (fun l=>.ref l.1)∧own=(D,lst (l1.flatMap fun l=>l.2.toList))::news∧(∀ p∈news,p.1≠D)) (fun own v m₂=>m₂ x1=some v)
  (fun s Q h=>wpAny_newList h) rfl (fun I D C R s h1 h2=>codeAny_compStart_list h1 h2) (fun _ _ _=>rfl) (fun _ _ _ _ _ _ z=>z) (fun _ _ _=>rfl) ?_ ?_ hcell hkind hh F N ho hb S ?_ ?_ ?_ ?_ ?_
 ·intro I i v s1 Q E' _ _ hq
  exact Wp hq
 ·rintro s1 v rem own D C mC Q E' _ hk hown hns h
  exact wpAny_assign_Name (wpAny_storeName_local (lookup_relabel_local hx1) hns (fun h₃ hn₃ hs₃=>h h₃ _ _ hn₃ (by simp) hs₃.extBut) (by simp [compEnvC,relabel,hkind]))
 ·rw [sizeLine_eq];simp only [List.size_toArray,List.length_map];exact(Nl fun hn1=>fk [_] (.e V0 (.k 1000) (.e (.s (.k 16777216)) V0 K0)) rfl hz1 hn1)
 ·intro D hD
  exact⟨[],lvs,rfl,rfl,rfl,fun p hp=>Nat.ne_of_lt (hD p hp)⟩
 ·rintro D rem own ⟨l1,l2,_,_,rfl,_⟩
  rcases S with z | ⟨o,hm,r⟩
  ·exact .inl z
  ·exact .inr ⟨o,.tail _ hm,r⟩
 ·rintro s1 D v rem own I oI C oC m₂ E' ⟨l1,l2,e1,e2,rfl,offD⟩ hC hB F1 N1 off hIC ho1 hb1
  obtain⟨l,l2,rfl⟩:∃ l l2',l2=l::l2':=by
   cases l2 with
   | nil=>exact absurd e2 (by simp)
   | cons l l2=>exact⟨l,l2,rfl⟩
  rw [List.map_cons] at e2
  injection e2 with e2 e3
  subst e2 e3;have hoD:=off (D,_) (.head _)
  refine Wb (LCgL.ld_own (v:=.ref l.1) N1 (.tail _ (.head _)) hC hB ?_ (by simp [compEnvC,relabel,hkind]) (lookup_relabel_local hx1) hd1)
  refine Wb (wpAny_standAt ?_);refine Wb (Wp ?_)
  refine Wb (wpAny_holding (wpAny_mono (Tp (e:=.ListComp (.Name x2 pa) [⟨.Name x1 pb,iter,[],0⟩,⟨.Name x2 pc,.Name x1 pd,[],0⟩] scope pos) (env:=env) (scope:=scope) (cl:=cl) (C:=C) (D:=D) (os:=os) (x:=x2) (px:=pc) (pe:=pa) (ipos:=pd) (its:=l.2) (own:=news) (R:=fun r s'=>match r with | .ok f=>wpAny (model prog w) A (again (.compLoop (.ListComp (.Name x2 pa) [⟨.Name x1 pb,iter,[],0⟩,⟨.Name x2 pc,.Name x1 pd,[],0⟩] scope pos) 0 (.ref I) (.ref D) (compEnvC scope cl C env))) _ _ s' | .error e=>cameBackBy (model prog w) A (compEnvC scope cl C env) _ e s')
   (fun I' R s h1 h2=>Ob h1 h2) (fun _=>rfl) (fun _ _ _ _ z=>z) (fun _=>rfl) hkind hx2 hd2 hh F1 N1 hC (Off3.of fun p hp=>⟨(off p (.tail _ hp)).1,(off p (.tail _ hp)).2,offD p hp⟩) ⟨hIC,Ne.symm hoD.1,Ne.symm hoD.2⟩ ho1 hb1 (Sl l (by rw [e1];simp)) ?_ ?_) (fun it s₂ h₂=>Wb (wpAny_runOwn h₂)) fun _ _ z=>z))
  ·rw [e1] at hz2
   simp only [List.flatMap_append,List.flatMap_cons,List.length_append,Array.length_toList] at hz2
   exact(Nl fun hn1=>fk [_,_,_] (.e (.a V0 (.a V1 V2)) (.k 1000) (.e (.s (.k 1000)) (.a V0 V1) K0)) rfl hz2 hn1)
  ·intro s2 oC' m₂' hC' F2 N2 o2 b2
   refine Wp ⟨rfl,_,oC',m₂',hC',⟨l1++[l],l2,by rw [e1];simp,rfl,rfl,offD⟩,F2,?_,?_,o2,b2⟩
   ·simpa using N2
   ·intro p hp
    rcases List.mem_cons.mp hp with rfl | hp
    ·exact hoD
    ·exact off p (.tail _ hp)
 ·rintro s1 D C own mC ⟨l1,l2,e1,e2,rfl,offD⟩ F1 N1 hns hC0 hCL hoC ho1 hb1
  have:l2=[]:=List.map_eq_nil_iff.mp e2.symm;subst this;rw [List.append_nil] at e1;subst e1
  refine⟨mC,hns,fun h'' hs''=>k D _ (F1.change hs'' hCL hC0) (fun p hp=>⟨hs''.extBut _ _ (hoC p hp) (N1 p hp).1,(N1 p hp).2⟩) ho1 hb1⟩
theorem Pp{iter:PySem.Expr}{x1 x2:Str}{pa pb pc pd:Pos}{scope:Scope}{cl:List (Str × Addr)}{pos:Pos}{Q:Value→Shared→Prop}
  (hclos:closureFor scope env=pure cl) (hcell:∀ y∈scope.names,y.2≠.cell) (hkind:scope.kind=.function)
  (hnames:∀ y∈scope.names,y.2=.local→scope.names.lookup y.1=some .local) (hx1:scope.names.lookup x1=some .local) (hx2:scope.names.lookup x2=some .local) (hd1:(x1 == ("__debug__":Str))=false) (hd2:(x2 == ("__debug__":Str))=false)
  (h:wpAny (model prog w) A (eval iter env) (fun xv s₁=>∃ (lv:Addr) (lvs:List (Addr × Array Value)) (news:List (Addr × Obj)),xv=.ref lv∧A.handled=none∧Fr h₀ L s₁.heap m∧News h₀ L s₁.heap news∧s₁.os=os∧AllBare s₁.gens∧SrcAt h₀ lv (lvs.map fun l=>.ref l.1).toArray news∧(∀ l∈lvs,SrcAt h₀ l.1 l.2 news)∧lvs.length≤1000∧(lvs.flatMap fun l=>l.2.toList).length≤1000 ∧
   ∀ D s',Fr h₀ L s'.heap m→News h₀ L s'.heap ((D,lst (lvs.flatMap fun l=>l.2.toList))::news)→s'.os=os→AllBare s'.gens→Q (.ref D) s') E s)
  (hs:∀ x,foldedSetIterable iter env x=pure x:=by intro _;rfl) :
  wpAny (model prog w) A (eval (.ListComp (.Name x2 pa) [⟨.Name x1 pb,iter,[],0⟩,⟨.Name x2 pc,.Name x1 pd,[],0⟩] scope pos) env) Q E s:=Js w A s prog E h₀ L m env os iter x1 x2 pa pb pc pd scope cl pos Q hclos hcell hkind hnames hx1 hx2 hd1 hd2 h hs
end
end
theorem rs16:True∧True:=by
 (try walk1);(try w_top off)
 all_goals (first | trivial | exact ⟨trivial,trivial⟩)
section

open PyProof.Rows.LCg
theorem Inner.pos:∀ (n:Nat) (cs:List Told),cs.length=n→Inner cs→1≤(Af cs).length
 | 0,cs,hn,_=>by rw [List.length_eq_zero_iff.mp hn];decide
 | n+1,cs,hn,h=>by
  obtain⟨cs0,c,rfl⟩:=Bz (l:=cs) (by exact(Nl fun hn1=>fk [_,_] (.e (.s V0) V1 (.e (.s V1) K1 K0)) rfl (Es hn) hn1))
  have h0:=Inner.pos n cs0 (by simpa using hn) h.take
  rw [Bc]
  cases c with
  | start tag attrs=>simp [Ak]
  | stop tag =>
   have:=h cs0 tag [] rfl
   simp only [Ak,List.length_dropLast];exact(Nl fun hn1=>fk [_,_] (.e (.k 3) V0 (.e (.s V1) K1 (.e V0 (.s V1) K0))) rfl this hn1 Ln.sba)
  | sns p u=>simp only [Ak];rw [Fh _ (List.length_pos_iff.mp h0)];exact h0
  | data x=>exact h0
  | comment x=>exact h0
  | pi x=>exact h0
theorem StandJ.out{P:Value→Told→Prop}{cs:List Told}{ca lv:Addr}{rem:List Value}{m:Str→Option Value}{own:List (Addr × Obj)}{G:Prop}(h:StandJ P cs ca lv rem m own)
  (k:∀ (cs1 cs2:List Told) (lvs:List LV) (n:Nat) (u:Option Value),cs=cs1++cs2→All2 P rem cs2→m=Fk ca lv u→All2 (fun(l:LV) lev=>All2 P l.2.1 lev) lvs (Af cs1)→(lvs.map (·.1)).Nodup→(∀ l∈lvs,l.1≠lv)→own=(lv,listOf (lvs.map fun l=>.ref l.1).toArray n)::Ef lvs→G):G :=
 h.casesOn fun cs1 cs2 lvs n u h0 h1 h2 h3 h4 h5 h6=>k cs1 cs2 lvs n u h0 h1 h2 h3 h4 h5 h6
theorem Wv{c:Told}{G:Prop}(h1:∀ tag attrs,c=.start tag attrs→G)(h2:∀ d,c=.stop d→G)(h3:∀ p u,c=.sns p u→G)(h4:∀ d,c=.data d→G)(h5:∀ d,c=.comment d→G)(h6:∀ d,c=.pi d→G):G:=by
 cases c with
 | start a b=>exact h1 a b rfl
 | stop a=>exact h2 a rfl
 | sns a b=>exact h3 a b rfl
 | data a=>exact h4 a rfl
 | comment a=>exact h5 a rfl
 | pi a=>exact h6 a rfl
theorem Dg{α β:Type}{P:α→β→Prop}{a:α}{l:List α}{r:List β}{G:Prop}(h:All2 P (a::l) r)(k:∀ b r',P a b→All2 P l r'→r=b::r'→G):G:=by
 cases h with
 | cons x y=>exact k _ _ x y rfl
theorem ne9'{d a:Addr}{o:Obj}{news:List (Addr × Obj)}(l:∀ p∈news,p.1<d)(h:(a,o)∈news):a≠d:=Nat.ne_of_lt (l _ h)
noncomputable def Jo(w:World)(A:Around)(s:Shared)(g:Heap)(os:OsState)(p:Program)(zw:List Str)(zr:ExcName→Option Value)(mg mb:Str→Option Value)(R:Result→Shared→Prop)(ca:Addr)(vs:List Value)(cs:List Told)(P:Value→Told→Prop):Prop :=
 ∀ (X:(hd11.heap_39 w.params).In g) (T:Top p zw zr mg mb g) (H:Ok g os [] s) (hh:A.handled=none) (zq:A.depth<800) (hu:A.units<7000) (hs:g.IsList ca vs.toArray) (hP:∀ v c,P v c→TA w g v c) (hv:All2 P vs cs) (hin:Inner cs) (hcl:cs.length≤100) (hN:∀ (r:Addr) (vs':List Value) (n:Nat) (s':Shared),All2 P vs' (Af cs).flatten→Ok g os [(r,listOf vs'.toArray n)] s'→R (.ok (.ret (.ref r))) s'),codeAny (model rw_dn0283_11.row.prog w) A (.call (.ref 185) ⟨[.ref ca],[]⟩) R s
theorem Uk:∀ {w A s g os p zw zr mg mb R ca vs cs P},Jo w A s g os p zw zr mg mb R ca vs cs P:=by
 refine @(Ab (Ao neW)<|@(Eu neI<|let_mvar% ?n:=(fun w A s g os p zw zr mg mb R ca vs cs P=>?_:∀ a b c d e f g h i j k l m n o,Jo a b c d e f g h i j k l m n o);?n _ _ _ _ _ _ _ _ _ _ _ _ _ _ _))
 intro X T H hh zq hu hs hP hv hin hcl hN;revert X
 k_fill
 intro X
 refine' Cq (fun y=>List.lookup y [("calls",.ref ca)]) H X T ?k6 ?k7 (Nat.lt_trans zq (by decide)) ?k9 ?kB ?km ?kl ?_ ?c1 ?c2 ?c3 ?c4
 (case k6=>k_is)
 (case k7=>k_is)
 (case k9=>exact BindsTo.of_eq rfl)
 (case kB=>exact locs rfl)
 (case km=>exact rfl)
 (case kl=>exact Nat.succ_pos _)
 (case c1=>exact rfl)
 (case c2=>exact rfl)
 (case c3=>exact rfl)
 (case c4=>decide)
 k_whole;with_reducible refine let_mvar% ?zq1:=(fun L' h1 k0=>?_:Fa3 _);Am neI (Bu:Tie _ (type_of% ?zq1)) (?zq1 _ _ _);intro hk0 F1 N1 l1;(try k_lt l1);(try dsimp only)
 refine Bw ?_;walk_at "eps2";rename_i Q9 E9;intro hq9 he9
 repeat' ((fail_if_success (with_reducible show wpAny _ _ (exec (Stmt.For _ _ _ _ _) _) _ _ _));walk_at "go")
 rename_i l0 _ _ lv _ hlv _ F9 N9;rw [Sy] at F9
 refine For_ (fun _=>rfl) ?_
 repeat' ((fail_if_success (with_reducible show wpAny _ _ (pyIter _) _ _ _));walk_at "go")
 refine Gq (its:=vs.toArray) (ax:=ca) (os:=os) (L:=L') (h₀:=g) (fun rem m own=>StandJ P cs ca lv rem m own) (fun own v m m'=>m'=fun y=>if y=Str.ofString "call" then some v else m y) ?hh ?hsrc ?hown ?hasg ?step ?done ?hJ (m:=Fk ca lv none) (own:=[(lv,listOf #[Value.ref l0] 0),(l0,listOf #[] 0)]) F9 N9 ?os ?br
 case hh=>exact hh
 case os=>exact H.os
 case br=>exact H.bare
 case hJ=>exact⟨[],cs,[(l0,[],0)],0,none,rfl,hv,rfl,.cons .nil .nil,by simp,by intro l hl;rw [List.mem_singleton.mp hl];exact Nat.ne_of_lt hlv,rfl⟩
 case hsrc =>
  intro rem m own _;exact .inl hs
 case hown =>
  intro I i v s1 Q E' _ _ hq;exact Wp hq
 case hasg =>
  intro s1 v rem m own news Q E' _ _ F1 N1 hq
  exact PyProof.Rows.assign_Name (storeX_L F1 N1 (fun h2 F2 N2=>hq h2 _ _ F2 N2 rfl) rfl rfl)
 case done =>
  with_reducible refine let_mvar% ?zq3:=(fun s1 m own=>?_:Fa3 _);Am Cb (Bu:Tie _ (type_of% ?zq3)) (?zq3 _ _ _);intro hJ9 F1 N1 o1 b1;revert F1 N1;refine hJ9.out ?_;with_reducible refine let_mvar% ?zq4:=(fun cs1 cs2 lvs n u=>?_:Fa5 _);Ee neI (Lm:Tie _ (type_of% ?zq4)) (?zq4 _ _ _ _ _);rintro e hr rfl hl nd no rfl F1 N1
  cases hr
  rw [List.append_nil] at e;subst e;have hll:=hl.length;have hst1:=Pf cs
  have hfl:=hl.flat (f:=fun l:LV=>l.2.1)
  have hfn:=hfl.length
  have hsf:(Af cs).flatten.length≤100:=Nat.le_trans (Gd cs [[]]) (by simpa using hcl)
  dsimp only
  repeat' ((fail_if_success (with_reducible show wpAny _ _ (eval (Expr.ListComp _ _ _ _) _) _ _ _));walk_at "go")
  refine Pp (h₀:=g) (L:=L') (m:=Fk ca lv u) (cl:=[]) (os:=os) rfl (by decide) rfl (by decide) rfl rfl (by decide) (by decide) ?_
  repeat' (walk_at "go")
  (rename Fr ..=>F9);(rename News ..=>N9)
  have ee:(lvs.map (fun l:LV=>(l.1,l.2.1.toArray))).flatMap (fun l=>l.2.toList)=lvs.flatMap fun l=>l.2.1:=by simp [List.flatMap_map]
  refine⟨lv,lvs.map (fun l=>(l.1,l.2.1.toArray)),_,rfl,hh,F9,N9,o1,b1,.inr ⟨_,.head _,rfl,_,by rw [List.map_map];rfl⟩,?sl,?z1,?z2,fun D s' F' N' o' b'=>?kk⟩
  case sl =>
   intro l hl';obtain⟨l',hl2,rfl⟩:=List.mem_map.mp hl';exact .inr ⟨_,.tail _ (List.mem_map.mpr ⟨l',hl2,rfl⟩),rfl,_,rfl⟩
  case z1=>simp only [List.length_map];exact(Nl fun hn1=>fk [_,_,_] (.e V0 (.k 100) (.e V1 V2 (.e V2 (.a K1 V0) (.e (.s (.k 1000)) V1 K0)))) rfl hcl (El hll) hst1 hn1)
  case z2=>rw [ee];exact(Nl fun hn1=>fk [_,_] (.e V0 V1 (.e V1 (.k 100) (.e (.s (.k 1000)) V0 K0))) rfl (El hfn) hsf hn1)
  case kk =>
   rw [ee] at N';refine hq9 _ _ ?_
   exact leaveM_ F' (News.sub N' fun p hp=>by rw [List.mem_singleton.mp hp];exact .head _) o' b' fun H'=>hN D _ _ _ hfl H'
 case step =>
  with_reducible refine let_mvar% ?zq5:=(fun s1 v rem m m' own I oI=>?_:Fa8 _);Fs Cb (Qn:Tie _ (type_of% ?zq5)) (?zq5 _ _ _ _ _ _ _ _);intro hJ9 hB9 F1 N1 nI o1 b1
  refine Bw ?_;walk_at "eps2";rename_i Q8 E8;intro hq8 he8;subst hB9
  revert N1 nI F1;refine hJ9.out ?_;with_reducible refine let_mvar% ?zq7:=(fun cs1 cs2 lvs n u=>?_:Fa5 _);Ee neI (Lm:Tie _ (type_of% ?zq7)) (?zq7 _ _ _ _ _);rintro e hr rfl hl nd no rfl N1 nI F1
  refine Dg hr ?_;clear hr;with_reducible refine let_mvar% ?zq8:=(fun c cs3=>?_:Fa2 _);Al ⟨(Told.data Str.empty,[])⟩ (Bn:Tie _ (type_of% ?zq8)) (?zq8 _ _);rintro hc hr rfl
  have hyA:=hP _ _ hc;revert hyA;refine exi ?_;walk_at "eps";rename_i a;rintro⟨rfl,hT⟩;rw [Sz] at F1;have hi1:Inner cs1:=Inner.take (d:=c::cs3) (e ▸ hin);have hpos:=Inner.pos _ cs1 rfl hi1;have hll:=hl.length
  have hlen1:cs1.length≤100:=by rw [e] at hcl;simp at hcl;exact(Nl fun hn1=>fk [_,_] (.e (.a V0 (.s V1)) (.k 100) (.e (.s (.k 100)) V0 K0)) rfl hcl hn1)
  have hst1:=Pf cs1;have nI0:lv≠I:=nI (lv,_) (.head _)
  have nlv:∀ p∈Ef lvs,p.1≠lv:=fun p hp=>by
   obtain⟨l,hl',rfl⟩:=List.mem_map.mp hp;exact no l hl'
  have nIl0:∀ l∈lvs,l.1≠I:=fun l hl'=>nI (l.1,listOf l.2.1.toArray l.2.2) (.tail _ (List.mem_map.mpr ⟨l,hl',rfl⟩))
  have hszL:(lvs.map fun l=>Value.ref l.1).toArray.size≤sizeLine:=by rw [sizeLine_eq];simp only [List.size_toArray,List.length_map];exact(Nl fun hn1=>fk [_,_,_] (.e V0 V1 (.e V2 (.k 100) (.e V1 (.a K1 V2) (.e (.s (.k 16777216)) V0 K0)))) rfl (El hll) hlen1 hst1 hn1)
  refine Wv (c:=c) ?start ?stop ?sns ?data ?comment ?pi
  case start =>
   walk_at "eps2";rename_i tag attrs;rintro rfl
   revert hT;refine exi5 ?_;with_reducible refine let_mvar% ?zq16:=(fun t tt at_ na la=>?_:Fa5 _);Ee neI (Lm:Tie _ (type_of% ?zq16)) (?zq16 _ _ _ _ _);rintro⟨hT,_⟩
   ·repeat' (first
     | ((with_reducible show (if decide _=true then _ else _));first | refine ite_pos (by decide) ?_ | refine ite_neg (by decide) ?_)
     | ((with_reducible show wpAny _ _ (subscriptTail _ _ (.ref a) (.int 0 _)) _ _ _);refine Df (v:=.int 0 t) (vs:=[_,_]) (by obtain⟨o,z1,z2⟩:=hT;exact⟨o,(Fr.keep (by k_asm)) _ _ z1,z2⟩) ?_;(try dsimp only))
     | ((with_reducible show wpAny _ _ (callWith _ (.builtin _) [_] _ _) _ _ _);refine callWith_method1 ?_;(try dsimp only))
     | ((with_reducible show wpAny _ _ (newList _) _ _ _);(rename Fr ..=>F9);(rename News ..=>N9);refine newList_K F9 N9 ?_ (by rw [sizeLine_eq];exact Nat.le_of_ble_eq_true rfl);clear F9 N9;walk_at "eps2";rename_i l9 h9;intro F9 N9 lt9;(try dsimp only))
     | ((with_reducible show wpAny _ _ (call (.builtin "list.append") [.ref lv,_]) _ _ _);(rename Fr ..=>F9);(rename News ..=>N9);refine append_K F9 N9 (Upd.tail (ne9' lt9 (by k_mem)).symm (Upd.tail nI0.symm (Upd.head nlv))) ?_ hszL;clear F9 N9;walk_at "eps";rename_i h9;intro F9 N9;(try dsimp only))
     | ((try ((with_reducible show wpAny _ _ (execs _ _) _ _ _);(conv=>(arg 6;dsimp only))));(fail_if_success (with_reducible show wpAny _ _ (subscriptTail _ _ _ _) _ _ _));walk_at "go"))
    (rename Fr ..=>F9);(rename News ..=>N9)
    (try dsimp only)
    have ep:(lvs.map fun l=>Value.ref l.1).toArray.push (.ref l9)=((lvs++[(l9,[Value.ref a],0)]).map fun l:LV=>Value.ref l.1).toArray:=by simp
    rw [ep] at N9;refine hq8 _ _ ?_;refine Du (lvs++[(l9,[.ref a],0)]) (n+1) (some (.ref a)) F9 N9 rfl e hr (hl.snoc (.cons hc .nil)) ?nd1 ?no1 ?sub1 nI0 ?n21 o1 b1
    case nd1 =>
     rw [List.map_append]
     refine List.nodup_append.mpr ⟨nd,by simp,?_⟩
     intro x hx y hy
     simp only [List.map_cons,List.map_nil,List.mem_singleton] at hy
     subst hy;obtain⟨l,hl',rfl⟩:=List.mem_map.mp hx;exact Nat.ne_of_lt (lt9 (l.1,listOf l.2.1.toArray l.2.2) (.tail _ (.tail _ (List.mem_map.mpr ⟨l,hl',rfl⟩))))
    case no1 =>
     intro l hl'
     rcases List.mem_append.mp hl' with z | z
     ·exact no l z
     ·rw [List.mem_singleton.mp z];exact(ne9' lt9 (by k_mem)).symm
    case sub1 =>
     simp only [Ef,List.map_append,List.map_cons,List.map_nil,List.append_assoc,List.cons_append,List.nil_append]
     walk_at "l_sub"
    case n21 =>
     intro l hl'
     rcases List.mem_append.mp hl' with z | z
     ·exact nIl0 l z
     ·rw [List.mem_singleton.mp z];exact(ne9' lt9 (by k_mem)).symm
  case stop =>
   walk_at "eps";rename_i tag;rintro rfl
   revert hT;refine Fw ?_;walk_at "eps2";rename_i t tt;intro hT
   have hyl:=Bz (l:=lvs) (by exact(Nl fun hn1=>fk [_,_] (.e K1 V0 (.e V0 V1 (.e (.s V1) K1 K0))) rfl hpos (Es hll) hn1))
   revert hyl;refine Fw ?_;walk_at "eps2";rename_i lv0 l;rintro rfl;rw [List.map_append,List.map_cons,List.map_nil] at N1
   have hszP:(lv0.map fun l:LV=>Value.ref l.1).length+1≤sizeLine:=by rw [sizeLine_eq];simp only [List.length_map,List.length_append,List.length_cons,List.length_nil] at hll ⊢;exact(Nl fun hn1=>fk [_,_,_] (.e V0 (.k 100) (.e V1 (.a K1 V0) (.e (.a V2 (.s K0)) V1 (.e (.s (.k 16777216)) (.s V2) K0)))) rfl hlen1 hst1 (El hll) hn1)
   ·repeat' (first
     | ((with_reducible show (if decide _=true then _ else _));first | refine ite_pos (by decide) ?_ | refine ite_neg (by decide) ?_)
     | ((with_reducible show wpAny _ _ (subscriptTail _ _ (.ref a) (.int 0 _)) _ _ _);refine Df (v:=.int 1 t) (vs:=[_,_]) (by obtain⟨o,z1,z2⟩:=hT;exact⟨o,(Fr.keep (by k_asm)) _ _ z1,z2⟩) ?_;(try dsimp only))
     | ((with_reducible show wpAny _ _ (callWith _ (.builtin _) [_] _ _) _ _ _);refine callWith_method1 ?_;(try dsimp only))
     | ((with_reducible show wpAny _ _ (call (.builtin "list.pop") [.ref lv]) _ _ _);(rename Fr ..=>F9);(rename News ..=>N9);refine Sf F9 N9 (Upd.tail nI0.symm (Upd.head nlv)) hszP ?_;clear F9 N9;walk_at "eps";rename_i h9;intro F9 N9;(try dsimp only))
     | ((try ((with_reducible show wpAny _ _ (execs _ _) _ _ _);(conv=>(arg 6;dsimp only))));(fail_if_success (with_reducible show wpAny _ _ (subscriptTail _ _ _ _) _ _ _));walk_at "go"))
    (rename Fr ..=>F9);(rename News ..=>N9)
    (try dsimp only)
    refine hq8 _ _ ?_
    refine Du lv0 (n+1) (some (.ref a)) F9 N9 rfl e hr ?hl2 ?nd2 (fun l hl'=>no l (Ml _ hl')) ?sub2 nI0 (fun l hl'=>nIl0 l (Ml _ hl')) o1 b1
    case hl2 =>
     obtain⟨st0,lev,est⟩:=Bz hpos;rw [est] at hl ⊢;obtain⟨l0',a',e0,h0,_⟩:=hl.snoc_inv;have:=List.append_inj' e0 rfl;rw [this.1]
     simpa [Ak] using h0
    case nd2=>rw [List.map_append] at nd;exact(List.nodup_append.mp nd).1
    case sub2 =>
     simp only [Ef,List.map_append,List.map_cons,List.map_nil,List.append_assoc,List.cons_append,List.nil_append]
     walk_at "l_sub"
  case sns =>
   walk_at "eps2";rename_i p' u';rintro rfl
   revert hT;refine Lz ?_;with_reducible refine let_mvar% ?zq21:=(fun t tp tu=>?_:Fa3 _);Am neI (Bu:Tie _ (type_of% ?zq21)) (?zq21 _ _ _);intro hT
   have hyl:=Bz (l:=lvs) (by exact(Nl fun hn1=>fk [_,_] (.e K1 V0 (.e V0 V1 (.e (.s V1) K1 K0))) rfl hpos (Es hll) hn1))
   revert hyl;refine Fw ?_;walk_at "eps2";rename_i lv0 l;rintro rfl;rw [List.map_append,List.map_cons,List.map_nil] at N1
   have e5:Ef (lv0++[l])=Ef lv0++[(l.1,listOf l.2.1.toArray l.2.2)]:=by simp [Ef]
   rw [e5] at N1;have nIl:l.1≠I:=nIl0 l (Mr _ (.head _));have nll:l.1≠lv:=no l (Mr _ (.head _))
   have nl0:∀ p∈Ef lv0,p.1≠l.1:=by
    rw [List.map_append] at nd;intro p hp;obtain⟨l',hl',rfl⟩:=List.mem_map.mp hp
    exact(List.nodup_append.mp nd).2.2 l'.1 (List.mem_map_of_mem hl') l.1 (by simp)
   have hys:=Bz hpos;revert hys;refine Fw ?_;walk_at "eps2";rename_i st0 lev;intro est;have hl2:=hl;rw [est] at hl2;have hyi:=hl2.snoc_inv;revert hyi;refine Fw ?_;walk_at "eps2";rename_i l0' a';rintro⟨e0,h0,ha⟩;have e6:=List.append_inj' e0 rfl
   have e7:a'=l:=by simpa using e6.2.symm
   rw [← e6.1] at h0;rw [e7] at ha
   have hlevn:lev.length≤1+cs1.length:=Wl cs1 lev (by rw [est];simp)
   have hszA:l.2.1.toArray.size≤sizeLine:=by rw [sizeLine_eq,List.size_toArray,ha.length];exact(Nl fun hn1=>fk [_,_] (.e V0 (.k 100) (.e V1 (.a K1 V0) (.e (.s (.k 16777216)) V1 K0))) rfl hlen1 hlevn hn1)
   ·repeat' (first
     | ((with_reducible show (if decide _=true then _ else _));first | refine ite_pos (by decide) ?_ | refine ite_neg (by decide) ?_)
     | ((with_reducible show wpAny _ _ (subscriptTail _ _ (.ref a) (.int 0 _)) _ _ _);refine Df (v:=.int 5 t) (vs:=[_,_]) (by obtain⟨o,z1,z2⟩:=hT;exact⟨o,(Fr.keep (by k_asm)) _ _ z1,z2⟩) ?_;(try dsimp only))
     | ((with_reducible show wpAny _ _ (callWith _ (.builtin _) [_] _ _) _ _ _);refine callWith_method1 ?_;(try dsimp only))
     | ((with_reducible show wpAny _ _ (subscriptTail _ _ (.ref lv) (.int (-1) _)) _ _ _);(rename News ..=>N9);refine De (vs:=lv0.map fun l=>.ref l.1) (v:=.ref l.1) (by exact⟨_,(N9 _ (.tail _ (.head _))).1,rfl,_,rfl⟩) ?_;(try dsimp only))
     | ((with_reducible show wpAny _ _ (call (.builtin "list.append") [.ref l.1,_]) _ _ _);(rename Fr ..=>F9);(rename News ..=>N9);refine append_K F9 N9 (Upd.tail (Ne.symm nIl) (Upd.tail (Ne.symm nll) (Vd nl0 (List.forall_mem_nil _)))) ?_ hszA;clear F9 N9;walk_at "eps";rename_i h9;intro F9 N9;(try dsimp only))
     | ((with_reducible show wpAny _ _ (getMethod (.ref l.1) _ _) _ _ _);(rename News ..=>N9);refine getMethod_list_append (N9 (l.1,listOf l.2.1.toArray l.2.2) (by simp)).1 rfl rfl ?_;(try dsimp only))
     | ((try ((with_reducible show wpAny _ _ (execs _ _) _ _ _);(conv=>(arg 6;dsimp only))));(fail_if_success (with_reducible show wpAny _ _ (subscriptTail _ _ _ _) _ _ _));walk_at "go"))
    (rename Fr ..=>F9);(rename News ..=>N9)
    (try dsimp only)
    have ep:l.2.1.toArray.push (.ref a)=(l.2.1++[Value.ref a]).toArray:=List.push_toArray _ _;rw [ep] at N9;refine hq8 _ _ ?_;refine Du (lv0++[(l.1,l.2.1++[.ref a],l.2.2+1)]) n (some (.ref a)) F9 N9 rfl e hr ?hl3 ?nd3 ?no3 ?sub3 nI0 ?n23 o1 b1
    case hl3 =>
     rw [est]
     show All2 _ _ (Bx _ _)
     rw [Be];exact h0.snoc (ha.snoc hc)
    case nd3=>rw [List.map_append] at nd ⊢;exact nd
    case no3 =>
     intro l' hl'
     rcases List.mem_append.mp hl' with z | z
     ·exact no l' (Ml _ z)
     ·rw [List.mem_singleton.mp z];exact nll
    case sub3 =>
     simp only [Ef,List.map_append,List.map_cons,List.map_nil,List.append_assoc,List.cons_append,List.nil_append]
     walk_at "l_sub"
    case n23 =>
     intro l' hl'
     rcases List.mem_append.mp hl' with z | z
     ·exact nIl0 l' (Ml _ z)
     ·rw [List.mem_singleton.mp z];exact nIl
  case data =>
   walk_at "eps";rename_i d;rintro rfl
   revert hT;refine Fw ?_;walk_at "eps2";rename_i t tt;intro hT
   ·repeat' (first
     | ((with_reducible show (if decide _=true then _ else _));first | refine ite_pos (by decide) ?_ | refine ite_neg (by decide) ?_)
     | ((with_reducible show wpAny _ _ (subscriptTail _ _ (.ref a) (.int 0 _)) _ _ _);refine Df (v:=.int 2 t) (vs:=[_,_]) (by obtain⟨o,z1,z2⟩:=hT;exact⟨o,(Fr.keep (by k_asm)) _ _ z1,z2⟩) ?_;(try dsimp only))
     | ((with_reducible show wpAny _ _ (callWith _ (.builtin _) [_] _ _) _ _ _);refine callWith_method1 ?_;(try dsimp only))
     | ((try ((with_reducible show wpAny _ _ (execs _ _) _ _ _);(conv=>(arg 6;dsimp only))));(fail_if_success (with_reducible show wpAny _ _ (subscriptTail _ _ _ _) _ _ _));walk_at "go"))
    (rename Fr ..=>F9);(rename News ..=>N9)
    (try dsimp only)
    refine hq8 _ _ ?_
    exact Du lvs n (some (.ref a)) F9 N9 rfl e hr hl nd no (fun _ z=>z) nI0 nIl0 o1 b1
  case comment =>
   walk_at "eps";rename_i d;rintro rfl
   revert hT;refine Fw ?_;walk_at "eps2";rename_i t tt;intro hT
   ·repeat' (first
     | ((with_reducible show (if decide _=true then _ else _));first | refine ite_pos (by decide) ?_ | refine ite_neg (by decide) ?_)
     | ((with_reducible show wpAny _ _ (subscriptTail _ _ (.ref a) (.int 0 _)) _ _ _);refine Df (v:=.int 3 t) (vs:=[_,_]) (by obtain⟨o,z1,z2⟩:=hT;exact⟨o,(Fr.keep (by k_asm)) _ _ z1,z2⟩) ?_;(try dsimp only))
     | ((with_reducible show wpAny _ _ (callWith _ (.builtin _) [_] _ _) _ _ _);refine callWith_method1 ?_;(try dsimp only))
     | ((try ((with_reducible show wpAny _ _ (execs _ _) _ _ _);(conv=>(arg 6;dsimp only))));(fail_if_success (with_reducible show wpAny _ _ (subscriptTail _ _ _ _) _ _ _));walk_at "go"))
    (rename Fr ..=>F9);(rename News ..=>N9)
    (try dsimp only)
    refine hq8 _ _ ?_
    exact Du lvs n (some (.ref a)) F9 N9 rfl e hr hl nd no (fun _ z=>z) nI0 nIl0 o1 b1
  case pi =>
   walk_at "eps";rename_i d;rintro rfl
   revert hT;refine Fw ?_;walk_at "eps2";rename_i t tt;intro hT
   ·repeat' (first
     | ((with_reducible show (if decide _=true then _ else _));first | refine ite_pos (by decide) ?_ | refine ite_neg (by decide) ?_)
     | ((with_reducible show wpAny _ _ (subscriptTail _ _ (.ref a) (.int 0 _)) _ _ _);refine Df (v:=.int 4 t) (vs:=[_,_]) (by obtain⟨o,z1,z2⟩:=hT;exact⟨o,(Fr.keep (by k_asm)) _ _ z1,z2⟩) ?_;(try dsimp only))
     | ((with_reducible show wpAny _ _ (callWith _ (.builtin _) [_] _ _) _ _ _);refine callWith_method1 ?_;(try dsimp only))
     | ((try ((with_reducible show wpAny _ _ (execs _ _) _ _ _);(conv=>(arg 6;dsimp only))));(fail_if_success (with_reducible show wpAny _ _ (subscriptTail _ _ _ _) _ _ _));walk_at "go"))
    (rename Fr ..=>F9);(rename News ..=>N9)
    (try dsimp only)
    refine hq8 _ _ ?_
    exact Du lvs n (some (.ref a)) F9 N9 rfl e hr hl nd no (fun _ z=>z) nI0 nIl0 o1 b1
end
theorem rs17:True∧True:=by
 (try walk1);(try w_top off)
 all_goals (first | trivial | exact ⟨trivial,trivial⟩)
section

theorem CallsJ.out{w:World}{xs zs:List (Int × Tok)}{k0:Nat}{sa ur cl sd src:Addr}{rem:List Value}{m:Str→Option Value}{own:List (Addr × Obj)}{G:Prop}(h:CallsJ w xs zs k0 sa ur cl sd src rem m own)
  (k:∀ (ys:List (Int × Tok)) (st:List Told × List Str) (cv:List Value) (nC nS:Nat) (sv:List (Str × Tok)) (ob:List (Addr × Obj)) (u1 u2 u3 u4 u5:Option Value),rem=By ys→(ys.map (·.1)).foldl Ag st=Ar (xs.map (·.1))→ScriptOk st→st.1.length+ys.length≤70→m=Gj sa ur cl sd u1 u2 u3 u4 u5→sv.map (·.1)=st.2→All2 (Bq w ob) cv st.1→own=(cl,listOf cv.toArray nC)::(sd,listOf (strValues sv).toArray nS)::(ur,listOf (strValues (Fg k0)).toArray 0)::(src,listOf (By zs).toArray 0)::ob→(∀ q∈ob,q.1≠cl∧q.1≠sd∧q.1≠ur∧q.1≠src)→G):G :=
 h.casesOn fun ys st cv nC nS sv ob u1 u2 u3 u4 u5 h0 h1 h2 h3 h4 h5 h6 h7 h8=>k ys st cv nC nS sv ob u1 u2 u3 u4 u5 h0 h1 h2 h3 h4 h5 h6 h7 h8
theorem ne9k{d a:Addr}{o:Obj}{news:List (Addr × Obj)}(l:∀ p∈news,p.1<d)(h:(a,o)∈news):a≠d:=Nat.ne_of_lt (l _ h)
theorem Ca{sa ur cl sd:Addr}{u1 u2 u3 u4 u5:Option Value}{y:Str}(h1:y≠"x")(h2:y≠"kind")(h3:y≠"more")(h4:y≠"attrs")(h5:y≠"told"):Gj sa ur cl sd u1 u2 u3 u4 u5 y=Io sa ur cl sd y:=by
 simp [Gj,m5,h1,h2,h3,h4,h5]
noncomputable def Ip(w:World)(A:Around)(s:Shared)(g:Heap)(os:OsState)(p:Program)(zw:List Str)(zr:ExcName→Option Value)(mg mb:Str→Option Value)(R:Result→Shared→Prop)(sa:Addr)(xs:List (Int × Tok)):Prop :=
 ∀ (X:(hd11.heap_39 w.params).In g) (T:Top p zw zr mg mb g) (H:Ok g os [] s) (hh:A.handled=none) (zq:A.depth<800) (hu:A.units<7000) (hs:g.IsList sa (xs.map fun x=>.int x.1 x.2).toArray) (hxl:xs.length≤63) (hN:∀ (r:Addr) (vs:List Value) (n:Nat) (cs:List (Addr × Obj)) (s':Shared),(r,listOf vs.toArray n)∈cs→All2 (Bq w cs) vs (Aa (xs.map (·.1)))→Ok g os cs s'→R (.ok (.ret (.ref r))) s'),codeAny (model rw_dn0283_11.row.prog w) A (.call (.ref 180) ⟨[.ref sa],[]⟩) R s
theorem Tn:∀ {w A s g os p zw zr mg mb R sa xs},Ip w A s g os p zw zr mg mb R sa xs:=by
 refine @(Ab (Ao neW)<|@(Et neI<|let_mvar% ?n:=(fun w A s g os p zw zr mg mb R sa xs=>?_:∀ a b c d e f g h i j k l m,Ip a b c d e f g h i j k l m);?n _ _ _ _ _ _ _ _ _ _ _ _ _))
 intro X T H hh zq hu hs hxl hN;revert X
 k_fill
 intro X
 refine' Cq (fun y=>List.lookup y [("script",.ref sa)]) H X T ?k6 ?k7 (Nat.lt_trans zq (by decide)) ?k9 ?kB ?km ?kl ?_ ?c1 ?c2 ?c3 ?c4
 (case k6=>k_is)
 (case k7=>k_is)
 (case k9=>exact BindsTo.of_eq rfl)
 (case kB=>exact locs rfl)
 (case km=>exact rfl)
 (case kl=>exact Nat.succ_pos _)
 (case c1=>exact rfl)
 (case c2=>exact rfl)
 (case c3=>exact rfl)
 (case c4=>decide)
 k_whole;with_reducible refine let_mvar% ?zq1:=(fun L' h1 k0=>?_:Fa3 _);Am neI (Bu:Tie _ (type_of% ?zq1)) (?zq1 _ _ _);intro hk0 F1 N1 l1;(try k_lt l1);(try dsimp only)
 refine Bw ?_;walk_at "eps2";rename_i Q9 E9;intro hq9 he9
 repeat' ((fail_if_success (with_reducible show wpAny _ _ (exec (Stmt.For _ _ _ _ _) _) _ _ _));walk_at "go")
 rename_i ur _ _ _ t1 _ e0 t2 _ e1 d0 _ o0 lo0 hs0 _ _ _ e2 t3 _ e3 cl _ e4 _ sd _ e5 _ F9 N9;have hy0:=ss_of (q:=[]) hs0 rfl;revert hy0;refine Fw ?_;walk_at "eps2";rename_i l0 n0;rintro⟨rfl,hl0⟩
 refine For_ (fun _=>rfl) ?_
 repeat' ((fail_if_success (with_reducible show wpAny _ _ (binaryOp _ _ _) _ _ _));walk_at "go")
 (rename Fr ..=>F8);(rename News ..=>N8)
 have lt0:=fun p hp=>Heap.lt_size (N8 p hp).1
 walk_at "go"
 clear F8 N8
 (rename Fr ..=>F8);(rename News ..=>N8)
 (try dsimp only at N8 F8 lt0)
 try dsimp only
 rename_i h12 _ h13;revert h13;walk_at "eps";rename_i h13;intro F8 N8;have hy1:∃ src,h12.objs.size=src:=⟨_,rfl⟩;revert hy1;refine exi ?_;walk_at "eps";rename_i src;intro hsrc;rw [hsrc] at N8 lt0 ⊢;have hy2:∃ zs:List (Int × Tok),zs=[(8,k0+1+1+1+1+1+1+1+1+1+1+1+1+1+1+1+1),(3,k0+1+1+1+1+1+1+1+1+1+1+1+1+1+1+1+1+1),(72,k0+1+1+1+1+1+1+1+1+1+1+1+1+1+1+1+1+1+1),(4,k0+1+1+1+1+1+1+1+1+1+1+1+1+1+1+1+1+1+1+1)]++xs:=⟨_,rfl⟩;revert hy2;refine exi ?_;walk_at "eps";rename_i zs;intro hzs;have N7:=News.sub (news':=((cl,listOf [.ref t1,.ref t2,.ref t3].toArray 0)::(sd,listOf (strValues [("r",(k0+1+1+1+1+1+1+1+1+1+1+1+1+1+1))]).toArray 0)::(ur,listOf (strValues (Fg k0)).toArray 0)::(src,listOf (By zs).toArray 0)::[(t3,Ae #[.int 0 (k0+1+1+1+1+1+1+1+1+1+1+1),.str "r" (k0+1+1+1+1+1+1+1+1+1+1+1+1),.ref d0]),(d0,dictOf (Bg w.params l0) n0),(t2,Ae #[.int 5 (k0+1+1+1+1+1+1+1+1),.str "q" (k0+1+1+1+1+1+1+1+1+1),.str "urn:b" (k0+1+1+1+1+1+1+1+1+1+1)]),(t1,Ae #[.int 5 (k0+1+1+1+1+1),.str "p" (k0+1+1+1+1+1+1),.str "urn:a" (k0+1+1+1+1+1+1+1)])])) N8 ?subs
 case subs =>
  rw [hzs]
  exact Fc (by k_mem) (Fc (by k_mem) (Fc (by k_mem) (Fc (.head _) (Fc (by k_mem) (Fc (by k_mem) (Fc (by k_mem) (Fc (by k_mem) (List.forall_mem_nil _))))))))
 have m12:cl≠sd:=Nat.ne_of_lt e5.1;have m13:ur≠cl:=Nat.ne_of_lt e4.2.2.2.2;have m23:ur≠sd:=Nat.ne_of_lt e5.2.2.2.2.2
 have m14:cl≠src:=Nat.ne_of_lt (lt0 (cl,_) (by k_mem))
 have m24:sd≠src:=Nat.ne_of_lt (lt0 (sd,_) (by k_mem))
 have m34:ur≠src:=Nat.ne_of_lt (lt0 (ur,_) (by k_mem))
 refine Gq (its:=(By zs).toArray) (ax:=src) (os:=os) (L:=L') (h₀:=g) (fun rem m own=>CallsJ w xs zs k0 sa ur cl sd src rem m own) (fun own v m m'=>m'=fun y=>if y=Str.ofString "x" then some v else m y) ?hh ?hsrc ?hown ?hasg ?step ?done ?hJ (m:=(Gj sa ur cl sd none none none none none)) (own:=((cl,listOf [Value.ref t1,Value.ref t2,Value.ref t3].toArray 0)::(sd,listOf (strValues [(Str.ofString "r",(k0+1+1+1+1+1+1+1+1+1+1+1+1+1+1))]).toArray 0)::(ur,listOf (strValues (Fg k0)).toArray 0)::(src,listOf (By zs).toArray 0)::[(t3,Ae #[Value.int 0 (k0+1+1+1+1+1+1+1+1+1+1+1),Value.str (Str.ofString "r") (k0+1+1+1+1+1+1+1+1+1+1+1+1),Value.ref d0]),(d0,dictOf (Bg w.params l0) n0),(t2,Ae #[Value.int 5 (k0+1+1+1+1+1+1+1+1),Value.str (Str.ofString "q") (k0+1+1+1+1+1+1+1+1+1),Value.str (Str.ofString "urn:b") (k0+1+1+1+1+1+1+1+1+1+1)]),(t1,Ae #[Value.int 5 (k0+1+1+1+1+1),Value.str (Str.ofString "p") (k0+1+1+1+1+1+1),Value.str (Str.ofString "urn:a") (k0+1+1+1+1+1+1+1)])])) ?F N7 ?os ?br
 case hh=>exact hh
 case os=>exact H.os
 case br=>exact H.bare
 case F=>(show Fr g L' _ (Gj sa ur cl sd none none none none none);rw [Gj,← Us (m0:=Io sa ur cl sd) rfl rfl rfl rfl rfl];exact F8)
 case hJ =>
  have hl0':l0=[]:=List.map_eq_nil_iff.mp hl0;refine⟨zs,Fe,[.ref t1,.ref t2,.ref t3],0,0,[("r",(k0+1+1+1+1+1+1+1+1+1+1+1+1+1+1))],[(t3,Ae #[.int 0 (k0+1+1+1+1+1+1+1+1+1+1+1),.str "r" (k0+1+1+1+1+1+1+1+1+1+1+1+1),.ref d0]),(d0,dictOf (Bg w.params l0) n0),(t2,Ae #[.int 5 (k0+1+1+1+1+1+1+1+1),.str "q" (k0+1+1+1+1+1+1+1+1+1),.str "urn:b" (k0+1+1+1+1+1+1+1+1+1+1)]),(t1,Ae #[.int 5 (k0+1+1+1+1+1),.str "p" (k0+1+1+1+1+1+1),.str "urn:a" (k0+1+1+1+1+1+1+1)])],none,none,none,none,none,rfl,?_,Na,?_,rfl,rfl,?_,rfl,?_⟩
  ·rw [hzs];rfl
  ·rw [hzs];simp only [Fe,List.length_append,List.length_cons,List.length_nil];exact(Nl fun hn1=>fk [_] (.e V0 (.k 63) (.e (.s (.k 70)) (.a (.a (.a (.s K0) K1) K1) (.a (.a (.a (.a (.s K0) K1) K1) K1) V0)) K0)) rfl hxl hn1)
  ·refine .cons ⟨t1,_,_,_,rfl,.tail _ (.tail _ (.tail _ (.head _)))⟩ (.cons ⟨t2,_,_,_,rfl,.tail _ (.tail _ (.head _))⟩ (.cons ⟨t3,_,_,d0,n0,l0,rfl,.head _,.tail _ (.head _),lo0,?_⟩ .nil))
   rw [hl0'];rfl
  ·exact Fc ⟨Nat.ne_of_lt e4.1,Nat.ne_of_lt e5.2.1,Nat.ne_of_gt e3.2.2.2,Nat.ne_of_lt (lt0 (t3,_) (by k_mem))⟩ (Fc ⟨Nat.ne_of_lt e4.2.1,Nat.ne_of_lt e5.2.2.1,Nat.ne_of_gt e2.2.2,Nat.ne_of_lt (lt0 (d0,_) (by k_mem))⟩ (Fc ⟨Nat.ne_of_lt e4.2.2.1,Nat.ne_of_lt e5.2.2.2.1,Nat.ne_of_gt e1.2,Nat.ne_of_lt (lt0 (t2,_) (by k_mem))⟩ (Fc ⟨Nat.ne_of_lt e4.2.2.2.1,Nat.ne_of_lt e5.2.2.2.2.1,Nat.ne_of_gt e0,Nat.ne_of_lt (lt0 (t1,_) (by k_mem))⟩ (List.forall_mem_nil _))))
 case hsrc =>
  rintro rem m own ⟨ys,st,cv,nC,nS,sv,ob,u1,u2,u3,u4,u5,eR,eF,sO,eL,rfl,eS,eC,rfl,off⟩;exact .inr ⟨_,.tail _ (.tail _ (.tail _ (.head _))),rfl,_,rfl⟩
 case hown =>
  intro I i v s1 Q E' _ _ hq;exact Wp hq
 case hasg =>
  intro s1 v rem m own news Q E' _ _ F1 N1 hq
  exact PyProof.Rows.assign_Name (storeX_L F1 N1 (fun h2 F2 N2=>hq h2 _ _ F2 N2 rfl) rfl rfl)
 case done =>
  with_reducible refine let_mvar% ?zq7:=(fun s1 m own=>?_:Fa3 _);Am Cb (Bu:Tie _ (type_of% ?zq7)) (?zq7 _ _ _);intro hJ9 F1 N1 o1 b1;revert F1 N1;refine CallsJ.out hJ9 ?_;with_reducible refine let_mvar% ?zq8:=(fun ys st cv nC nS sv=>?_:Fa6 _);Ew neI (Nx:Tie _ (type_of% ?zq8)) (?zq8 _ _ _ _ _ _);with_reducible refine let_mvar% ?zq9:=(fun ob u1 u2 u3 u4 u5=>?_:Fa6 _);Ew neI (Nx:Tie _ (type_of% ?zq9)) (?zq9 _ _ _ _ _ _);rintro eR eF sO eL rfl eS eC rfl off F1 N1
  have ey:ys=[]:=by
   cases ys with
   | nil=>rfl
   | cons q ys'=>exact absurd eR (by simp [By])
  subst ey;have eF':st=Ar (xs.map (·.1)):=eF
  have oc:∀ q∈ob,q.1≠cl:=fun q hq=>(off q hq).1
  have hcl:=eC.length
  have eL':st.1.length≤70:=by simpa using eL
  clear eL
  have zd:sv.length=st.2.length:=by rw [← eS,List.length_map]
  have hf:=sO.few;have hs1:=sO.some;dsimp only
  repeat' (first
   | ((with_reducible show wpAny _ _ (callWith _ (.builtin _) [_] _ _) _ _ _);refine callWith_method1 ?_;(try dsimp only))
   | ((fail_if_success (with_reducible show wpAny _ _ (eval (Expr.ListComp _ _ _ _) _) _ _ _));walk_at "go"))
  (rename Fr ..=>F9);(rename News ..=>N9)
  refine Po (h₀:=g) (L:=L') (m:=Gj sa ur cl sd u1 u2 u3 u4 u5) (cl:=[]) rfl (by decide) rfl (by decide) rfl ?_
  repeat' (first
   | ((with_reducible show wpAny _ _ (call (Value.type _) [.ref _]) _ _ _);refine krv_reversed (vs:=strValues sv) F9 N9 (by exact⟨_,(N9 _ (.tail _ (.head _))).1,rfl,_,rfl⟩) ?_;clear F9 N9;walk_at "eps2";rename_i I h9;intro F9 N9 lI)
   | walk_at "go")
  refine⟨I,sd,strValues sv,_,rfl,hh,F9,N9,fun p hp=>Nat.ne_of_lt (lI p hp),ne9k lI (by k_mem),.inr ⟨_,.tail _ (.head _),rfl,_,rfl⟩,?sz1,Sk (tu:=[]) (.inr ⟨_,.tail _ (.head _),rfl,_,rfl⟩) ?fin1 _ 0 [] ?k1 .nil (fun _ z=>nomatch z)⟩
  case sz1=>rw [sizeLine_eq];simp only [strValues,List.length_map];exact(Nl fun hn1=>fk [_,_] (.e V0 V1 (.e V1 (.k 7) (.e (.s (.k 16777216)) V0 K0))) rfl (El zd) hf hn1)
  case k1=>simp [strValues]
  case fin1 =>
   walk_at "eps2";rename_i ys tu;intro hy ho;unfold LCg.FinE;with_reducible refine let_mvar% ?zq15:=(fun D h8 tk8=>?_:Fa3 _);Am neI (Bu:Tie _ (type_of% ?zq15)) (?zq15 _ _ _);intro F8 N8 o8
   have oD:∀ p∈(tu++(cl,listOf cv.toArray nC)::(sd,listOf (strValues sv).toArray nS)::(ur,listOf (strValues (Fg k0)).toArray 0)::(src,listOf (By zs).toArray 0)::ob),p.1≠D:=Ry o8;have hyl:=hy.length
   simp only [List.length_map,List.length_reverse] at hyl
   have N7:=News.sub (news':=(cl,listOf cv.toArray nC)::(D,listOf ys.toArray ys.length)::(tu++ob)) N8 (by
    intro q hq
    simp only [List.mem_cons,List.mem_append] at hq ⊢
    rcases hq with h | h | h | h
    ·simp [h]
    ·exact .inl (h.trans rfl)
    ·simp [h]
    ·simp [h])
   clear F9 N9 N8
   have hU:∀ p∈(D,listOf ys.toArray ys.length)::(tu++ob),p.1≠cl:=by
    intro p hp
    rcases List.mem_cons.mp hp with rfl | hp
    ·exact Ne.symm (oD (cl,listOf cv.toArray nC) (by simp))
    ·rcases List.mem_append.mp hp with z | z
     ·exact Ne.symm (ho p z (cl,_) (.head _))
     ·exact oc p z
   repeat' (first
    | ((with_reducible show wpAny _ _ (call (.builtin "list.extend") _) _ _ _);refine kl_extend (l:=cv++ys) F8 N7 (by exact .tail _ (.head _)) (by simp) (by show ys.length≠0;exact(fun hn1=>fk [_,_,_] (.e V0 V1 (.e K1 V0 (.e V1 V2 (.e V2 K0 K0)))) rfl (Es zd) hs1 (Es hyl) (El hn1))) (Upd.head hU) (by rw [Jb (by show cv.length+ys.length≤1000;exact(Nl fun hn1=>fk [_,_,_,_,_] (.e V0 V1 (.e V1 (.k 70) (.e V2 V3 (.e V3 (.k 7) (.e V4 V2 (.e (.s (.k 1000)) (.a V0 V4) K0)))))) rfl (El hcl) eL' (El zd) hf (El hyl) hn1))];simp) (by rw [sizeLine_eq];show cv.length≤_;exact(Nl fun hn1=>fk [_,_] (.e V0 V1 (.e V1 (.k 70) (.e (.s (.k 16777216)) V0 K0))) rfl (El hcl) eL' hn1)) (by rw [sizeLine_eq];show cv.length+ys.length≤_;exact(Nl fun hn1=>fk [_,_,_,_,_] (.e V0 V1 (.e V1 (.k 70) (.e V2 V3 (.e V3 (.k 7) (.e V4 V2 (.e (.a (.s (.k 16777216)) K1) (.a V0 V4) K0)))))) rfl (El hcl) eL' (El zd) hf (El hyl) hn1)) ?_;clear F8 N7;walk_at "eps";rename_i h9;intro F9 N9)
    | ((with_reducible show wpAny _ _ (newTuple _) _ _ _);refine kup_newTuple F9 N9 ?_ (by rw [sizeLine_eq];exact Nat.le_of_ble_eq_true rfl);clear F9 N9;walk_at "eps2";rename_i tz h9;intro F9 N9 ltz;(try dsimp only))
    | ((with_reducible show wpAny _ _ (newList _) _ _ _);refine newList_K F9 N9 ?_ (by rw [sizeLine_eq];exact Nat.le_of_ble_eq_true rfl);clear F9 N9;walk_at "eps2";rename_i lz h9;intro F9 N9 llz;(try dsimp only))
    | ((with_reducible show wpAny _ _ (binaryOp Operator.Add (.ref _) (.ref _)) _ _ _);refine kmk_add_lit (zs:=cv++ys++[.ref tz]) F9 N9 (its:=(cv++ys).toArray) (its2:=#[.ref tz]) (by exact⟨_,(N9 _ (.tail _ (.tail _ (.head _)))).1,rfl,_,rfl⟩) (by exact⟨_,(N9 _ (.head _)).1,rfl,_,rfl⟩) (by simp) ?_ (by rw [sizeLine_eq];show (cv++ys).length+1≤_;rw [List.length_append];exact(Nl fun hn1=>fk [_,_,_,_,_] (.e V0 V1 (.e V1 (.k 70) (.e V2 V3 (.e V3 (.k 7) (.e V4 V2 (.e (.s (.k 16777216)) (.a (.a V0 V4) K1) K0)))))) rfl (El hcl) eL' (El zd) hf (El hyl) hn1));clear F9 N9;walk_at "eps2";rename_i r9 h9;intro F9 N9 lr9;(try dsimp only))
    | ((fail_if_success (with_reducible show Q9 _ _));walk_at "go"))
   refine hq9 _ _ (leaveM_ F9 N9 o1 b1 fun H'=>hN r9 _ 0 _ _ (.head _) ?_ H')
   unfold Aa;rw [← eF',← eS]
   refine((eC.mono fun a b z=>z.sub ?_).append (hy.mono fun a b z=>z.sub ?_)).snoc ⟨tz,_,_,rfl,.tail _ (.tail _ (.head _))⟩
   ·intro p hp;simp [hp]
   ·intro p hp;simp [hp]
 case step =>
  with_reducible refine let_mvar% ?zq10:=(fun s1 v rem m m' own I oI=>?_:Fa8 _);Fs Cb (Qn:Tie _ (type_of% ?zq10)) (?zq10 _ _ _ _ _ _ _ _);intro hJ9 hm9 F1 N1 nI o1 b1;subst hm9;revert F1 N1 nI;refine CallsJ.out hJ9 ?_;with_reducible refine let_mvar% ?zq11:=(fun ys st cv nC nS sv=>?_:Fa6 _);Ew neI (Nx:Tie _ (type_of% ?zq11)) (?zq11 _ _ _ _ _ _);with_reducible refine let_mvar% ?zq12:=(fun ob u1 u2 u3 u4 u5=>?_:Fa6 _);Ew neI (Nx:Tie _ (type_of% ?zq12)) (?zq12 _ _ _ _ _ _);rintro eR eF sO eL rfl eS eC rfl off N1 nI F1
  have hy3:∃ x tx ys',ys=(x,tx)::ys':=by
   cases ys with
   | nil=>exact absurd eR (by simp [By])
   | cons q ys'=>exact⟨q.1,q.2,ys',rfl⟩
  revert hy3;refine Lz ?_;with_reducible refine let_mvar% ?zq13:=(fun x tx ys5=>?_:Fa3 _);Am neI (Bu:Tie _ (type_of% ?zq13)) (?zq13 _ _ _);rintro rfl
  unfold By at eR;rw [List.map_cons] at eR
  injection eR with eV eR
  subst eV;have eR':rem=By ys5:=eR;subst eR';clear eR;refine Bw ?_;walk_at "eps2";rename_i Q8 E8;intro hq8 he8
  repeat' (first
     | ((with_reducible show wpAny _ _ (unpackItems _ _ _) _ _ _);(rename Fr ..=>F9);(rename News ..=>N9);refine' Gf ?up1 F9 N9 ?up2 ?up3;(case up1=>exact hh);(case up3=>rfl);clear F9 N9;walk_at "eps";rename_i h9;intro F9 N9;(try dsimp only))
     | ((fail_if_success (with_reducible show wpAny _ _ (execs (Stmt.If _ _ _ _::_) _) _ _ _));(try ((with_reducible show wpAny _ _ (execs _ _) _ _ _);(conv=>(arg 6;dsimp only))));walk_at "go"))
  (rename Fr ..=>F9);(rename News ..=>N9)
  (try dsimp only at F9 N9)
  rw [Oq x (b:=8) (by decide),Rc x (b:=8) (by decide)] at F9
  have zd:sv.length=st.2.length:=by rw [← eS,List.length_map]
  have hf:=sO.few;have hs1:=sO.some;have hcl:=eC.length;have hys:(List.length ys5:Nat)+1=((x,tx)::ys5).length:=rfl
  have oc:∀ q∈ob,q.1≠cl:=fun q hq=>(off q hq).1
  have osd:∀ q∈ob,q.1≠sd:=fun q hq=>(off q hq).2.1
  have n1:=nI (cl,_) (.head _);have n2:=nI (sd,_) (.tail _ (.head _));have n3:=nI (ur,_) (.tail _ (.tail _ (.head _)));have n4:=nI (src,_) (.tail _ (.tail _ (.tail _ (.head _))))
  have n5:∀ q∈ob,q.1≠I:=fun q hq=>nI q (.tail _ (.tail _ (.tail _ (.tail _ hq))))
  dsimp only at n1 n2 n3 n4
  have hszS:((strValues sv).toArray.size:Int)<2 ^ 63:=by simp only [strValues,List.size_toArray,List.length_map];lia
  have hszS2:(strValues sv).toArray.size≤sizeLine:=by rw [sizeLine_eq];simp only [strValues,List.size_toArray,List.length_map];exact(Nl fun hn1=>fk [_,_] (.e V0 V1 (.e V1 (.k 7) (.e (.s (.k 16777216)) V0 K0))) rfl (El zd) hf hn1)
  have hszC:cv.toArray.size≤sizeLine:=by rw [sizeLine_eq];simp only [List.size_toArray];exact(Nl fun hn1=>fk [_,_,_] (.e (.a V0 V1) (.k 70) (.e V2 V0 (.e (.s (.k 16777216)) V2 K0))) rfl eL (El hcl) hn1)
  have b8:0≤x % 8∧x % 8<8:=⟨Int.emod_nonneg _ (by decide),Int.emod_lt_of_pos _ (by decide)⟩
  by_cases c1:x % 8<3∧st.2.length<7
  ·have c11:=c1.1
   have c13:=c1.2
   have c12:((strValues sv).toArray.size:Int)<7:=by simp only [strValues,List.size_toArray,List.length_map];lia
   rcases (by lia:(x % 8=0∧¬ x % 8 > 0∧¬ x % 8=2)∨(x % 8=1∧x % 8 > 0∧¬ x % 8=2)∨(x % 8=2∧x % 8 > 0∧x % 8=2)) with ⟨k,g0,g1⟩ | ⟨k,g0,g1⟩ | ⟨k,g0,g1⟩
   all_goals repeat' (first
     | ((with_reducible show (if _=true then _ else _));first | refine ite_pos (decide_eq_true (by with_reducible assumption)) ?_ | refine ite_neg (ne_true_of_eq_false (decide_eq_false (by with_reducible assumption))) ?_)
     | ((with_reducible show wpAny _ _ (call (.builtin "len") [.ref sd]) _ _ _);refine PyProof.Rows.len_list (items:=(strValues sv).toArray) (by exact⟨_,News.get (by k_asm) (by k_mem),rfl,_,rfl⟩) hszS ?_;(try dsimp only))
     | ((with_reducible show wpAny _ _ (eval (Expr.Dict [] [] _) _) _ _ _);(rename Fr ..=>F9);(rename News ..=>N9);refine Yb F9 N9 (TopRead.nolimit (by k_asm)) ?_;clear F9 N9;walk_at "eps";rename_i d9;walk_at "eps2";rename_i h9 o9;intro F9 N9 lt9 ld9 ds9;have z1:cl≠d9:=Nat.ne_of_lt (lt9 (cl,_) (by k_mem));have z2:sd≠d9:=Nat.ne_of_lt (lt9 (sd,_) (by k_mem));have z3:ur≠d9:=Nat.ne_of_lt (lt9 (ur,_) (by k_mem));have z4:src≠d9:=Nat.ne_of_lt (lt9 (src,_) (by k_mem));have z5:I≠d9:=Nat.ne_of_lt (lt9 (I,_) (by k_mem));have z6:∀ q∈ob,q.1≠d9:=fun q hq=>Nat.ne_of_lt (lt9 q (by repeat' (first | exact hq | refine List.Mem.tail _ ?_)));have ltd:=lt9;(try dsimp only))
     | ((with_reducible show wpAny _ _ (subscriptTail _ _ (.ref ur) (.int _ _)) _ _ _);refine Yf (k0:=k0) (by exact⟨_,News.get (by k_asm) (by k_mem),rfl,_,rfl⟩) ?_;walk_at "eps";rename_i tu;(try dsimp only))
     | ((with_reducible show wpAny _ _ (binaryOp Operator.Add (.str (Fq _) _) (.str _ _)) _ _ _);refine add_uri (by decide) ?_;walk_at "eps2";rename_i tg tk9;(try dsimp only))
     | ((with_reducible show wpAny _ _ (setItem (.ref _) (.str _ _) (.str _ _)) _ _ _);(rename Fr ..=>F9);(rename News ..=>N9);(first | refine Sg (m:=_) F9 N9 (UpdF.head (fun p hp=>Nat.ne_of_lt (ltd p hp))) ds9 (by first | exact List.not_mem_nil | exact Kt _) (Nat.le_of_ble_eq_true rfl) ?_ | refine Sg (m:=_) F9 N9 (UpdF.tail (ne9k lt9 (by k_mem)).symm (UpdF.head (fun p hp=>Nat.ne_of_lt (ltd p hp)))) ds9 (by first | exact List.not_mem_nil | exact Kt _) (Nat.le_of_ble_eq_true rfl) ?_);clear F9 N9 ds9;walk_at "eps";rename_i h9;walk_at "eps2";rename_i o9 tk9;intro F9 N9 ds9;(try dsimp only at N9);(try dsimp only))
     | ((with_reducible show wpAny _ _ (subscriptTail _ _ (.ref sd) (.int (-1) _)) _ _ _);refine Wq (by exact⟨_,News.get (by k_asm) (by k_mem),rfl,_,rfl⟩) ?_;(try dsimp only))
     | ((with_reducible show wpAny _ _ (subscriptTail _ _ (.ref l9) (.int (Int.fmod _ 2) _)) _ _ _);(rename News ..=>N9);refine Ct ["preserve","default"] (by exact⟨_,(N9 _ (.head _)).1,rfl,_,rfl⟩) (by exact⟨[(_,_),(_,_)],rfl,rfl⟩) (by decide) (by exact rfl) (by decide) ?_;walk_at "eps";rename_i tv;(try dsimp only))
     | ((with_reducible show wpAny _ _ (newList _) _ _ _);(rename Fr ..=>F9);(rename News ..=>N9);refine newList_K F9 N9 ?_ (by rw [sizeLine_eq];exact Nat.le_of_ble_eq_true rfl);clear F9 N9;walk_at "eps2";rename_i l9 h9;intro F9 N9 lt9;have z1:cl≠l9:=Nat.ne_of_lt (lt9 (cl,_) (by k_mem));have z2:sd≠l9:=Nat.ne_of_lt (lt9 (sd,_) (by k_mem));have z3:ur≠l9:=Nat.ne_of_lt (lt9 (ur,_) (by k_mem));have z4:src≠l9:=Nat.ne_of_lt (lt9 (src,_) (by k_mem));have z5:I≠l9:=Nat.ne_of_lt (lt9 (I,_) (by k_mem));have z6:∀ q∈ob,q.1≠l9:=fun q hq=>Nat.ne_of_lt (lt9 q (by repeat' (first | exact hq | refine List.Mem.tail _ ?_)));(try dsimp only))
     | ((with_reducible show wpAny _ _ (newTuple _) _ _ _);(rename Fr ..=>F9);(rename News ..=>N9);refine kup_newTuple F9 N9 ?_ (by rw [sizeLine_eq];exact Nat.le_of_ble_eq_true rfl);clear F9 N9;walk_at "eps2";rename_i t9 h9;intro F9 N9 lt9;have z1:cl≠t9:=Nat.ne_of_lt (lt9 (cl,_) (by k_mem));have z2:sd≠t9:=Nat.ne_of_lt (lt9 (sd,_) (by k_mem));have z3:ur≠t9:=Nat.ne_of_lt (lt9 (ur,_) (by k_mem));have z4:src≠t9:=Nat.ne_of_lt (lt9 (src,_) (by k_mem));have z5:I≠t9:=Nat.ne_of_lt (lt9 (I,_) (by k_mem));have z6:∀ q∈ob,q.1≠t9:=fun q hq=>Nat.ne_of_lt (lt9 q (by repeat' (first | exact hq | refine List.Mem.tail _ ?_)));(try dsimp only))
     | ((with_reducible show wpAny _ _ (call (.builtin "list.append") [.ref sd,_]) _ _ _);(rename Fr ..=>F9);(rename News ..=>N9);refine append_K F9 N9 (by walk_at "l_upd") ?_ hszS2;clear F9 N9;walk_at "eps";rename_i h9;intro F9 N9;(try k_sweep))
     | ((with_reducible show wpAny _ _ (call (.builtin "list.append") [.ref cl,_]) _ _ _);(rename Fr ..=>F9);(rename News ..=>N9);refine append_K F9 N9 (by walk_at "l_upd") ?_ hszC;clear F9 N9;walk_at "eps";rename_i h9;intro F9 N9;(try k_sweep))
     | ((try ((with_reducible show wpAny _ _ (execs _ _) _ _ _);(conv=>(arg 6;dsimp only))));(fail_if_success (with_reducible show wpAny _ _ (setItem _ _ _) _ _ _));(fail_if_success (with_reducible show wpAny _ _ (subscriptTail _ _ _ _) _ _ _));walk_at "go"))
   ·obtain⟨l,nl,rfl,hl⟩:=ds9.ss
    (rename Fr ..=>F9);(rename News ..=>N9)
    (try dsimp only)
    refine hq8 _ _ ?_;refine Bs (x:=x) (tx:=tx) (ys:=ys5) (xs:=xs) (st:=st) (nC:=nC) (cv:=cv) (so:=listOf ((strValues sv).toArray.push (.str (Dm x) tg)) (nS+1)) (nS:=nS+1) (.start (Dm x) (Eh x)) (.ref t9) [(t9,Ae #[.int 0 ?ti0,.str (Dm x) tg,.ref d9]),(d9,dictOf (Bg w.params l) nl)] (sv++[(Dm x,tg)]) F9 N9 ?st1 ?tv1 ?so1 ?sb1 ?nn1 ?ob1 ?nw1 ?hm1 eF sO eL eC off n1 n2 n3 n4 n5 ?o1 ?b1
    case sb1=>walk_at "l_mem"
    case nn1=>walk_at "l_mem"
    case ob1=>(walk_at "l_sub")
    case nw1=>(exact Fc ⟨by first | assumption | exact Ne.symm (by assumption),by first | assumption | exact Ne.symm (by assumption),by first | assumption | exact Ne.symm (by assumption),by first | assumption | exact Ne.symm (by assumption),by first | assumption | exact Ne.symm (by assumption)⟩ (Fc ⟨by first | assumption | exact Ne.symm (by assumption),by first | assumption | exact Ne.symm (by assumption),by first | assumption | exact Ne.symm (by assumption),by first | assumption | exact Ne.symm (by assumption),by first | assumption | exact Ne.symm (by assumption)⟩ (List.forall_mem_nil _)))
    case hm1=>(intro y h1 h2 h3 h4 h5;repeat' (first | exact Ca h1 h2 h3 h4 h5 | refine(if_neg (by assumption)).trans ?_))
    case o1=>exact o1
    case b1=>exact b1
    case so1=>simp [strValues]
    case tv1=>exact⟨t9,_,_,d9,nl,l,rfl,.head _,.tail _ (.head _),ld9,by rw [hl];simp [Eh,k,Rc]⟩
    case st1=>(unfold Ag;rw [if_pos ⟨c11,c13⟩,List.map_append,eS];rfl)
   ·obtain⟨l,nl,rfl,hl⟩:=ds9.ss
    (rename Fr ..=>F9);(rename News ..=>N9)
    (try dsimp only)
    refine hq8 _ _ ?_;refine Bs (x:=x) (tx:=tx) (ys:=ys5) (xs:=xs) (st:=st) (nC:=nC) (cv:=cv) (so:=listOf ((strValues sv).toArray.push (.str (Dm x) tg)) (nS+1)) (nS:=nS+1) (.start (Dm x) (Eh x)) (.ref t9) [(t9,Ae #[.int 0 ?ti1,.str (Dm x) tg,.ref d9]),(d9,dictOf (Bg w.params l) nl)] (sv++[(Dm x,tg)]) F9 N9 ?st2 ?tv2 ?so2 ?sb2 ?nn2 ?ob2 ?nw2 ?hm2 eF sO eL eC off n1 n2 n3 n4 n5 ?o2 ?b2
    case sb2=>walk_at "l_mem"
    case nn2=>walk_at "l_mem"
    case ob2=>(walk_at "l_sub")
    case nw2=>(exact Fc ⟨by first | assumption | exact Ne.symm (by assumption),by first | assumption | exact Ne.symm (by assumption),by first | assumption | exact Ne.symm (by assumption),by first | assumption | exact Ne.symm (by assumption),by first | assumption | exact Ne.symm (by assumption)⟩ (Fc ⟨by first | assumption | exact Ne.symm (by assumption),by first | assumption | exact Ne.symm (by assumption),by first | assumption | exact Ne.symm (by assumption),by first | assumption | exact Ne.symm (by assumption),by first | assumption | exact Ne.symm (by assumption)⟩ (List.forall_mem_nil _)))
    case hm2=>(intro y h1 h2 h3 h4 h5;repeat' (first | exact Ca h1 h2 h3 h4 h5 | refine(if_neg (by assumption)).trans ?_))
    case o2=>exact o1
    case b2=>exact b1
    case so2=>simp [strValues]
    case tv2=>exact⟨t9,_,_,d9,nl,l,rfl,.head _,.tail _ (.head _),ld9,by rw [hl];simp [Eh,k,Rc]⟩
    case st2=>(unfold Ag;rw [if_pos ⟨c11,c13⟩,List.map_append,eS];rfl)
   ·obtain⟨l,nl,rfl,hl⟩:=ds9.ss
    (rename Fr ..=>F9);(rename News ..=>N9)
    (try dsimp only)
    refine hq8 _ _ ?_;refine Bs (x:=x) (tx:=tx) (ys:=ys5) (xs:=xs) (st:=st) (nC:=nC) (cv:=cv) (so:=listOf ((strValues sv).toArray.push (.str (Dm x) tg)) (nS+1)) (nS:=nS+1) (.start (Dm x) (Eh x)) (.ref t9) [(t9,Ae #[.int 0 ?ti2,.str (Dm x) tg,.ref d9]),(d9,dictOf (Bg w.params l) nl)] (sv++[(Dm x,tg)]) F9 N9 ?st3 ?tv3 ?so3 ?sb3 ?nn3 ?ob3 ?nw3 ?hm3 eF sO eL eC off n1 n2 n3 n4 n5 ?o3 ?b3
    case sb3=>walk_at "l_mem"
    case nn3=>walk_at "l_mem"
    case ob3=>(walk_at "l_sub")
    case nw3=>(exact Fc ⟨by first | assumption | exact Ne.symm (by assumption),by first | assumption | exact Ne.symm (by assumption),by first | assumption | exact Ne.symm (by assumption),by first | assumption | exact Ne.symm (by assumption),by first | assumption | exact Ne.symm (by assumption)⟩ (Fc ⟨by first | assumption | exact Ne.symm (by assumption),by first | assumption | exact Ne.symm (by assumption),by first | assumption | exact Ne.symm (by assumption),by first | assumption | exact Ne.symm (by assumption),by first | assumption | exact Ne.symm (by assumption)⟩ (List.forall_mem_nil _)))
    case hm3=>(intro y h1 h2 h3 h4 h5;repeat' (first | exact Ca h1 h2 h3 h4 h5 | refine(if_neg (by assumption)).trans ?_))
    case o3=>exact o1
    case b3=>exact b1
    case so3=>simp [strValues]
    case tv3=>exact⟨t9,_,_,d9,nl,l,rfl,.head _,.tail _ (.head _),ld9,by rw [hl];simp [Eh,k,Rc]⟩
    case st3=>(unfold Ag;rw [if_pos ⟨c11,c13⟩,List.map_append,eS];rfl)
  by_cases c2:x % 8<5∧1<st.2.length
  ·have hsn:∃ a b,sv=a++[b]:=Bz (by exact(Nl fun hn1=>fk [_,_] (.e V0 V1 (.e (.s K1) V0 (.e (.s V1) K1 K0))) rfl (Es zd) c2.2 hn1))
   revert hsn;refine Fw ?_;walk_at "eps2";rename_i sv0 y;rintro rfl
   have esv:strValues (sv0++[y])=strValues sv0++[.str y.1 y.2]:=by simp [strValues]
   rw [esv] at N9 hszS
   have hlen2:sv0.length+1=st.2.length:=by rw [← zd];simp
   have hszP:(strValues sv0).length+1≤sizeLine:=by rw [sizeLine_eq];simp only [strValues,List.length_map];exact(Nl fun hn1=>fk [_,_] (.e V0 (.k 7) (.e (.s V1) V0 (.e (.s (.k 16777216)) (.s V1) K0))) rfl hf (El hlen2) hn1)
   have c21:=c2.1
   have c22:((strValues sv0++[Value.str y.1 y.2]).toArray.size:Int) > 1:=by simp only [strValues,List.size_toArray,List.length_map,List.length_append,List.length_cons,List.length_nil];lia
   rcases (Classical.em (x % 8<3)).imp_left (fun c3=>And.intro c3 (show ¬ ((strValues sv0++[Value.str y.1 y.2]).toArray.size:Int)<7 from by simp only [strValues,List.size_toArray,List.length_map,List.length_append,List.length_cons,List.length_nil];lia)) with ⟨c3,c31⟩ | c3
   all_goals repeat' (first
    | ((with_reducible show (if _=true then _ else _));first | refine ite_pos (decide_eq_true (by with_reducible assumption)) ?_ | refine ite_neg (ne_true_of_eq_false (decide_eq_false (by with_reducible assumption))) ?_)
    | ((with_reducible show wpAny _ _ (call (Value.builtin "len") [Value.ref sd]) _ _ _);refine PyProof.Rows.len_list (items:=(strValues sv0++[Value.str y.1 y.2]).toArray) (by exact⟨_,News.get (by k_asm) (by k_mem),rfl,_,rfl⟩) hszS ?_;(try dsimp only))
    | ((with_reducible show wpAny _ _ (newList _) _ _ _);(rename Fr ..=>F9);(rename News ..=>N9);refine newList_K F9 N9 ?_ (by rw [sizeLine_eq];exact Nat.le_of_ble_eq_true rfl);clear F9 N9;walk_at "eps2";rename_i l9 h9;intro F9 N9 lt9;have z1:cl≠l9:=Nat.ne_of_lt (lt9 (cl,_) (by k_mem));have z2:sd≠l9:=Nat.ne_of_lt (lt9 (sd,_) (by k_mem));have z3:ur≠l9:=Nat.ne_of_lt (lt9 (ur,_) (by k_mem));have z4:src≠l9:=Nat.ne_of_lt (lt9 (src,_) (by k_mem));have z5:I≠l9:=Nat.ne_of_lt (lt9 (I,_) (by k_mem));have z6:∀ q∈ob,q.1≠l9:=fun q hq=>Nat.ne_of_lt (lt9 q (by repeat' (first | exact hq | refine List.Mem.tail _ ?_)));(try dsimp only))
    | ((with_reducible show wpAny _ _ (newTuple _) _ _ _);(rename Fr ..=>F9);(rename News ..=>N9);refine kup_newTuple F9 N9 ?_ (by rw [sizeLine_eq];exact Nat.le_of_ble_eq_true rfl);clear F9 N9;walk_at "eps2";rename_i t9 h9;intro F9 N9 lt9;have z1:cl≠t9:=Nat.ne_of_lt (lt9 (cl,_) (by k_mem));have z2:sd≠t9:=Nat.ne_of_lt (lt9 (sd,_) (by k_mem));have z3:ur≠t9:=Nat.ne_of_lt (lt9 (ur,_) (by k_mem));have z4:src≠t9:=Nat.ne_of_lt (lt9 (src,_) (by k_mem));have z5:I≠t9:=Nat.ne_of_lt (lt9 (I,_) (by k_mem));have z6:∀ q∈ob,q.1≠t9:=fun q hq=>Nat.ne_of_lt (lt9 q (by repeat' (first | exact hq | refine List.Mem.tail _ ?_)));(try dsimp only))
    | ((with_reducible show wpAny _ _ (call (.builtin "list.append") [.ref cl,_]) _ _ _);(rename Fr ..=>F9);(rename News ..=>N9);refine append_K F9 N9 (by walk_at "l_upd") ?_ hszC;clear F9 N9;walk_at "eps";rename_i h9;intro F9 N9;(try k_sweep))
    | ((with_reducible show wpAny _ _ (call (.builtin "list.pop") [.ref sd]) _ _ _);(rename Fr ..=>F9);(rename News ..=>N9);refine Sf F9 N9 (by walk_at "l_upd") hszP ?_;clear F9 N9;walk_at "eps";rename_i h9;intro F9 N9;(try dsimp only))
    | ((try ((with_reducible show wpAny _ _ (execs _ _) _ _ _);(conv=>(arg 6;dsimp only))));(fail_if_success (with_reducible show wpAny _ _ (setItem _ _ _) _ _ _));(fail_if_success (with_reducible show wpAny _ _ (subscriptTail _ _ _ _) _ _ _));walk_at "go"))
   ·(rename Fr ..=>F9);(rename News ..=>N9)
    (try dsimp only)
    refine hq8 _ _ ?_;refine Bs (x:=x) (tx:=tx) (ys:=ys5) (xs:=xs) (st:=st) (nC:=nC) (cv:=cv) (so:=listOf (strValues sv0).toArray (nS+1)) (nS:=nS+1) (.stop y.1) (.ref t9) [(t9,Ae #[.int 1 ?_,.str y.1 y.2,.none])] (sv0) F9 N9 ?st4 ?tv4 ?so4 ?sb4 ?nn4 ?ob4 ?nw4 ?hm4 eF sO eL eC off n1 n2 n3 n4 n5 ?o4 ?b4
    case sb4=>walk_at "l_mem"
    case nn4=>walk_at "l_mem"
    case ob4=>(walk_at "l_sub")
    case nw4=>(exact Fc ⟨by first | assumption | exact Ne.symm (by assumption),by first | assumption | exact Ne.symm (by assumption),by first | assumption | exact Ne.symm (by assumption),by first | assumption | exact Ne.symm (by assumption),by first | assumption | exact Ne.symm (by assumption)⟩ (List.forall_mem_nil _))
    case hm4=>(intro y h1 h2 h3 h4 h5;repeat' (first | exact Ca h1 h2 h3 h4 h5 | refine(if_neg (by assumption)).trans ?_))
    case o4=>exact o1
    case b4=>exact b1
    case so4=>simp [strValues]
    case tv4=>exact⟨t9,_,_,rfl,.head _⟩
    case st4=>(unfold Ag;rw [if_neg c1,if_pos c2,← eS];simp)
   ·(rename Fr ..=>F9);(rename News ..=>N9)
    (try dsimp only)
    refine hq8 _ _ ?_;refine Bs (x:=x) (tx:=tx) (ys:=ys5) (xs:=xs) (st:=st) (nC:=nC) (cv:=cv) (so:=listOf (strValues sv0).toArray (nS+1)) (nS:=nS+1) (.stop y.1) (.ref t9) [(t9,Ae #[.int 1 ?_,.str y.1 y.2,.none])] (sv0) F9 N9 ?st5 ?tv5 ?so5 ?sb5 ?nn5 ?ob5 ?nw5 ?hm5 eF sO eL eC off n1 n2 n3 n4 n5 ?o5 ?b5
    case sb5=>walk_at "l_mem"
    case nn5=>walk_at "l_mem"
    case ob5=>(walk_at "l_sub")
    case nw5=>(exact Fc ⟨by first | assumption | exact Ne.symm (by assumption),by first | assumption | exact Ne.symm (by assumption),by first | assumption | exact Ne.symm (by assumption),by first | assumption | exact Ne.symm (by assumption),by first | assumption | exact Ne.symm (by assumption)⟩ (List.forall_mem_nil _))
    case hm5=>(intro y h1 h2 h3 h4 h5;repeat' (first | exact Ca h1 h2 h3 h4 h5 | refine(if_neg (by assumption)).trans ?_))
    case o5=>exact o1
    case b5=>exact b1
    case so5=>simp [strValues]
    case tv5=>exact⟨t9,_,_,rfl,.head _⟩
    case st5=>(unfold Ag;rw [if_neg c1,if_pos c2,← eS];simp)
  by_cases c4:x % 8=6
  ·have c41:¬ x % 8<3:=by lia
   have c42:¬ x % 8<5:=by lia
   rcases (by lia:x / 8 % 2=0∨x / 8 % 2=1).imp (fun k=>And.intro k (show (3+(x / 8).fmod 2:Int)=3 from by rw [Oq _ (by decide),k];rfl)) (fun k=>And.intro k (show (3+(x / 8).fmod 2:Int)=4 from by rw [Oq _ (by decide),k];rfl)) with ⟨k,e3⟩ | ⟨k,e3⟩
   all_goals repeat' (first
     | ((with_reducible show (if _=true then _ else _));first | refine ite_pos (decide_eq_true (by with_reducible assumption)) ?_ | refine ite_neg (ne_true_of_eq_false (decide_eq_false (by with_reducible assumption))) ?_)
     | ((with_reducible show wpAny _ _ (call (.builtin "len") [.ref sd]) _ _ _);refine PyProof.Rows.len_list (items:=(strValues sv).toArray) (by exact⟨_,News.get (by k_asm) (by k_mem),rfl,_,rfl⟩) hszS ?_;(try dsimp only))
     | ((with_reducible show wpAny _ _ (callWith _ (.builtin _) [_] _ _) _ _ _);refine callWith_method1 ?_;(try dsimp only))
     | ((with_reducible show wpAny _ _ (newList _) _ _ _);(rename Fr ..=>F9);(rename News ..=>N9);refine newList_K F9 N9 ?_ (by rw [sizeLine_eq];exact Nat.le_of_ble_eq_true rfl);clear F9 N9;walk_at "eps2";rename_i l9 h9;intro F9 N9 lt9;have z1:cl≠l9:=Nat.ne_of_lt (lt9 (cl,_) (by k_mem));have z2:sd≠l9:=Nat.ne_of_lt (lt9 (sd,_) (by k_mem));have z3:ur≠l9:=Nat.ne_of_lt (lt9 (ur,_) (by k_mem));have z4:src≠l9:=Nat.ne_of_lt (lt9 (src,_) (by k_mem));have z5:I≠l9:=Nat.ne_of_lt (lt9 (I,_) (by k_mem));have z6:∀ q∈ob,q.1≠l9:=fun q hq=>Nat.ne_of_lt (lt9 q (by repeat' (first | exact hq | refine List.Mem.tail _ ?_)));(try dsimp only))
     | ((with_reducible show wpAny _ _ (newTuple _) _ _ _);(rename Fr ..=>F9);(rename News ..=>N9);refine kup_newTuple F9 N9 ?_ (by rw [sizeLine_eq];exact Nat.le_of_ble_eq_true rfl);clear F9 N9;walk_at "eps2";rename_i t9 h9;intro F9 N9 lt9;have z1:cl≠t9:=Nat.ne_of_lt (lt9 (cl,_) (by k_mem));have z2:sd≠t9:=Nat.ne_of_lt (lt9 (sd,_) (by k_mem));have z3:ur≠t9:=Nat.ne_of_lt (lt9 (ur,_) (by k_mem));have z4:src≠t9:=Nat.ne_of_lt (lt9 (src,_) (by k_mem));have z5:I≠t9:=Nat.ne_of_lt (lt9 (I,_) (by k_mem));have z6:∀ q∈ob,q.1≠t9:=fun q hq=>Nat.ne_of_lt (lt9 q (by repeat' (first | exact hq | refine List.Mem.tail _ ?_)));(try dsimp only))
     | ((with_reducible show wpAny _ _ (call (.builtin "list.append") [.ref cl,_]) _ _ _);(rename Fr ..=>F9);(rename News ..=>N9);refine append_K F9 N9 (by walk_at "l_upd") ?_ hszC;clear F9 N9;walk_at "eps";rename_i h9;intro F9 N9;(try k_sweep))
     | ((with_reducible show wpAny _ _ (subscriptTail _ _ (.ref l9) (.int (Int.fmod _ 3) _)) _ _ _);(rename News ..=>N9);refine Ct ["urn:a","urn:b","http://www.w3.org/2001/XMLSchema"] (by exact⟨_,(N9 _ (.head _)).1,rfl,_,rfl⟩) (by exact⟨[(_,_),(_,_),(_,_)],rfl,rfl⟩) (by decide) (by exact rfl) (by decide) ?_;walk_at "eps";rename_i tw;(try dsimp only))
     | ((with_reducible show wpAny _ _ (subscriptTail _ _ (.ref l9) (.int (Int.fmod _ 4) _)) _ _ _);(rename News ..=>N9);refine Ct ["","p","q","z"] (by exact⟨_,(N9 _ (.head _)).1,rfl,_,rfl⟩) (by exact⟨[(_,_),(_,_),(_,_),(_,_)],rfl,rfl⟩) (by decide) (by exact rfl) (by decide) ?_;walk_at "eps";rename_i tv;(try dsimp only))
     | ((with_reducible show wpAny _ _ (subscriptTail _ _ (.ref l9) (.int (Int.fmod _ 5) _)) _ _ _);(rename News ..=>N9);refine Ct ["t"," "," u","&",""] (by exact⟨_,(N9 _ (.head _)).1,rfl,_,rfl⟩) (by exact⟨[(_,_),(_,_),(_,_),(_,_),(_,_)],rfl,rfl⟩) (by decide) (by exact rfl) (by decide) ?_;walk_at "eps";rename_i tv;(try dsimp only))
     | ((try ((with_reducible show wpAny _ _ (execs _ _) _ _ _);(conv=>(arg 6;dsimp only))));(fail_if_success (with_reducible show wpAny _ _ (setItem _ _ _) _ _ _));(fail_if_success (with_reducible show wpAny _ _ (subscriptTail _ _ _ _) _ _ _));walk_at "go"))
   ·(rename Fr ..=>F9);(rename News ..=>N9)
    (try dsimp only)
    refine hq8 _ _ ?_;refine Bs (x:=x) (tx:=tx) (ys:=ys5) (xs:=xs) (st:=st) (nC:=nC) (cv:=cv) (so:=listOf (strValues sv).toArray nS) (nS:=nS) (.comment "c") (.ref t9) [(t9,Ae #[.int (3+(x / 8).fmod 2) ?_,.str "c" ?_,.none])] (sv) F9 N9 ?st6 ?tv6 ?so6 ?sb6 ?nn6 ?ob6 ?nw6 ?hm6 eF sO eL eC off n1 n2 n3 n4 n5 ?o6 ?b6
    case sb6=>walk_at "l_mem"
    case nn6=>walk_at "l_mem"
    case ob6=>(walk_at "l_sub")
    case nw6=>(exact Fc ⟨by first | assumption | exact Ne.symm (by assumption),by first | assumption | exact Ne.symm (by assumption),by first | assumption | exact Ne.symm (by assumption),by first | assumption | exact Ne.symm (by assumption),by first | assumption | exact Ne.symm (by assumption)⟩ (List.forall_mem_nil _))
    case hm6=>(intro y h1 h2 h3 h4 h5;repeat' (first | exact Ca h1 h2 h3 h4 h5 | refine(if_neg (by assumption)).trans ?_))
    case o6=>exact o1
    case b6=>exact b1
    case so6=>simp [strValues]
    case tv6=>exact⟨t9,_,_,rfl,by rw [e3];exact .head _⟩
    case st6=>(unfold Ag;rw [if_neg c1,if_neg c2,if_pos c4,if_pos k,eS])
   ·(rename Fr ..=>F9);(rename News ..=>N9)
    (try dsimp only)
    refine hq8 _ _ ?_;refine Bs (x:=x) (tx:=tx) (ys:=ys5) (xs:=xs) (st:=st) (nC:=nC) (cv:=cv) (so:=listOf (strValues sv).toArray nS) (nS:=nS) (.pi "c") (.ref t9) [(t9,Ae #[.int (3+(x / 8).fmod 2) ?_,.str "c" ?_,.none])] (sv) F9 N9 ?st7 ?tv7 ?so7 ?sb7 ?nn7 ?ob7 ?nw7 ?hm7 eF sO eL eC off n1 n2 n3 n4 n5 ?o7 ?b7
    case sb7=>walk_at "l_mem"
    case nn7=>walk_at "l_mem"
    case ob7=>(walk_at "l_sub")
    case nw7=>(exact Fc ⟨by first | assumption | exact Ne.symm (by assumption),by first | assumption | exact Ne.symm (by assumption),by first | assumption | exact Ne.symm (by assumption),by first | assumption | exact Ne.symm (by assumption),by first | assumption | exact Ne.symm (by assumption)⟩ (List.forall_mem_nil _))
    case hm7=>(intro y h1 h2 h3 h4 h5;repeat' (first | exact Ca h1 h2 h3 h4 h5 | refine(if_neg (by assumption)).trans ?_))
    case o7=>exact o1
    case b7=>exact b1
    case so7=>simp [strValues]
    case tv7=>exact⟨t9,_,_,rfl,by rw [e3];exact .head _⟩
    case st7=>(unfold Ag;rw [if_neg c1,if_neg c2,if_pos c4,if_neg (by lia),eS])
  by_cases c5:x % 8=7
  ·have c41:¬ x % 8<3:=by lia
   have c42:¬ x % 8<5:=by lia
   rcases (Classical.em (x / 8 % 5=0)).imp (fun k=>And.intro k (show (x / 8).fmod 5=0 from by rw [Oq _ (by decide),k])) (fun k=>And.intro k (show ¬ (x / 8).fmod 5=0 from by rw [Oq _ (by decide)];exact k)) with ⟨k,k'⟩ | ⟨k,k'⟩
   all_goals repeat' (first
     | ((with_reducible show (if _=true then _ else _));first | refine ite_pos (decide_eq_true (by with_reducible assumption)) ?_ | refine ite_neg (ne_true_of_eq_false (decide_eq_false (by with_reducible assumption))) ?_)
     | ((with_reducible show wpAny _ _ (call (.builtin "len") [.ref sd]) _ _ _);refine PyProof.Rows.len_list (items:=(strValues sv).toArray) (by exact⟨_,News.get (by k_asm) (by k_mem),rfl,_,rfl⟩) hszS ?_;(try dsimp only))
     | ((with_reducible show wpAny _ _ (callWith _ (.builtin _) [_] _ _) _ _ _);refine callWith_method1 ?_;(try dsimp only))
     | ((with_reducible show wpAny _ _ (newList _) _ _ _);(rename Fr ..=>F9);(rename News ..=>N9);refine newList_K F9 N9 ?_ (by rw [sizeLine_eq];exact Nat.le_of_ble_eq_true rfl);clear F9 N9;walk_at "eps2";rename_i l9 h9;intro F9 N9 lt9;have z1:cl≠l9:=Nat.ne_of_lt (lt9 (cl,_) (by k_mem));have z2:sd≠l9:=Nat.ne_of_lt (lt9 (sd,_) (by k_mem));have z3:ur≠l9:=Nat.ne_of_lt (lt9 (ur,_) (by k_mem));have z4:src≠l9:=Nat.ne_of_lt (lt9 (src,_) (by k_mem));have z5:I≠l9:=Nat.ne_of_lt (lt9 (I,_) (by k_mem));have z6:∀ q∈ob,q.1≠l9:=fun q hq=>Nat.ne_of_lt (lt9 q (by repeat' (first | exact hq | refine List.Mem.tail _ ?_)));(try dsimp only))
     | ((with_reducible show wpAny _ _ (newTuple _) _ _ _);(rename Fr ..=>F9);(rename News ..=>N9);refine kup_newTuple F9 N9 ?_ (by rw [sizeLine_eq];exact Nat.le_of_ble_eq_true rfl);clear F9 N9;walk_at "eps2";rename_i t9 h9;intro F9 N9 lt9;have z1:cl≠t9:=Nat.ne_of_lt (lt9 (cl,_) (by k_mem));have z2:sd≠t9:=Nat.ne_of_lt (lt9 (sd,_) (by k_mem));have z3:ur≠t9:=Nat.ne_of_lt (lt9 (ur,_) (by k_mem));have z4:src≠t9:=Nat.ne_of_lt (lt9 (src,_) (by k_mem));have z5:I≠t9:=Nat.ne_of_lt (lt9 (I,_) (by k_mem));have z6:∀ q∈ob,q.1≠t9:=fun q hq=>Nat.ne_of_lt (lt9 q (by repeat' (first | exact hq | refine List.Mem.tail _ ?_)));(try dsimp only))
     | ((with_reducible show wpAny _ _ (call (.builtin "list.append") [.ref cl,_]) _ _ _);(rename Fr ..=>F9);(rename News ..=>N9);refine append_K F9 N9 (by walk_at "l_upd") ?_ hszC;clear F9 N9;walk_at "eps";rename_i h9;intro F9 N9;(try k_sweep))
     | ((with_reducible show wpAny _ _ (subscriptTail _ _ (.ref l9) (.int (Int.fmod _ 3) _)) _ _ _);(rename News ..=>N9);refine Ct ["urn:a","urn:b","http://www.w3.org/2001/XMLSchema"] (by exact⟨_,(N9 _ (.head _)).1,rfl,_,rfl⟩) (by exact⟨[(_,_),(_,_),(_,_)],rfl,rfl⟩) (by decide) (by exact rfl) (by decide) ?_;walk_at "eps";rename_i tw;(try dsimp only))
     | ((with_reducible show wpAny _ _ (subscriptTail _ _ (.ref l9) (.int (Int.fmod _ 4) _)) _ _ _);(rename News ..=>N9);refine Ct ["","p","q","z"] (by exact⟨_,(N9 _ (.head _)).1,rfl,_,rfl⟩) (by exact⟨[(_,_),(_,_),(_,_),(_,_)],rfl,rfl⟩) (by decide) (by exact rfl) (by decide) ?_;walk_at "eps";rename_i tv;(try dsimp only))
     | ((with_reducible show wpAny _ _ (subscriptTail _ _ (.ref l9) (.int (Int.fmod _ 5) _)) _ _ _);(rename News ..=>N9);refine Ct ["t"," "," u","&",""] (by exact⟨_,(N9 _ (.head _)).1,rfl,_,rfl⟩) (by exact⟨[(_,_),(_,_),(_,_),(_,_),(_,_)],rfl,rfl⟩) (by decide) (by exact rfl) (by decide) ?_;walk_at "eps";rename_i tv;(try dsimp only))
     | ((try ((with_reducible show wpAny _ _ (execs _ _) _ _ _);(conv=>(arg 6;dsimp only))));(fail_if_success (with_reducible show wpAny _ _ (setItem _ _ _) _ _ _));(fail_if_success (with_reducible show wpAny _ _ (subscriptTail _ _ _ _) _ _ _));walk_at "go"))
   ·(rename Fr ..=>F9);(rename News ..=>N9)
    (try dsimp only)
    refine hq8 _ _ ?_;refine Bs (x:=x) (tx:=tx) (ys:=ys5) (xs:=xs) (st:=st) (nC:=nC) (cv:=cv) (so:=listOf (strValues sv).toArray nS) (nS:=nS) (.sns "" "") (.ref t9) [(t9,Ae #[.int 5 ?_,.str "" ?_,.str "" ?_])] (sv) F9 N9 ?st8 ?tv8 ?so8 ?sb8 ?nn8 ?ob8 ?nw8 ?hm8 eF sO eL eC off n1 n2 n3 n4 n5 ?o8 ?b8
    case sb8=>walk_at "l_mem"
    case nn8=>walk_at "l_mem"
    case ob8=>(walk_at "l_sub")
    case nw8=>(exact Fc ⟨by first | assumption | exact Ne.symm (by assumption),by first | assumption | exact Ne.symm (by assumption),by first | assumption | exact Ne.symm (by assumption),by first | assumption | exact Ne.symm (by assumption),by first | assumption | exact Ne.symm (by assumption)⟩ (List.forall_mem_nil _))
    case hm8=>(intro y h1 h2 h3 h4 h5;repeat' (first | exact Ca h1 h2 h3 h4 h5 | refine(if_neg (by assumption)).trans ?_))
    case o8=>exact o1
    case b8=>exact b1
    case so8=>simp [strValues]
    case tv8=>exact⟨t9,_,_,_,rfl,.head _⟩
    case st8=>(unfold Ag;rw [if_neg c1,if_neg c2,if_neg c4,if_pos ⟨c5,k⟩,eS])
   ·(rename Fr ..=>F9);(rename News ..=>N9)
    (try dsimp only)
    refine hq8 _ _ ?_;refine Bs (x:=x) (tx:=tx) (ys:=ys5) (xs:=xs) (st:=st) (nC:=nC) (cv:=cv) (so:=listOf (strValues sv).toArray nS) (nS:=nS) (.sns (pick Str.empty ["","p","q","z"] ((x / 8).fdiv 3 % 4)) (pick Str.empty ["urn:a","urn:b","http://www.w3.org/2001/XMLSchema"] (x / 8 % 3))) (.ref t9) [(t9,Ae #[.int 5 ?_,.str (pick Str.empty ["","p","q","z"] ((x / 8).fdiv 3 % 4)) ?_,.str (pick Str.empty ["urn:a","urn:b","http://www.w3.org/2001/XMLSchema"] (x / 8 % 3)) ?_])] (sv) F9 N9 ?st9 ?tv9 ?so9 ?sb9 ?nn9 ?ob9 ?nw9 ?hm9 eF sO eL eC off n1 n2 n3 n4 n5 ?o9 ?b9
    case sb9=>walk_at "l_mem"
    case nn9=>walk_at "l_mem"
    case ob9=>(walk_at "l_sub")
    case nw9=>(exact Fc ⟨by first | assumption | exact Ne.symm (by assumption),by first | assumption | exact Ne.symm (by assumption),by first | assumption | exact Ne.symm (by assumption),by first | assumption | exact Ne.symm (by assumption),by first | assumption | exact Ne.symm (by assumption)⟩ (List.forall_mem_nil _))
    case hm9=>(intro y h1 h2 h3 h4 h5;repeat' (first | exact Ca h1 h2 h3 h4 h5 | refine(if_neg (by assumption)).trans ?_))
    case o9=>exact o1
    case b9=>exact b1
    case so9=>simp [strValues]
    case tv9=>exact⟨t9,_,_,_,rfl,.head _⟩
    case st9=>(unfold Ag;rw [if_neg c1,if_neg c2,if_neg c4,if_neg (fun z=>k z.2),if_pos c5,eS,Rc _ (by decide)])
  have c61:¬ x % 8<3:=by lia
  rcases (Classical.em (x % 8<5)).imp_left (fun c6=>And.intro c6 (show ¬ ((strValues sv).toArray.size:Int) > 1 from by simp only [strValues,List.size_toArray,List.length_map];lia)) with ⟨c6,c62⟩ | c6
  all_goals repeat' (first
   | ((with_reducible show (if _=true then _ else _));first | refine ite_pos (decide_eq_true (by with_reducible assumption)) ?_ | refine ite_neg (ne_true_of_eq_false (decide_eq_false (by with_reducible assumption))) ?_)
   | ((with_reducible show wpAny _ _ (call (.builtin "len") [.ref sd]) _ _ _);refine PyProof.Rows.len_list (items:=(strValues sv).toArray) (by exact⟨_,News.get (by k_asm) (by k_mem),rfl,_,rfl⟩) hszS ?_;(try dsimp only))
   | ((with_reducible show wpAny _ _ (callWith _ (.builtin _) [_] _ _) _ _ _);refine callWith_method1 ?_;(try dsimp only))
   | ((with_reducible show wpAny _ _ (newList _) _ _ _);(rename Fr ..=>F9);(rename News ..=>N9);refine newList_K F9 N9 ?_ (by rw [sizeLine_eq];exact Nat.le_of_ble_eq_true rfl);clear F9 N9;walk_at "eps2";rename_i l9 h9;intro F9 N9 lt9;have z1:cl≠l9:=Nat.ne_of_lt (lt9 (cl,_) (by k_mem));have z2:sd≠l9:=Nat.ne_of_lt (lt9 (sd,_) (by k_mem));have z3:ur≠l9:=Nat.ne_of_lt (lt9 (ur,_) (by k_mem));have z4:src≠l9:=Nat.ne_of_lt (lt9 (src,_) (by k_mem));have z5:I≠l9:=Nat.ne_of_lt (lt9 (I,_) (by k_mem));have z6:∀ q∈ob,q.1≠l9:=fun q hq=>Nat.ne_of_lt (lt9 q (by repeat' (first | exact hq | refine List.Mem.tail _ ?_)));(try dsimp only))
   | ((with_reducible show wpAny _ _ (newTuple _) _ _ _);(rename Fr ..=>F9);(rename News ..=>N9);refine kup_newTuple F9 N9 ?_ (by rw [sizeLine_eq];exact Nat.le_of_ble_eq_true rfl);clear F9 N9;walk_at "eps2";rename_i t9 h9;intro F9 N9 lt9;have z1:cl≠t9:=Nat.ne_of_lt (lt9 (cl,_) (by k_mem));have z2:sd≠t9:=Nat.ne_of_lt (lt9 (sd,_) (by k_mem));have z3:ur≠t9:=Nat.ne_of_lt (lt9 (ur,_) (by k_mem));have z4:src≠t9:=Nat.ne_of_lt (lt9 (src,_) (by k_mem));have z5:I≠t9:=Nat.ne_of_lt (lt9 (I,_) (by k_mem));have z6:∀ q∈ob,q.1≠t9:=fun q hq=>Nat.ne_of_lt (lt9 q (by repeat' (first | exact hq | refine List.Mem.tail _ ?_)));(try dsimp only))
   | ((with_reducible show wpAny _ _ (call (.builtin "list.append") [.ref cl,_]) _ _ _);(rename Fr ..=>F9);(rename News ..=>N9);refine append_K F9 N9 (by walk_at "l_upd") ?_ hszC;clear F9 N9;walk_at "eps";rename_i h9;intro F9 N9;(try k_sweep))
   | ((with_reducible show wpAny _ _ (subscriptTail _ _ (.ref l9) (.int (Int.fmod _ 3) _)) _ _ _);(rename News ..=>N9);refine Ct ["urn:a","urn:b","http://www.w3.org/2001/XMLSchema"] (by exact⟨_,(N9 _ (.head _)).1,rfl,_,rfl⟩) (by exact⟨[(_,_),(_,_),(_,_)],rfl,rfl⟩) (by decide) (by exact rfl) (by decide) ?_;walk_at "eps";rename_i tw;(try dsimp only))
   | ((with_reducible show wpAny _ _ (subscriptTail _ _ (.ref l9) (.int (Int.fmod _ 4) _)) _ _ _);(rename News ..=>N9);refine Ct ["","p","q","z"] (by exact⟨_,(N9 _ (.head _)).1,rfl,_,rfl⟩) (by exact⟨[(_,_),(_,_),(_,_),(_,_)],rfl,rfl⟩) (by decide) (by exact rfl) (by decide) ?_;walk_at "eps";rename_i tv;(try dsimp only))
   | ((with_reducible show wpAny _ _ (subscriptTail _ _ (.ref l9) (.int (Int.fmod _ 5) _)) _ _ _);(rename News ..=>N9);refine Ct ["t"," "," u","&",""] (by exact⟨_,(N9 _ (.head _)).1,rfl,_,rfl⟩) (by exact⟨[(_,_),(_,_),(_,_),(_,_),(_,_)],rfl,rfl⟩) (by decide) (by exact rfl) (by decide) ?_;walk_at "eps";rename_i tv;(try dsimp only))
   | ((try ((with_reducible show wpAny _ _ (execs _ _) _ _ _);(conv=>(arg 6;dsimp only))));(fail_if_success (with_reducible show wpAny _ _ (setItem _ _ _) _ _ _));(fail_if_success (with_reducible show wpAny _ _ (subscriptTail _ _ _ _) _ _ _));walk_at "go"))
  ·(rename Fr ..=>F9);(rename News ..=>N9)
   (try dsimp only)
   refine hq8 _ _ ?_;refine Bs (x:=x) (tx:=tx) (ys:=ys5) (xs:=xs) (st:=st) (nC:=nC) (cv:=cv) (so:=listOf (strValues sv).toArray nS) (nS:=nS) (.data (pick Str.empty ["t"," "," u","&",""] (x / 8 % 5))) (.ref t9) [(t9,Ae #[.int 2 ?_,.str (pick Str.empty ["t"," "," u","&",""] (x / 8 % 5)) ?_,.none])] (sv) F9 N9 ?st10 ?tv10 ?so10 ?sb10 ?nn10 ?ob10 ?nw10 ?hm10 eF sO eL eC off n1 n2 n3 n4 n5 ?o10 ?b10
   case sb10=>walk_at "l_mem"
   case nn10=>walk_at "l_mem"
   case ob10=>(walk_at "l_sub")
   case nw10=>(exact Fc ⟨by first | assumption | exact Ne.symm (by assumption),by first | assumption | exact Ne.symm (by assumption),by first | assumption | exact Ne.symm (by assumption),by first | assumption | exact Ne.symm (by assumption),by first | assumption | exact Ne.symm (by assumption)⟩ (List.forall_mem_nil _))
   case hm10=>(intro y h1 h2 h3 h4 h5;repeat' (first | exact Ca h1 h2 h3 h4 h5 | refine(if_neg (by assumption)).trans ?_))
   case o10=>exact o1
   case b10=>exact b1
   case so10=>simp [strValues]
   case tv10=>exact⟨t9,_,_,rfl,.head _⟩
   case st10=>(unfold Ag;rw [if_neg c1,if_neg c2,if_neg c4,if_neg (fun z=>c5 z.1),if_neg c5,eS])
  ·(rename Fr ..=>F9);(rename News ..=>N9)
   (try dsimp only)
   refine hq8 _ _ ?_;refine Bs (x:=x) (tx:=tx) (ys:=ys5) (xs:=xs) (st:=st) (nC:=nC) (cv:=cv) (so:=listOf (strValues sv).toArray nS) (nS:=nS) (.data (pick Str.empty ["t"," "," u","&",""] (x / 8 % 5))) (.ref t9) [(t9,Ae #[.int 2 ?_,.str (pick Str.empty ["t"," "," u","&",""] (x / 8 % 5)) ?_,.none])] (sv) F9 N9 ?st11 ?tv11 ?so11 ?sb11 ?nn11 ?ob11 ?nw11 ?hm11 eF sO eL eC off n1 n2 n3 n4 n5 ?o11 ?b11
   case sb11=>walk_at "l_mem"
   case nn11=>walk_at "l_mem"
   case ob11=>(walk_at "l_sub")
   case nw11=>(exact Fc ⟨by first | assumption | exact Ne.symm (by assumption),by first | assumption | exact Ne.symm (by assumption),by first | assumption | exact Ne.symm (by assumption),by first | assumption | exact Ne.symm (by assumption),by first | assumption | exact Ne.symm (by assumption)⟩ (List.forall_mem_nil _))
   case hm11=>(intro y h1 h2 h3 h4 h5;repeat' (first | exact Ca h1 h2 h3 h4 h5 | refine(if_neg (by assumption)).trans ?_))
   case o11=>exact o1
   case b11=>exact b1
   case so11=>simp [strValues]
   case tv11=>exact⟨t9,_,_,rfl,.head _⟩
   case st11=>(unfold Ag;rw [if_neg c1,if_neg c2,if_neg c4,if_neg (fun z=>c5 z.1),if_neg c5,eS])
end
section

def Dis(a b:List (Addr × Obj)):Prop:=∀ p∈a,∀ q∈b,p.1≠q.1
abbrev Lq(tabs:List (Addr × Obj)):Prop:=Eo 116 ⟨136,71,136,96⟩ "C14NWriterTarget._start.<locals>.<lambda>" tabs
theorem Hj{W:World}{A:Around}{E:Value→Shared→Prop}{s:Shared}{g:Heap}{os:OsState}{p:Program}{zw:List Str}{zr:ExcName→Option Value}{mg mb:Str→Option Value}{L:Addr}{m:Str→Option Value}{Q:Value→Shared→Prop}{w:WS}{f:FD}{x ca:Addr}{tabs rest:List (Addr × Obj)}{n:Nat}{c:Told}
  (X:(hd11.heap_39 W.params).In g) (T:Top p zw zr mg mb g) (hh:A.handled=none) (zq:A.depth<500) (hu:A.units<7000) (C116:CodeHd g 118 116) (F:Fr g L s.heap m) (N:News g L s.heap (f.own w x++tabs++rest)) (o1:s.os=os) (b1:AllBare s.gens)
  (hI:f.Is w x) (hT:f.Off x tabs) (hLT:Lq tabs) (hf:Fit n w) (hn:n≤100) (hc:Cw w c) (hca:Bq W rest (.ref ca) c) (dis:Dis (f.own w x++tabs) rest)
  (h:∀ (f':FD) (s':Shared) (zt:List (Addr × Obj)),Lq zt→f'.out=f.out→f'.Is (w.tell c) x→f'.Off x zt→Fr g L s'.heap m→News g L s'.heap (f'.own (w.tell c) x++zt++rest)→Dis (f'.own (w.tell c) x++zt) rest→s'.os=os→AllBare s'.gens→Q .none s') :
  wpAny (model rw_dn0283_11.row.prog W) A (call (.ref 175) [.ref x,.ref ca]) Q E s:=by
 refine As (f.own w x++tabs) rest F N o1 b1 (fun q hq=>Ml _ hq) (fun q hq=>Mr _ hq) (fun q hq z=>?_) fun g₂ H₂ K₂ r₂ back=>?_
 ·obtain⟨q',hq',e⟩:=List.mem_map.mp z
  exact dis q' hq' q hq e
 obtain⟨a,ea,hta⟩:=hca.told r₂
 have ea':ca=a:=by injection ea
 subst ea'
 refine Wt (X.keeps K₂) (T.keeps K₂) H₂ hh zq hu (C116.keeps K₂) hI hT hLT hf hn hc hta fun f' s' zt hLT' ho' hI' hT' H'=>?_
 obtain⟨F',N',o',b'⟩:=back _ _ H'
 refine h f' s' zt hLT' ho' hI' hT' F' N' (fun q hq r hr e=>?_) o' b'
 have z1:=(H'.own q hq).2;rw [e,r₂ r hr] at z1
 cases z1
end
section
open PyProof.Rows.LCg
noncomputable def Ba{α:Type}(ok:α→Bool):Nat→List α→List Int
 | _,[]=>[]
 | i,v::r=>if ok v then(i:Int)::Ba ok (i+1) r else Ba ok (i+1) r
theorem Fx{α:Type}(ok:α→Bool)(v:α):∀ (l:List α) (i:Nat),Ba ok i (l++[v])=Ba ok i l++(if ok v then [((i+l.length:Nat):Int)] else [])
 | [],i=>by simp [Ba]
 | u::l,i=>by
  have e:i+1+l.length=i+(l.length+1):=by exact(Nat.le_antisymm (Nl fun hn2=>fk [_,_] (.e (.a (.a V0 (.s V1)) K1) (.a (.s V0) V1) K0) rfl hn2) (Nl fun hn3=>fk [_,_] (.e (.a (.a (.s V0) V1) K1) (.a V0 (.s V1)) K0) rfl hn3))
  simp only [List.cons_append,Ba,Fx ok v l (i+1),List.length_cons,e]
  split<;>simp
def Pn(ys:List Value)(is:List Int):Prop:=All2 (fun v (i:Int)=>∃ t,v=.int i t) ys is
section
variable{prog:Program}{w:World}{A:Around}{E:Value→Shared→Prop}{s:Shared}{h₀:Heap}{L:Addr}{m:Str→Option Value}{env:Env}{os:OsState}
noncomputable def Ki(w:World)(A:Around)(s₁:Shared)(prog:Program)(E:Value→Shared→Prop)(h₀:Heap)(L:Addr)(m:Str→Option Value)(env:Env)(os:OsState)(iter test:PySem.Expr)(x1 x2:Str)(pe p1 p2 tp pos:Pos)(k:Nat)(scope:Scope)(cl:List (Str × Addr))(en it ax:Addr)(its:Array Value)(news:List (Addr × Obj))(RR:Value→Addr→Result→Shared→Prop):Prop :=
 ∀ (ok:Value→Bool) (hcell:∀ y∈scope.names,y.2≠.cell) (hkind:scope.kind=.function) (hx1:scope.names.lookup x1=some .local) (hx2:scope.names.lookup x2=some .local) (hxx:x1≠x2) (hd1:(x1 == ("__debug__":Str))=false) (hh:A.handled=none) (F:Fr h₀ L s₁.heap m) (N:News h₀ L s₁.heap news) (ho:s₁.os=os) (hb:AllBare s₁.gens) (hen:IsEnum s₁.heap en it 0 .none) (hit:s₁.heap.IsListIter it ax 0) (hei:en≠it) (en0:h₀.get? en=none∧en≠L) (it0:h₀.get? it=none∧it≠L) (off:∀ p∈news,p.1≠en∧p.1≠it) (S:SrcAt h₀ ax its news) (hz:its.size≤1000) (htest:∀ v C oC m₂ (s':Shared) (QT:Bool→Shared→Prop) (E':Value→Shared→Prop),v∈its.toList→NsObj oC m₂→m₂ x2=some v→Fr h₀ L s'.heap m→News h₀ L s'.heap ((C,oC)::news)→(∀ tk,QT (ok v) { s' with toks:=tk })→wpAny (model prog w) A (isTrue test (compEnvC scope cl C env) (eval test (compEnvC scope cl C env))) QT E' s') (hfin:∀ s1 D C ys mC,Pn ys (Ba ok 0 its.toList)→Fr h₀ L s1.heap m→News h₀ L s1.heap ((D,lst ys)::news)→(∀ p∈news,p.1≠D)→s1.heap.Ns C mC→h₀.get? C=none→C≠L→(∀ p∈(D,lst ys)::news,p.1≠C)→s1.os=os→AllBare s1.gens→RR (.ref D) C (.ok .next) s1),wpAny (model prog w) A (pyIter (.ref en)) (fun it s₂=>wpAny (model prog w) A (newList []) (fun acc s₃=>wpAny (model prog w) A (newFunctionEnv scope env.globals cl [] env.qual none .none (some env)) (fun cenv s₄ =>
   codeAny (model prog w) A (.compStart (.ListComp (.Name x1 pe) [⟨.Tuple [.Name x1 p1,.Name x2 p2] k tp,iter,[test],0⟩] scope pos) 0 it acc { cenv with scope:=relabel scope env }) (RR acc cenv.locals) s₄) E s₃) E s₂) E s₁
theorem Vm:∀ {w A s₁ prog E h₀ L m env os iter test x1 x2 pe p1 p2 tp pos k scope cl en it ax its news RR},Ki w A s₁ prog E h₀ L m env os iter test x1 x2 pe p1 p2 tp pos k scope cl en it ax its news RR:=by
 refine @(Ab (Ao neW)<|@(Ab neI<|@(Ab neI<|@(Ed neI<|let_mvar% ?n:=(fun w A s₁ prog E h₀ L m env os iter test x1 x2 pe p1 p2 tp pos k scope cl en it ax its news RR=>?_:∀ a b c d e f g h i j k l m n o p q r s t u v w x y z a1 b1,Ki a b c d e f g h i j k l m n o p q r s t u v w x y z a1 b1);?n _ _ _ _ _ _ _ _ _ _ _ _ _ _ _ _ _ _ _ _ _ _ _ _ _ _ _ _))))
 intro ok hcell hkind hx1 hx2 hxx hd1 hh F N ho hb hen hit hei en0 it0 off S hz htest hfin;refine wpAny_pyIter_enum hen ?_;refine wpAny_newList ?_
 generalize hDeq:s₁.heap.objs.size=D
 have hLD:L<D:=by rw [← hDeq];exact F.ns.lt
 have fresh₀:∀ a,L<a→h₀.get? a=none:=fun a ha=>Heap.get?_none_of_le (Nat.le_trans F.above (Nat.le_of_lt ha))
 have hD2:(s₁.heap.push (lst [])).get? D=some (lst []):=by rw [← hDeq];exact Heap.get?_push_size _ rfl
 have up2:∀ b o,s₁.heap.get? b=some o→(s₁.heap.push (lst [])).get? b=some o:=fun b o e=>Heap.get?_push_of_some _ e
 have hz2:(s₁.heap.push (lst [])).objs.size=D+1:=by rw [Heap.size_push,hDeq]
 generalize hH2:s₁.heap.push (lst [])=H2 at hD2 up2 hz2
 refine wpAny_newFunctionEnv hcell (by intro y hy;simp at hy) (fun h₁ hns₁ hsb₁=>?_) hkind
 dsimp only at hns₁ hsb₁ ⊢;rw [hz2] at hns₁ hsb₁ ⊢
 have up3:∀ b o,H2.get? b=some o→h₁.get? b=some o:=fun b o e=>hsb₁.extBut b o (Nat.ne_of_lt (by have:=Heap.lt_size e;rw [hz2] at this;exact this)) (Heap.get?_push_of_some _ e)
 have up:∀ b o,s₁.heap.get? b=some o→h₁.get? b=some o:=fun b o e=>up3 b o (up2 b o e)
 have hD0:=fresh₀ D hLD;have hC0:=fresh₀ (D+1) (Nat.lt_succ_of_lt hLD);have hDL:D≠L:=Nat.ne_of_gt hLD;have hCL:D+1≠L:=Nat.ne_of_gt (Nat.lt_succ_of_lt hLD)
 have lt1:∀ b o,s₁.heap.get? b=some o→b<D:=fun b o e=>by rw [← hDeq];exact Heap.lt_size e
 have hnD:∀ p∈news,p.1≠D∧p.1≠D+1:=fun p hp=>by
  have:=lt1 _ _ (N p hp).1;exact⟨Nat.ne_of_lt this,Nat.ne_of_lt (Nat.lt_succ_of_lt this)⟩
 have henD:en≠D∧en≠D+1:=by
  have:=lt1 _ _ hen;exact⟨Nat.ne_of_lt this,Nat.ne_of_lt (Nat.lt_succ_of_lt this)⟩
 have hitD:it≠D∧it≠D+1:=by
  obtain⟨o,e1,_⟩:=hit;have:=lt1 _ _ e1;exact⟨Nat.ne_of_lt this,Nat.ne_of_lt (Nat.lt_succ_of_lt this)⟩
 obtain⟨oC,heC,hoC⟩:=ns_obj hns₁;have hen1:IsEnum h₁ en it 0 .none:=up _ _ hen
 have hit1:h₁.IsListIter it ax 0:=by obtain⟨o,e1,r⟩:=hit;exact⟨o,up _ _ e1,r⟩
 have loop:codeAny (model prog w) A (.compLoop (.ListComp (.Name x1 pe) [⟨.Tuple [.Name x1 p1,.Name x2 p2] k tp,iter,[test],0⟩] scope pos) 0 (.ref en) (.ref D) (compEnvC scope cl (D+1) env))
   (RR (.ref D) (D+1)) { s₁ with heap:=h₁,toks:=s₁.toks+([]:List (Str × Value)).length }:=by
  refine kct_loop (fun n s'=>∃ i rem ys oC' mC old,n=rem.length∧its.toList.drop i=rem∧i+rem.length=its.size∧Pn ys (Ba ok 0 (its.toList.take i))∧NsObj oC' mC∧Fr h₀ L s'.heap m∧News h₀ L s'.heap ((D+1,oC')::(D,lst ys)::news) ∧
   IsEnum s'.heap en it (i:Int) old∧s'.heap.IsListIter it ax i∧s'.os=os∧AllBare s'.gens) ?_ its.size
   ⟨0,its.toList,[],oC,_,.none,by simp,rfl,by simp,.nil,hoC,F.keeps up,fun p hp=>?_,hen1,hit1,ho,hb⟩
  ·rintro n s' ⟨i,rem,ys,oC',mC,old,rfl,hrem,zd,hys,hC',F',N',hen',hit',ho',hb'⟩
   have Nn:News h₀ L s'.heap news:=fun p hp=>N' p (.tail _ (.tail _ hp))
   have hl':s'.heap.IsList ax its:=S.list F'.keep Nn
   cases rem with
   | nil =>
    have hi:its.size≤i:=by simp at zd;exact(Es zd)
    refine wpAny_pyNext_enum_end hh hen' hit' hl' (by simp;exact hi) fun h₂ he₂=>?_
    dsimp only
    have et:its.toList.take i=its.toList:=List.take_of_length_le (by simpa using hi)
    rw [et] at hys;have zC:=N' (D+1,oC') (.head _)
    have pit:∀ p∈(D,lst ys)::news,p.1≠it∧p.1≠D+1:=fun p hp=>by
     rcases List.mem_cons.mp hp with rfl | hp
     ·exact⟨Ne.symm hitD.1,Nat.ne_of_lt (Nat.lt_succ_self _)⟩
     ·exact⟨(off p hp).2,(hnD p hp).2⟩
    exact hfin _ D (D+1) ys mC hys (Dh F' he₂ (Ne.symm it0.2) it0.1) (fun p hp=>⟨he₂ _ _ (pit p hp).1 (N' p (.tail _ hp)).1,(N' p (.tail _ hp)).2⟩) (fun p hp=>(hnD p hp).1) (hC'.ns (he₂ _ _ (Ne.symm hitD.2) zC.1)) hC0 hCL (fun p hp=>(pit p hp).2) ho' hb'
   | cons v rem =>
    have hlt':i<its.size:=by simp at zd;exact(Nt fun hn1=>fk [_,_,_] (.e (.a V0 (.s V1)) V2 (.e V2 V0 K0)) rfl (El zd) hn1)
    have hget:its[i]?=some v:=by
     rw [← Array.getElem?_toList];have:=congrArg (·[0]?) hrem
     simp only [List.getElem?_drop,Nat.add_zero,List.getElem?_cons_zero] at this
     exact this
    have hmem:v∈its.toList:=by rw [← Array.getElem?_toList] at hget;exact List.mem_of_getElem? hget
    refine wpAny_pyNext_enum_item hen' hit' hl' hget hei fun h₂ heo₂ hit₂ htup hsz₂ hk₂=>?_
    dsimp only
    refine wpAny_letOwnedTupleGo_enum heo₂ fun h₃ hen₃ hs₃=>?_
    dsimp only at hs₃;have nT:s'.heap.objs.size≠en:=Nat.ne_of_gt (Heap.lt_size hen')
    refine assign_Tuple_tuple hh ⟨_,hs₃.extBut _ _ nT htup,rfl,_,rfl⟩ rfl rfl fun h₅ he₅=>?_
    have k5:∀ b o,h₃.get? b=some o→h₅.get? b=some o:=fun b o e=>he₅ b o (Nat.ne_of_lt (Heap.lt_size e)) e
    have k35:∀ b o,b≠en→b≠it→s'.heap.get? b=some o→h₅.get? b=some o:=fun b o b1 b2 e=>k5 b o (hs₃.extBut b o b1 (hk₂ b o b1 b2 e))
    have zC:=N' (D+1,oC') (.head _)
    refine assignInOrder_cons (wpAny_assign_Name (wpAny_storeName_local (lookup_relabel_local hx1) (hC'.ns (k35 _ _ (Ne.symm henD.2) (Ne.symm hitD.2) zC.1)) (fun h₆ hn₆ hs₆=>?_) (by simp [compEnvC,relabel,hkind])))
    refine assignInOrder_cons (wpAny_assign_Name (wpAny_storeName_local (lookup_relabel_local hx2) hn₆ (fun h₇ hn₇ hs₇=>?_) (by simp [compEnvC,relabel,hkind])))
    refine assignInOrder_nil ?_;obtain⟨oC7,heC7,hoC7⟩:=ns_obj hn₇
    have k7:∀ b o,b≠en→b≠it→b≠D+1→s'.heap.get? b=some o→h₇.get? b=some o:=fun b o b1 b2 b3 e=>hs₇.extBut b o b3 (hs₆.extBut b o b3 (k35 b o b1 b2 e))
    have nL:L≠en∧L≠it∧L≠D+1:=⟨Ne.symm en0.2,Ne.symm it0.2,Ne.symm hCL⟩
    have F₇:Fr h₀ L h₇ m:=by
     refine⟨?_,fun b o e=>?_,F'.above⟩
     ·obtain⟨oL,es,ep,e1,r⟩:=F'.ns
      exact⟨oL,es,ep,k7 _ _ nL.1 nL.2.1 nL.2.2 e1,r⟩
     ·refine k7 b o (fun z=>?_) (fun z=>?_) (fun z=>?_) (F'.keep b o e)
      ·rw [z,en0.1] at e;cases e
      ·rw [z,it0.1] at e;cases e
      ·rw [z,hC0] at e;cases e
    have N₇:News h₀ L h₇ ((D+1,oC7)::(D,lst ys)::news):=fun p hp=>by
     rcases List.mem_cons.mp hp with rfl | hp
     ·exact⟨heC7,hCL,hC0⟩
     have z:=N' p (.tail _ hp);refine⟨?_,z.2⟩
     rcases List.mem_cons.mp hp with rfl | hp
     ·exact k7 _ _ (Ne.symm henD.1) (Ne.symm hitD.1) (Nat.ne_of_lt (Nat.lt_succ_self _)) z.1
     ·exact k7 _ _ (off p hp).1 (off p hp).2 (hnD p hp).2 z.1
    have hen₇:IsEnum h₇ en it ((i:Int)+1) v:=hs₇.extBut _ _ henD.2 (hs₆.extBut _ _ henD.2 (k5 _ _ hen₃))
    have hit₇:h₇.IsListIter it ax (i+1):=by
     obtain⟨o,e1,r⟩:=hit₂;exact⟨o,hs₇.extBut _ _ hitD.2 (hs₆.extBut _ _ hitD.2 (k5 _ _ (hs₃.extBut _ _ (Ne.symm hei) e1))),r⟩
    have et:its.toList.take (i+1)=its.toList.take i++[v]:=by
     rw [List.take_succ_eq_append_getElem (by simpa using hlt')]
     have:=Array.getElem?_eq_getElem hlt';rw [this] at hget
     simp only [Option.some.injEq] at hget
     simp [hget]
    have ei:0+(its.toList.take i).length=i:=by simp;exact(Nat.le_antisymm (Nat.min_le_left _ _) (Nl fun hn2=>fk [_,_] (.e (.s V0) V1 (.e V1 V0 K0)) rfl hn2 (Nat.le_min.mpr ⟨Nat.le_refl _,(Nl fun hn3=>fk [_,_] (.e (.s V0) V1 (.e (.s V1) V0 K0)) rfl hlt' hn3)⟩)))
    refine htest v (D+1) oC7 _ _ _ _ hmem hoC7 (by simp) F₇ (News.sub N₇ fun p hp=>?_) fun tk=>?_
    ·rcases List.mem_cons.mp hp with rfl | hp
     ·exact .head _
     ·exact .tail _ (.tail _ hp)
    cases hok:ok v with
    | false =>
     refine⟨rem.length,Nat.lt_succ_self _,i+1,rem,ys,oC7,_,v,rfl,?_,by simp at zd ⊢;exact(Nat.le_antisymm (Nl fun hn2=>fk [_,_,_] (.e (.a V0 (.s V1)) V2 (.e (.s V2) (.a (.s V0) V1) K0)) rfl (El zd) hn2) (Nl fun hn3=>fk [_,_,_] (.e V0 (.a V1 (.s V2)) (.e (.a (.a (.s V1) V2) K1) V0 K0)) rfl (Es zd) hn3)),?_,hoC7,F₇,N₇,hen₇,hit₇,ho',hb'⟩
     ·rw [← List.drop_drop,hrem];rfl
     ·rw [et,Fx,hok];simpa using hys
    | true =>
     refine LCgL.ld_own (v:=.int i s'.toks) N₇ (.head _) hoC7 (by simp [hxx]) ?_ (by simp [compEnvC,relabel,hkind]) (lookup_relabel_local hx1) hd1
     have zD:=N₇ (D,lst ys) (.tail _ (.head _))
     have hyl:ys.length≤its.size:=by
      have:=All2.length hys
      have h2:∀ (l:List Value) (j:Nat),(Ba ok j l).length≤l.length:=by
       intro l
       induction l with
       | nil=>intro j;simp [Ba]
       | cons u l ih=>intro j;have:=ih (j+1);simp only [Ba,List.length_cons];split;(· simp only [List.length_cons];exact(Nl fun hn1=>fk [_,_] (.e V0 V1 (.e (.a (.s V1) K1) (.s V0) K0)) rfl this hn1));exact(Nl fun hn1=>fk [_,_] (.e V0 V1 (.e (.a (.s V1) K1) V0 K0)) rfl this hn1)
      have:=h2 (its.toList.take i) 0
      simp only [List.length_take] at this
      simp at this
      (rename_i ina0;exact(Nl fun hn1=>fk [_,_,_,_,_] (.e (.s V0) V1 (.e V2 V3 (.e V3 V4 (.e V4 V0 (.e (.s V1) V2 K0))))) rfl hlt' (El ina0) this (Nat.min_le_left _ _) hn1))
     refine append_at (hsz:=by
      show ys.toArray.size≤sizeLine
      rw [List.size_toArray,sizeLine_eq];exact(Nl fun hn1=>fk [_,_] (.e V0 (.k 1000) (.e V1 V0 (.e (.s (.k 16777216)) V1 K0))) rfl hz hyl hn1)) zD.1 fun h₈ hs₈ hD₈=>?_
     refine⟨rem.length,Nat.lt_succ_self _,i+1,rem,ys++[.int i s'.toks],oC7,_,v,rfl,?_,by simp at zd ⊢;exact(Nat.le_antisymm (Nl fun hn2=>fk [_,_,_] (.e (.a V0 (.s V1)) V2 (.e (.s V2) (.a (.s V0) V1) K0)) rfl (El zd) hn2) (Nl fun hn3=>fk [_,_,_] (.e V0 (.a V1 (.s V2)) (.e (.a (.a (.s V1) V2) K1) V0 K0)) rfl (Es zd) hn3)),?_,hoC7,F₇.change hs₈ hDL hD0,fun p hp=>?_,hs₈.extBut _ _ henD.1 hen₇,?_,ho',hb'⟩
     ·rw [← List.drop_drop,hrem];rfl
     ·rw [et,Fx,hok,ei]
      exact All2.snoc hys ⟨_,rfl⟩
     ·rcases List.mem_cons.mp hp with rfl | hp
      ·exact⟨hs₈.extBut _ _ (Nat.ne_of_gt (Nat.lt_succ_self _)) (N₇ (D+1,oC7) (.head _)).1,hCL,hC0⟩
      rcases List.mem_cons.mp hp with rfl | hp
      ·exact⟨hD₈.trans (congrArg some (lst_snoc _ _)),hDL,hD0⟩
      ·have z:=N₇ p (.tail _ (.tail _ hp))
       exact⟨hs₈.extBut _ _ (hnD p hp).1 z.1,z.2⟩
     ·obtain⟨o,e1,r⟩:=hit₇
      exact⟨o,hs₈.extBut _ _ hitD.1 e1,r⟩
  ·rcases List.mem_cons.mp hp with rfl | hp
   ·exact⟨heC,hCL,hC0⟩
   rcases List.mem_cons.mp hp with rfl | hp
   ·exact⟨up3 _ _ hD2,hDL,hD0⟩
   ·exact⟨up _ _ (N p hp).1,(N p hp).2⟩
 exact codeAny_compStart_list loop (wpAny_pyIter_enum (s:={ s₁ with heap:=h₁,toks:=s₁.toks+([]:List (Str × Value)).length }) hen1 loop)
noncomputable def Dw(w:World)(A:Around)(s:Shared)(prog:Program)(E:Value→Shared→Prop)(h₀:Heap)(L:Addr)(m:Str→Option Value)(env:Env)(os:OsState)(iter test:PySem.Expr)(x1 x2 y:Str)(pe p1 p2 tp pos py spos:Pos)(k:Nat)(scope:Scope)(cl:List (Str × Addr))(Q:Flow→Shared→Prop)(ok:Value→Bool):Prop :=
 ∀ (hL:env.locals=L) (hsw:swapsWith (.ListComp (.Name x1 pe) [⟨.Tuple [.Name x1 p1,.Name x2 p2] k tp,iter,[test],0⟩] scope pos) (some (.Name y py)) spos.line env=pure true) (hclos:closureFor scope env=pure cl) (hcell:∀ y∈scope.names,y.2≠.cell) (hkind:scope.kind=.function) (hnames:∀ y∈scope.names,y.2=.local→scope.names.lookup y.1=some .local) (hx1:scope.names.lookup x1=some .local) (hx2:scope.names.lookup x2=some .local) (hxx:x1≠x2) (hd1:(x1 == ("__debug__":Str))=false) (hfs:∀ x,foldedSetIterable iter env x=pure x) (hy:env.kindOf y=some .local) (hp:(env.scope.kind == .class || (env.scope.kind == .module && env.locals != env.globals))=false) (h:wpAny (model prog w) A (eval iter env) (fun xv s₁=>∃ (en it ax:Addr) (its:Array Value) (news:List (Addr × Obj)),xv=.ref en∧A.handled=none∧Fr h₀ L s₁.heap m∧News h₀ L s₁.heap news∧s₁.os=os∧AllBare s₁.gens∧IsEnum s₁.heap en it 0 .none∧s₁.heap.IsListIter it ax 0∧en≠it ∧
   (h₀.get? en=none∧en≠L)∧(h₀.get? it=none∧it≠L)∧(∀ p∈news,p.1≠en∧p.1≠it)∧SrcAt h₀ ax its news∧its.size≤1000 ∧
   (∀ v C oC m₂ (s':Shared) (QT:Bool→Shared→Prop) (E':Value→Shared→Prop),v∈its.toList→NsObj oC m₂→m₂ x2=some v→Fr h₀ L s'.heap m→News h₀ L s'.heap ((C,oC)::news)→(∀ tk,QT (ok v) { s' with toks:=tk })→wpAny (model prog w) A (isTrue test (compEnvC scope cl C env) (eval test (compEnvC scope cl C env))) QT E' s') ∧
   ∀ D s' ys,Pn ys (Ba ok 0 its.toList)→Fr h₀ L s'.heap (fun z=>if z=y then some (.ref D) else m z)→News h₀ L s'.heap ((D,lst ys)::news)→(∀ p∈news,p.1≠D)→s'.os=os→AllBare s'.gens→Q .next s') E s),wpAny (model prog w) A (exec (.Assign [.Name y py] (.ListComp (.Name x1 pe) [⟨.Tuple [.Name x1 p1,.Name x2 p2] k tp,iter,[test],0⟩] scope pos) spos) env) Q E s
theorem Ld:∀ a b c d e f g h i j k l m n o p q r s t u v w x y z a1,Dw a b c d e f g h i j k l m n o p q r s t u v w x y z a1:=by
 refine Ab (Ao neW)<|Ab neI<|Ab neI<|Ec neI<|let_mvar% ?n:=(fun w A s prog E h₀ L m env os iter test x1 x2 y pe p1 p2 tp pos py spos k scope cl Q ok=>?_:∀ a b c d e f g h i j k l m n o p q r s t u v w x y z a1,Dw a b c d e f g h i j k l m n o p q r s t u v w x y z a1);?n _ _ _ _ _ _ _ _ _ _ _ _ _ _ _ _ _ _ _ _ _ _ _ _ _ _ _
 intro hL hsw hclos hcell hkind hnames hx1 hx2 hxx hd1 hfs hy hp h;rw [exec_Assign_Name_used _ _ _ _ hsw];refine Wb (wpAny_standAt (Wb ?_))
 show wpAny _ A (do let _ ← comprehension (.ListComp (.Name x1 pe) [⟨.Tuple [.Name x1 p1,.Name x2 p2] k tp,iter,[test],0⟩] scope pos) scope env _ (newList []) false (eval iter env) (some (assign (.Name y py) env))) _ _ s
 refine Wb (wpAny_mono (wpAny_comprehension_free (use:=some (assign (.Name y py) env)) (Q:=fun _ s'=>Q .next s') rfl hfs hclos hkind hnames (wpAny_mono h (fun xv s₁ h₁=>?_) fun _ _ e=>e)) (fun _ s' hq=>Wp (Wp hq)) fun _ _ e=>e)
 obtain⟨en,it,ax,its,news,rfl,hh,F,N,ho,hb,hen,hit,hei,en0,it0,off,S,hz,htest,hfin⟩:=h₁;refine Vm (os:=os) (its:=its) (ax:=ax) (news:=news) ok hcell hkind hx1 hx2 hxx hd1 hh F N ho hb hen hit hei en0 it0 off S hz htest ?_;intro s1 D C ys mC hys F1 N1 hnD hns hC0 hCL hoC ho1 hb1
 show wpAny _ A (assign (.Name y py) env (.ref D)) _ _ _
 subst hL
 refine wpAny_assign_Name (wpAny_storeName_local hy F1.ns (fun h₂ hn₂ hs₂=>?_) hp)
 have hL₀:h₀.get? env.locals=none:=Heap.get?_none_of_le F1.above
 have F₂:Fr h₀ env.locals h₂ (fun z=>if z=y then some (.ref D) else m z):=⟨hn₂,fun b o e=>hs₂.extBut b o (fun q=>by rw [q,hL₀] at e;cases e) (F1.keep b o e),F1.above⟩
 refine⟨mC,hns.sameBut hs₂ hCL,fun h'' hs''=>?_⟩
 refine hfin D _ ys hys (F₂.change hs'' hCL hC0) (fun q hq=>?_) hnD ho1 hb1
 have z:=N1 q hq;exact⟨hs''.extBut _ _ (hoC q hq) (hs₂.extBut _ _ z.2.1 z.1),z.2⟩
theorem Qp{w A s prog E h₀ L m env os iter test x1 x2 y pe p1 p2 tp pos py spos k scope cl Q}(ok):Dw w A s prog E h₀ L m env os iter test x1 x2 y pe p1 p2 tp pos py spos k scope cl Q ok:=Ld _ _ _ _ _ _ _ _ _ _ _ _ _ _ _ _ _ _ _ _ _ _ _ _ _ _ _
end
end
section
open PyProof.Rows.LCg
section
variable{prog:Program}{w:World}{A:Around}{E:Value→Shared→Prop}{s:Shared}{h₀:Heap}{L:Addr}{m:Str→Option Value}{news:List (Addr × Obj)}
theorem enum_K{l:Addr}{items:Array Value}{Q:Value→Shared→Prop}(F:Fr h₀ L s.heap m)(N:News h₀ L s.heap news)(hl:s.heap.IsList l items)
  (k:∀ en it h',Fr h₀ L h' m→News h₀ L h' news→IsEnum h' en it 0 .none→h'.IsListIter it l 0→en≠it→(h₀.get? en=none∧en≠L)→(h₀.get? it=none∧it≠L)→(∀ p∈news,p.1≠en∧p.1≠it)→Q (.ref en) { s with heap:=h' }) :
  wpAny (model prog w) A (call (.type "enumerate") [.ref l]) Q E s:=by
 refine call_enumerate_list hl fun h' a b c d=>?_
 have hLI:L<s.heap.objs.size:=F.ns.lt
 have fresh₀:∀ a,L<a→h₀.get? a=none:=fun a ha=>Heap.get?_none_of_le (Nat.le_trans F.above (Nat.le_of_lt ha))
 refine k _ _ h' (F.keeps d) (N.grown d) a b (Nat.ne_of_gt (Nat.lt_succ_self _)) ⟨fresh₀ _ (Nat.lt_succ_of_lt hLI),Nat.ne_of_gt (Nat.lt_succ_of_lt hLI)⟩ ⟨fresh₀ _ hLI,Nat.ne_of_gt hLI⟩ fun p hp=>?_
 have:=Heap.lt_size (N p hp).1;exact⟨Nat.ne_of_lt (Nat.lt_succ_of_lt this),Nat.ne_of_lt this⟩
end
theorem Ys(st:List Told × List Str)(x:Int):(Ag st x).1.length=st.1.length+1:=by
 unfold Ag
 (repeat' split)<;>simp
theorem Uy:∀ (xs:List Int) (st:List Told × List Str),(xs.foldl Ag st).1.length=st.1.length+xs.length
 | [],_=>rfl
 | x::xs,st=>by
  rw [List.foldl_cons,Uy xs,Ys,List.length_cons];exact(Nat.le_antisymm (Nl fun hn2=>fk [_,_] (.e (.a (.a V0 (.s V1)) K1) (.a (.s V0) V1) K0) rfl hn2) (Nl fun hn3=>fk [_,_] (.e (.a (.a (.s V0) V1) K1) (.a V0 (.s V1)) K0) rfl hn3))
theorem Dc(xs:List Int):(Aa xs).length≤xs.length+15:=by
 have h1:(Ar xs).1.length=3+(4+xs.length):=by
  unfold Ar
  rw [Uy];simp [Fe];exact(Nat.le_antisymm (Nl fun hn2=>fk [_] (.e (.a (.a (.k 4) V0) K1) (.a (.a (.a (.s V0) K1) K1) K1) K0) rfl hn2) (Nl fun hn3=>fk [_] (.e (.a (.a (.a (.a (.s V0) K1) K1) K1) K1) (.a (.k 4) V0) K0) rfl hn3))
 have h2:=(Jh xs).few;unfold Aa
 simp only [List.length_append,List.length_map,List.length_reverse,List.length_cons,List.length_nil]
 exact(Nl fun hn1=>fk [_,_,_] (.e V0 (.a (.k 3) (.a (.k 4) V1)) (.e V2 (.k 7) (.e (.a (.a V1 (.k 15)) K1) (.a (.a V0 V2) (.s K0)) K0))) rfl (El h1) h2 hn1)
theorem Py{α:Type}(ok:α→Bool):∀ (l:List α) (i:Nat),(Ba ok i l).length=(l.filter ok).length
 | [],_=>rfl
 | a::l,i=>by
  simp only [Ba,List.filter_cons]
  split<;>simp [Py ok l (i+1)]
theorem Px{α:Type}(ok:α→Bool):∀ (l:List α) (i j:Nat) (p:Int),(Ba ok i l)[j]?=some p→∃ q:Nat,p=((i+q:Nat):Int)∧∃ a,l[q]?=some a∧ok a=true
 | [],_,_,_,h=>by simp [Ba] at h
 | a::l,i,j,p,h=>by
  rw [Ba] at h
  split at h
  ·rename_i ha
   cases j with
   | zero=>simp at h;exact⟨0,by simp [← h],a,rfl,ha⟩
   | succ j =>
    rw [List.getElem?_cons_succ] at h;obtain⟨q,e,b,hb⟩:=Px ok l (i+1) j p h
    exact⟨q+1,by rw [e];congr 1;exact(Nat.le_antisymm (Nl fun hn2=>fk [_,_] (.e (.a (.a V0 (.s V1)) K1) (.a (.s V0) V1) K0) rfl hn2) (Nl fun hn3=>fk [_,_] (.e (.a (.a (.s V0) V1) K1) (.a V0 (.s V1)) K0) rfl hn3)),b,by simpa using hb.1,hb.2⟩
  ·obtain⟨q,e,b,hb⟩:=Px ok l (i+1) j p h
   exact⟨q+1,by rw [e];congr 1;exact(Nat.le_antisymm (Nl fun hn2=>fk [_,_] (.e (.a (.a V0 (.s V1)) K1) (.a (.s V0) V1) K0) rfl hn2) (Nl fun hn3=>fk [_,_] (.e (.a (.a (.s V0) V1) K1) (.a V0 (.s V1)) K0) rfl hn3)),b,by simpa using hb.1,hb.2⟩
noncomputable def Iz:Told→Int
 | .start _ _=>0
 | .stop _=>1
 | .data _=>2
 | .comment _=>3
 | .pi _=>4
 | .sns _ _=>5
theorem Ia(c:Told):decide (Iz c=0)=Eg c:=by cases c<;>rfl
theorem Bq.first{W:World}{own:List (Addr × Obj)}{v:Value}{c:Told}(x:Bq W own v c):∃ a t v2 v3,v=.ref a∧(a,Ae #[.int (Iz c) t,v2,v3])∈own:=by
 cases c with
 | start tag attrs=>obtain⟨a,t,tt,at_,na,l,e,y1,y2,y3⟩:=x;exact⟨a,t,_,_,e,y1⟩
 | stop tag=>obtain⟨a,t,tt,e,y⟩:=x;exact⟨a,t,_,_,e,y⟩
 | data x'=>obtain⟨a,t,tt,e,y⟩:=x;exact⟨a,t,_,_,e,y⟩
 | comment x'=>obtain⟨a,t,tt,e,y⟩:=x;exact⟨a,t,_,_,e,y⟩
 | pi x'=>obtain⟨a,t,tt,e,y⟩:=x;exact⟨a,t,_,_,e,y⟩
 | sns p u=>obtain⟨a,t,tp,tu,e,y⟩:=x;exact⟨a,t,_,_,e,y⟩
open Classical in
noncomputable def Qk(own:List (Addr × Obj))(v:Value):Bool:=decide (∃ a t v2 v3,v=.ref a∧(a,Ae #[.int 0 t,v2,v3])∈own)
open Classical in
theorem Pg{W:World}{own:List (Addr × Obj)}{h:Heap}{v:Value}{c:Told}(k:∀ p∈own,h.get? p.1=some p.2)(x:Bq W own v c):Qk own v=Eg c:=by
 obtain⟨a,t,v2,v3,rfl,hm⟩:=x.first
 unfold Qk
 cases hc:Eg c with
 | true =>
  have:Iz c=0:=by have:=Ia c;rw [hc] at this;exact of_decide_eq_true this
  rw [this] at hm;exact decide_eq_true ⟨a,t,v2,v3,rfl,hm⟩
 | false =>
  refine decide_eq_false fun⟨a',t',u2,u3,e,hm'⟩=>?_
  injection e with e
  subst e;have e1:=k _ hm;have e2:=k _ hm';rw [e1] at e2
  injection e2 with e2
  have e3:Iz c=0:=by
   have:=congrArg (fun o:Obj=>o.data) e2
   simp only [Data.seq.injEq,Array.mk.injEq,List.cons.injEq,Value.int.injEq] at this
   first | exact this.1.1.1 | (simp at this;exact this.1)
  have:=Ia c;rw [hc,e3] at this
  cases this
theorem idx_map{α β:Type}{P:α→β→Prop}{o1:α→Bool}{o2:β→Bool}:∀ {l:List α} {r:List β},All2 P l r→(∀ a b,P a b→o1 a=o2 b)→∀ i,Ba o1 i l=Ba o2 i r:=by
 intro l r h k
 induction h with
 | nil=>exact fun _=>rfl
 | cons h t ih =>
  intro i
  simp only [Ba,k _ _ h,ih (i+1)]
end
section

noncomputable def Im:List Pr:=[("http://www.w3.org/XML/1998/namespace","xml"),("http://www.w3.org/1999/xhtml","html"),("http://www.w3.org/1999/02/22-rdf-syntax-ns#","rdf"),("http://schemas.xmlsoap.org/wsdl/","wsdl"),("http://www.w3.org/2001/XMLSchema","xs"),("http://www.w3.org/2001/XMLSchema-instance","xsi"),("http://purl.org/dc/elements/1.1/","dc")]
noncomputable def WS0:WS:={ seen:=false,done:=false,decl:=[[("http://www.w3.org/XML/1998/namespace","xml")]],nss:=[Im,[]],pre:=[false],data:=[],out:=[] }
theorem shuf_w{α:Type}{B0 D a1 a2 a3 a4 a5 a6 a7 da de dl dx nl ns out pm pr vw wr x:α}:∀ q∈[x,dx,da,out,wr,de,ns,pr]++[nl,a1,a2,a3,a4,a5,a6,a7,B0,dl,D],q∈[pr,pm,nl,a1,a2,a3,a4,a5,a6,a7,B0,vw,ns,de,dl,D,da,x,dx]++[wr,out]:=Fc (.tail _ (.tail _ (.tail _ (.tail _ (.tail _ (.tail _ (.tail _ (.tail _ (.tail _ (.tail _ (.tail _ (.tail _ (.tail _ (.tail _ (.tail _ (.tail _ (.tail _ (.head _)))))))))))))))))) (Fc (.tail _ (.tail _ (.tail _ (.tail _ (.tail _ (.tail _ (.tail _ (.tail _ (.tail _ (.tail _ (.tail _ (.tail _ (.tail _ (.tail _ (.tail _ (.tail _ (.tail _ (.tail _ (.head _))))))))))))))))))) (Fc (.tail _ (.tail _ (.tail _ (.tail _ (.tail _ (.tail _ (.tail _ (.tail _ (.tail _ (.tail _ (.tail _ (.tail _ (.tail _ (.tail _ (.tail _ (.tail _ (.head _))))))))))))))))) (Fc (.tail _ (.tail _ (.tail _ (.tail _ (.tail _ (.tail _ (.tail _ (.tail _ (.tail _ (.tail _ (.tail _ (.tail _ (.tail _ (.tail _ (.tail _ (.tail _ (.tail _ (.tail _ (.tail _ (.tail _ (.head _))))))))))))))))))))) (Fc (.tail _ (.tail _ (.tail _ (.tail _ (.tail _ (.tail _ (.tail _ (.tail _ (.tail _ (.tail _ (.tail _ (.tail _ (.tail _ (.tail _ (.tail _ (.tail _ (.tail _ (.tail _ (.tail _ (.head _)))))))))))))))))))) (Fc (.tail _ (.tail _ (.tail _ (.tail _ (.tail _ (.tail _ (.tail _ (.tail _ (.tail _ (.tail _ (.tail _ (.tail _ (.tail _ (.head _)))))))))))))) (Fc (.tail _ (.tail _ (.tail _ (.tail _ (.tail _ (.tail _ (.tail _ (.tail _ (.tail _ (.tail _ (.tail _ (.tail _ (.head _))))))))))))) (Fc (.head _) (Fc (.tail _ (.tail _ (.head _))) (Fc (.tail _ (.tail _ (.tail _ (.head _)))) (Fc (.tail _ (.tail _ (.tail _ (.tail _ (.head _))))) (Fc (.tail _ (.tail _ (.tail _ (.tail _ (.tail _ (.head _)))))) (Fc (.tail _ (.tail _ (.tail _ (.tail _ (.tail _ (.tail _ (.head _))))))) (Fc (.tail _ (.tail _ (.tail _ (.tail _ (.tail _ (.tail _ (.tail _ (.head _)))))))) (Fc (.tail _ (.tail _ (.tail _ (.tail _ (.tail _ (.tail _ (.tail _ (.tail _ (.head _))))))))) (Fc (.tail _ (.tail _ (.tail _ (.tail _ (.tail _ (.tail _ (.tail _ (.tail _ (.tail _ (.head _)))))))))) (Fc (.tail _ (.tail _ (.tail _ (.tail _ (.tail _ (.tail _ (.tail _ (.tail _ (.tail _ (.tail _ (.head _))))))))))) (Fc (.tail _ (.tail _ (.tail _ (.tail _ (.tail _ (.tail _ (.tail _ (.tail _ (.tail _ (.tail _ (.tail _ (.tail _ (.tail _ (.tail _ (.head _))))))))))))))) (Fc (.tail _ (.tail _ (.tail _ (.tail _ (.tail _ (.tail _ (.tail _ (.tail _ (.tail _ (.tail _ (.tail _ (.tail _ (.tail _ (.tail _ (.tail _ (.head _)))))))))))))))) (fun _ z=>nomatch z)))))))))))))))))))
theorem Vz{x dx da out wr de ns pr a:Nat}(h1:out<wr)(h2:wr<dx)(h3:dx<x)(h4:x<da)(h5:da<de)(h6:de<ns)(h7:ns<a)(h8:a<pr):a∉[x,dx,da,out,wr,de,ns,pr]:=by
 have g1:=Nat.lt_trans h6 h7;have g2:=Nat.lt_trans h5 g1;have g3:=Nat.lt_trans h4 g2;have g4:=Nat.lt_trans h3 g3;have g5:=Nat.lt_trans h2 g4;exact Ac (Nat.ne_of_gt g3) (Ac (Nat.ne_of_gt g4) (Ac (Nat.ne_of_gt g2) (Ac (Nat.ne_of_gt (Nat.lt_trans h1 g5)) (Ac (Nat.ne_of_gt g5) (Ac (Nat.ne_of_gt g1) (Ac (Nat.ne_of_gt h7) (Ac (Nat.ne_of_lt h8) Aq)))))))
theorem Wa{x dx da out wr de ns pr a:Nat}(h1:out<wr)(h2:wr<dx)(h3:dx<x)(h4:x<da)(h7:da<a)(h8:a<de)(h6:de<ns)(h9:ns<pr):a∉[x,dx,da,out,wr,de,ns,pr]:=by
 have g3:=Nat.lt_trans h4 h7;have g4:=Nat.lt_trans h3 g3;have g5:=Nat.lt_trans h2 g4;have g6:=Nat.lt_trans h8 h6;exact Ac (Nat.ne_of_gt g3) (Ac (Nat.ne_of_gt g4) (Ac (Nat.ne_of_gt h7) (Ac (Nat.ne_of_gt (Nat.lt_trans h1 g5)) (Ac (Nat.ne_of_gt g5) (Ac (Nat.ne_of_lt h8) (Ac (Nat.ne_of_lt g6) (Ac (Nat.ne_of_lt (Nat.lt_trans g6 h9)) Aq)))))))
theorem Gb{a b:Nat}{t:List Nat}(h:a<b)(p:(b::t).Pairwise (·<·)):(a::b::t).Pairwise (·<·):=.cons (fun c hc=>by
 rcases List.mem_cons.mp hc with rfl | hc
 ·exact h
 ·exact Nat.lt_trans h (List.rel_of_pairwise_cons p hc)) p
theorem nd8_of{x dx da out wr de ns pr:Nat}(h1:out<wr)(h2:wr<dx)(h3:dx<x)(h4:x<da)(h5:da<de)(h6:de<ns)(h7:ns<pr):([x,dx,da,out,wr,de,ns,pr]:List Nat).Nodup:=by
 have h:([out,wr,dx,x,da,de,ns,pr]:List Nat).Pairwise (·<·):=Gb h1 (Gb h2 (Gb h3 (Gb h4 (Gb h5 (Gb h6 (Gb h7 (.cons (fun _ z=>nomatch z) .nil)))))))
 have n:([out,wr,dx,x,da,de,ns,pr]:List Nat).Nodup:=h.imp fun z=>Nat.ne_of_lt z
 refine List.Perm.nodup ?_ n;have p1:([out,wr,dx,x,da,de,ns,pr]:List Nat).Perm ([dx,x,da]++[out,wr]++[de,ns,pr]):=(List.perm_append_comm (l₁:=[out,wr]) (l₂:=[dx,x,da])).append_right _;exact p1.trans (.swap _ _ _)
theorem nd3_of{a b c:Addr}(h1:a≠b)(h2:a≠c)(h3:b≠c):([a]++[b,c]:List Addr).Nodup:=by simp [h1,h2,h3]
noncomputable def Hv(W:World)(A:Around)(s:Shared)(E:Value→Shared→Prop)(g:Heap)(os:OsState)(p:Program)(zw:List Str)(zr:ExcName→Option Value)(mg mb:Str→Option Value)(L:Addr)(m:Str→Option Value)(Q:Value→Shared→Prop)(out:Addr)(n2:Nat)(rest news:List (Addr × Obj)):Prop :=
 ∀ (X:(hd11.heap_39 W.params).In g) (T:Top p zw zr mg mb g) (hh:A.handled=none) (zq:A.depth<500) (F:Fr g L s.heap m) (N:News g L s.heap news) (o1:s.os=os) (b1:AllBare s.gens) (hout:(out,listOf #[] n2)∈news) (hrest:∀ q∈rest,q∈news) (dis:∀ q∈rest,q.1≠out) (h:∀ (f:FD) (x:Addr) (s':Shared),f.out=out→f.Is WS0 x→Fr g L s'.heap m→News g L s'.heap (f.own WS0 x++rest)→Dis (f.own WS0 x) rest→s'.os=os→AllBare s'.gens→Q (.ref x) s'),wpAny (model rw_dn0283_11.row.prog W) A (call (.ref 168) [.ref out]) Q E s
theorem Lc:∀ {W A s E g os p zw zr mg mb L m Q out n2 rest news},Hv W A s E g os p zw zr mg mb L m Q out n2 rest news:=by
 refine @(Ab (Ao neW)<|@(Ab neI<|@(Gm neI<|let_mvar% ?n:=(fun W A s E g os p zw zr mg mb L m Q out n2 rest news=>?_:∀ a b c d e f g h i j k l m n o p q r,Hv a b c d e f g h i j k l m n o p q r);?n _ _ _ _ _ _ _ _ _ _ _ _ _ _ _ _ _ _)))
 intro X T hh zq F N o1 b1 hout hrest dis h
 refine As [(out,listOf #[] n2)] rest F N o1 b1 (fun q hq=>by rw [List.mem_singleton.mp hq];exact hout) hrest (fun q hq z=>dis q hq (List.mem_singleton.mp z)) ?_
 with_reducible refine let_mvar% ?zg:=(fun g₂=>?_:Fa _);Bo neI (tie:Tie _ (type_of% ?zg)) (?zg _);intro H₂ K₂ r₂ back
 refine Tf (X.keeps K₂) (T.keeps K₂) H₂ hh (Nat.lt_trans zq (by decide)) ?_
 with_reducible refine let_mvar% ?zw0:=(fun s' x dx wr hsh tkn ep=>?_:Fa7 _);Dr Cb (Kc:Tie _ (type_of% ?zw0)) (?zw0 _ _ _ _ _ _ _)
 with_reducible refine let_mvar% ?zw7:=(fun n1 m2 n3 n4 n5 n6 n7=>?_:Fa7 _);Dr neI (Kc:Tie _ (type_of% ?zw7)) (?zw7 _ _ _ _ _ _ _)
 with_reducible refine let_mvar% ?zw14:=(fun pr pm nl B0 vw ns de=>?_:Fa7 _);Dr neI (Kc:Tie _ (type_of% ?zw14)) (?zw14 _ _ _ _ _ _ _)
 with_reducible refine let_mvar% ?zw21:=(fun dl D da a1 a2 a3 a4=>?_:Fa7 _);Dr neI (Kc:Tie _ (type_of% ?zw21)) (?zw21 _ _ _ _ _ _ _)
 with_reducible refine let_mvar% ?zw28:=(fun a5 a6 a7 oM oV tD tE=>?_:Fa7 _);Dr neI (Kc:Tie _ (type_of% ?zw28)) (?zw28 _ _ _ _ _ _ _)
 with_reducible refine let_mvar% ?zw35:=(fun t1 t2 t3 t4 t5 t6 t7=>?_:Fa7 _);Dr neI (Kc:Tie _ (type_of% ?zw35)) (?zw35 _ _ _ _ _ _ _)
 intro h1 h2 h3 h4 h5 H';obtain⟨F',N',o',b'⟩:=back _ _ H';obtain⟨c1,c2,c3,c4⟩:=h1;obtain⟨c5,c6,c7,c8⟩:=h2;obtain⟨d1,d2,d3,d4,d5,d6,d7,d8⟩:=h3;obtain⟨e1,e2,e3,e4,e5,e6,e7,e8⟩:=h4;have c57:=Nat.lt_trans c5 (Nat.lt_trans c6 c7);have ltnp:=Nat.lt_trans d1 (Nat.lt_trans e1 h5)
 have hi:∀ {a:Addr},ns<a→a<pr→a∉[x,dx,da,out,wr,de,ns,pr]:=fun u v=>Vz c1 c2 c3 c4 c57 c8 u v
 have lo:∀ {a:Addr},da<a→a<de→a∉[x,dx,da,out,wr,de,ns,pr]:=fun u v=>Wa c1 c2 c3 c4 u v c8 ltnp
 have hsub:∀ q∈FD.own { dx:=dx,wr:=wr,da:=da,de:=de,ns:=ns,pm:=pm,pr:=pr,out:=out,hsh:=hsh,tkn:=tkn,ep:=ep,n1:=n7,n2:=n2,nde:=n5,nns:=n4,npr:=n1,ds:=[],ol:=[],dlv:=[(dl,#[.ref D])],nlv:=[(B0,#[.ref a1,.ref a2,.ref a3,.ref a4,.ref a5,.ref a6,.ref a7]),(nl,#[])],rest:=[(nl,listOf #[] m2),(a1,Ae #[.str "http://www.w3.org/XML/1998/namespace" t1,.str "xml" 323]),(a2,Ae #[.str "http://www.w3.org/1999/xhtml" t2,.str "html" 325]),(a3,Ae #[.str "http://www.w3.org/1999/02/22-rdf-syntax-ns#" t3,.str "rdf" 327]),(a4,Ae #[.str "http://schemas.xmlsoap.org/wsdl/" t4,.str "wsdl" 329]),(a5,Ae #[.str "http://www.w3.org/2001/XMLSchema" t5,.str "xs" 331]),(a6,Ae #[.str "http://www.w3.org/2001/XMLSchema-instance" t6,.str "xsi" 333]),(a7,Ae #[.str "http://purl.org/dc/elements/1.1/" t7,.str "dc" 335]),(B0,listOf #[.ref a1,.ref a2,.ref a3,.ref a4,.ref a5,.ref a6,.ref a7] n3),(dl,listOf #[.ref D] n6),(D,Ae #[.str "http://www.w3.org/XML/1998/namespace" tD,.str "xml" tE])] } WS0 x,q∈([(pr,listOf #[.bool false] n1),(pm,oM),(nl,listOf #[] m2),(a1,Ae #[.str "http://www.w3.org/XML/1998/namespace" t1,.str "xml" 323]),(a2,Ae #[.str "http://www.w3.org/1999/xhtml" t2,.str "html" 325]),(a3,Ae #[.str "http://www.w3.org/1999/02/22-rdf-syntax-ns#" t3,.str "rdf" 327]),(a4,Ae #[.str "http://schemas.xmlsoap.org/wsdl/" t4,.str "wsdl" 329]),(a5,Ae #[.str "http://www.w3.org/2001/XMLSchema" t5,.str "xs" 331]),(a6,Ae #[.str "http://www.w3.org/2001/XMLSchema-instance" t6,.str "xsi" 333]),(a7,Ae #[.str "http://purl.org/dc/elements/1.1/" t7,.str "dc" 335]),(B0,listOf #[.ref a1,.ref a2,.ref a3,.ref a4,.ref a5,.ref a6,.ref a7] n3),(vw,oV),(ns,listOf #[.ref B0,.ref nl] n4),(de,listOf #[.ref dl] n5),(dl,listOf #[.ref D] n6),(D,Ae #[.str "http://www.w3.org/XML/1998/namespace" tD,.str "xml" tE]),(da,listOf #[] n7),(x,instObj 143 dx),(dx,dictOf (wd hsh tkn (.bool true) (.bool true) .none .none (.bool false) .none .none .none wr da de ns pm pr false false 0) ep)]++[(wr,Aj out),(out,listOf #[] n2)]):=shuf_w;refine h { dx:=dx,wr:=wr,da:=da,de:=de,ns:=ns,pm:=pm,pr:=pr,out:=out,hsh:=hsh,tkn:=tkn,ep:=ep,n1:=n7,n2:=n2,nde:=n5,nns:=n4,npr:=n1,ds:=[],ol:=[],dlv:=[(dl,#[.ref D])],nlv:=[(B0,#[.ref a1,.ref a2,.ref a3,.ref a4,.ref a5,.ref a6,.ref a7]),(nl,#[])],rest:=[(nl,listOf #[] m2),(a1,Ae #[.str "http://www.w3.org/XML/1998/namespace" t1,.str "xml" 323]),(a2,Ae #[.str "http://www.w3.org/1999/xhtml" t2,.str "html" 325]),(a3,Ae #[.str "http://www.w3.org/1999/02/22-rdf-syntax-ns#" t3,.str "rdf" 327]),(a4,Ae #[.str "http://schemas.xmlsoap.org/wsdl/" t4,.str "wsdl" 329]),(a5,Ae #[.str "http://www.w3.org/2001/XMLSchema" t5,.str "xs" 331]),(a6,Ae #[.str "http://www.w3.org/2001/XMLSchema-instance" t6,.str "xsi" 333]),(a7,Ae #[.str "http://purl.org/dc/elements/1.1/" t7,.str "dc" 335]),(B0,listOf #[.ref a1,.ref a2,.ref a3,.ref a4,.ref a5,.ref a6,.ref a7] n3),(dl,listOf #[.ref D] n6),(D,Ae #[.str "http://www.w3.org/XML/1998/namespace" tD,.str "xml" tE])] } x s' rfl ⟨rfl,rfl,?dl,?nl,?dp,?np,nd8_of c1 c2 c3 c4 c57 c8 ltnp,?off,?ndl⟩ F' (News.sub N' ?sub) ?dis o' b'
 case dl=>intro q hq;rw [List.mem_singleton.mp hq];exact⟨n6,.tail _ (.tail _ (.tail _ (.tail _ (.tail _ (.tail _ (.tail _ (.tail _ (.tail _ (.head _)))))))))⟩
 case nl =>
  intro q hq
  rcases List.mem_cons.mp hq with rfl | hq
  ·exact⟨n3,.tail _ (.tail _ (.tail _ (.tail _ (.tail _ (.tail _ (.tail _ (.tail _ (.head _))))))))⟩
  ·rw [List.mem_singleton.mp hq];exact⟨m2,.head _⟩
 case dp=>exact .cons (.cons ⟨D,_,_,rfl,.tail _ (.tail _ (.tail _ (.tail _ (.tail _ (.tail _ (.tail _ (.tail _ (.tail _ (.tail _ (.head _))))))))))⟩ .nil) .nil
 case np=>exact .cons (.cons ⟨a1,_,_,rfl,.tail _ (.head _)⟩ (.cons ⟨a2,_,_,rfl,.tail _ (.tail _ (.head _))⟩ (.cons ⟨a3,_,_,rfl,.tail _ (.tail _ (.tail _ (.head _)))⟩ (.cons ⟨a4,_,_,rfl,.tail _ (.tail _ (.tail _ (.tail _ (.head _))))⟩ (.cons ⟨a5,_,_,rfl,.tail _ (.tail _ (.tail _ (.tail _ (.tail _ (.head _)))))⟩ (.cons ⟨a6,_,_,rfl,.tail _ (.tail _ (.tail _ (.tail _ (.tail _ (.tail _ (.head _))))))⟩ (.cons ⟨a7,_,_,rfl,.tail _ (.tail _ (.tail _ (.tail _ (.tail _ (.tail _ (.tail _ (.head _)))))))⟩ (.nil)))))))) (.cons .nil .nil)
 case off=>exact Fc (hi (Nat.lt_trans d1 e1) h5) (Fc (hi d1 (Nat.lt_trans e1 h5)) (Fc (hi d2 (Nat.lt_trans e2 h5)) (Fc (hi d3 (Nat.lt_trans e3 h5)) (Fc (hi d4 (Nat.lt_trans e4 h5)) (Fc (hi d5 (Nat.lt_trans e5 h5)) (Fc (hi d6 (Nat.lt_trans e6 h5)) (Fc (hi d7 (Nat.lt_trans e7 h5)) (Fc (hi d8 (Nat.lt_trans e8 h5)) (Fc (lo (Nat.lt_trans c5 c6) c7) (Fc (lo c5 (Nat.lt_trans c6 c7)) (fun _ z=>nomatch z)))))))))))
 case ndl=>exact nd3_of (Nat.ne_of_lt (Nat.lt_trans (Nat.lt_trans c7 c8) d8)) (Nat.ne_of_lt (Nat.lt_trans (Nat.lt_trans c7 c8) (Nat.lt_trans d1 e1))) (Nat.ne_of_lt e8)
 case sub =>
  intro q hq
  rcases List.mem_append.mp hq with z | z
  ·exact Ml _ (hsub q z)
  ·exact Mr _ z
 case dis =>
  intro q hq r hr e;have z1:=(H'.own q (hsub q hq)).2;rw [e,r₂ r hr] at z1
  cases z1
end
section

noncomputable def Az:WS→List Told→Prop
 | _,[]=>True
 | w,c::cs=>Cw w c∧Az (w.tell c) cs
theorem Bj(w:WS)(cs:List Told)(c:Told):w.run (cs++[c])=(w.run cs).tell c:=by
 unfold WS.run;rw [List.foldl_append];rfl
inductive TellJ (W:World) (M0:Str→Option Value) (x out:Addr) (cs:List Told) (rest:List (Addr × Obj)) (w0:WS) (n0:Nat) (rem:List Value) (m:Str→Option Value) (own:List (Addr × Obj)):Prop
 | mk (cs1 cs2:List Told) (f:FD) (tabs:List (Addr × Obj)) (u:Option Value) (h0:cs=cs1++cs2) (h1:All2 (Bq W rest) rem cs2) (h2:m=(fun y=>if y=Str.ofString "call" then u else M0 y)) (h3:f.out=out) (h4:f.Is (w0.run cs1) x) (h5:f.Off x tabs) (h6:Lq tabs) (h7:Fit (n0+cs1.length) (w0.run cs1)) (h8:Az (w0.run cs1) cs2) (h9:own=f.own (w0.run cs1) x++tabs++rest) (h10:Dis (f.own (w0.run cs1) x++tabs) rest):TellJ W M0 x out cs rest w0 n0 rem m own
theorem Ju{M0:Str→Option Value}{u v:Option Value}:(fun y:Str=>if y="call" then v else if y="call" then u else M0 y)=fun y:Str=>if y="call" then v else M0 y:=by
 funext y
 by_cases h:y="call"<;>simp [h]
section
variable{W:World}{g:Heap}{L I x out:Addr}{oI:Obj}{cs cs1 cs2:List Told}{c:Told}{os:OsState}{m M0:Str→Option Value}{rest zt:List (Addr × Obj)}{rem:List Value}{s':Shared}{f':FD}{w0:WS}{n0:Nat}{u:Option Value}
theorem Pi(e:cs=cs1++c::cs2)(hr:All2 (Bq W rest) rem cs2)(hm:m=(fun y=>if y=Str.ofString "call" then u else M0 y))(ho:f'.out=out)(hI:f'.Is ((w0.run cs1).tell c) x)(hT:f'.Off x zt)(hLT:Lq zt)
  (hf:Fit (n0+cs1.length) (w0.run cs1)) (hrf:Az (w0.run cs1) (c::cs2)) (F:Fr g L s'.heap m) (N:News g L s'.heap (f'.own ((w0.run cs1).tell c) x++zt++((I,oI)::rest))) (dis:Dis (f'.own ((w0.run cs1).tell c) x++zt) ((I,oI)::rest))
  (nI:∀ p∈rest,p.1≠I) (o1:s'.os=os) (b1:AllBare s'.gens) :
  ∃ m'' own',TellJ W M0 x out cs rest w0 n0 rem m'' own'∧Fr g L s'.heap m''∧News g L s'.heap ((I,oI)::own')∧(∀ p∈own',p.1≠I)∧s'.os=os∧AllBare s'.gens:=by
 refine⟨m,f'.own ((w0.run cs1).tell c) x++zt++rest,⟨cs1++[c],cs2,f',zt,u,by rw [e];simp,hr,hm,ho,?_,hT,hLT,?_,?_,?_,?_⟩,F,News.sub N ?_,?_,o1,b1⟩
 ·rw [Bj];exact hI
 ·rw [Bj,List.length_append]
  exact hf.tell hrf.1
 ·rw [Bj];exact hrf.2
 ·rw [Bj]
 ·rw [Bj];exact fun p hp q hq=>dis p hp q (.tail _ hq)
 ·intro q hq
  rcases List.mem_cons.mp hq with rfl | hq
  ·exact Mr _ (.head _)
  rcases List.mem_append.mp hq with z | z
  ·exact Ml _ z
  ·exact Mr _ (.tail _ z)
 ·intro p hp
  rcases List.mem_append.mp hp with z | z
  ·exact dis p z (I,oI) (.head _)
  ·exact nI p z
end
section
variable{prog:Program}{w:World}{A:Around}{E:Value→Shared→Prop}{s:Shared}{h₀:Heap}{L:Addr}{m:Str→Option Value}{news:List (Addr × Obj)}
theorem Nh{value slice:PySem.Expr}{l:Addr}{vs:List Value}{b:Nat}{t:Tok}{Q:Value→Shared→Prop}
  (F:Fr h₀ L s.heap m) (N:News h₀ L s.heap news) (hl:s.heap.IsList l vs.toArray) (hz:vs.length≤1000)
  (h:∀ a h',Fr h₀ L h' m→News h₀ L h' ((a,listOf (vs.take b).toArray 0)::news)→(∀ p∈news,p.1≠a)→Q (.ref a) { s with heap:=h' })
  (hs:subscripted slice false (.ref l) (.ref s.heap.objs.size)=operate [.ref s.heap.objs.size,.ref l] (getItem (.ref l) (.ref s.heap.objs.size)):=by with_unfolding_all rfl)
  (ht:∀ r,letTemporaryGo value (.ref l) r=pure ():=by intro _;with_unfolding_all rfl) :
  wpAny (model prog w) A (subscriptTail value slice (.ref l) (.ref s.heap.objs.size)) Q E { s with heap:=s.heap.push { cls:=.type "slice",data:=.fields #[.none,.int b t,.none] } }:=by
 refine slice_list F N hl .none (.int _ _) (fun h' F' N'=>h _ h' F' ?_ fun p hp=>?_) hs ht (by rw [List.size_toArray,sizeLine_eq];exact(Nl fun hn1=>fk [_] (.e V0 (.k 1000) (.e (.s (.k 16777216)) V0 K0)) rfl hz hn1))
 ·rw [slicePick_upto'] at N';exact N'
 ·exact Nat.ne_of_lt (Nat.lt_succ_of_lt (Heap.lt_size (N p hp).1))
theorem Ig{value slice:PySem.Expr}{l:Addr}{vs:List Value}{b:Nat}{t:Tok}{Q:Value→Shared→Prop}
  (F:Fr h₀ L s.heap m) (N:News h₀ L s.heap news) (hl:s.heap.IsList l vs.toArray) (hz:vs.length≤1000)
  (h:∀ a h',Fr h₀ L h' m→News h₀ L h' ((a,listOf (vs.drop b).toArray 0)::news)→(∀ p∈news,p.1≠a)→Q (.ref a) { s with heap:=h' })
  (hs:subscripted slice false (.ref l) (.ref s.heap.objs.size)=operate [.ref s.heap.objs.size,.ref l] (getItem (.ref l) (.ref s.heap.objs.size)):=by with_unfolding_all rfl)
  (ht:∀ r,letTemporaryGo value (.ref l) r=pure ():=by intro _;with_unfolding_all rfl) :
  wpAny (model prog w) A (subscriptTail value slice (.ref l) (.ref s.heap.objs.size)) Q E { s with heap:=s.heap.push { cls:=.type "slice",data:=.fields #[.int b t,.none,.none] } }:=by
 refine slice_list F N hl (.int _ _) .none (fun h' F' N'=>h _ h' F' ?_ fun p hp=>?_) hs ht (by rw [List.size_toArray,sizeLine_eq];exact(Nl fun hn1=>fk [_] (.e V0 (.k 1000) (.e (.s (.k 16777216)) V0 K0)) rfl hz hn1))
 ·rw [slicePick_from'] at N';exact N'
 ·exact Nat.ne_of_lt (Nat.lt_succ_of_lt (Heap.lt_size (N p hp).1))
end
end
section
open PySem.Builtin PySem.Builtin.Str PySem.Builtin.Int
theorem Vo{uri:Str}:∀ {a b:List Pr},(∀ q∈a,q∈b)→find uri a≠none→find uri b≠none:=by
 have h1:∀ {l:List Pr},find uri l≠none↔∃ q∈l,q.1=uri:=by
  intro l
  induction l with
  | nil=>simp [find]
  | cons q l ih =>
   unfold find
   by_cases e:q.1=uri
   ·simp [e]
   ·rw [if_neg e,ih];simp [e]
 intro a b k h;obtain⟨q,hq,e⟩:=h1.mp h;exact h1.mpr ⟨q,k q hq,e⟩
theorem Mp{uri:Str}{a b:List Pr}(k:∀ q∈a,q∈b)(h:known a uri):known b uri:=h.imp id (Vo k)
noncomputable abbrev pqL:List Pr:=[("urn:a","p"),("urn:b","q")]
noncomputable def Ga(n:Str):Bool:=Di n && (decide ((cutName n).1=Str.empty) || (find (cutName n).1 (Im++pqL)).isSome)
def Dn(n:Str):Prop:=Ga n=true
theorem Dn.is{n:Str}(h:Dn n):Di n=true∧known (Im++pqL) (cutName n).1:=by
 unfold Dn Ga at h;rw [Bool.and_eq_true,Bool.or_eq_true] at h
 refine⟨h.1,h.2.imp (fun z=>of_decide_eq_true z) fun z e=>?_⟩
 rw [e] at z;cases z
noncomputable def Eb:Told→Prop
 | .start tag attrs=>(tag::attrs.map (·.1)).Nodup∧attrs.length≤3∧(∀ n∈tag::attrs.map (·.1),Dn n)∧∀ a∈attrs,a.2.length≤100∧(Ey a.2).length≤1000
 | .stop tag=>Dn tag
 | .data x=>x.length≤2
 | .comment x=>x="c"
 | .pi x=>x="c"
 | .sns p u=>Ep (u,p)
noncomputable def Lx(d:Nat):Told→Nat
 | .start _ _=>d+1
 | .stop _=>d - 1
 | _=>d
noncomputable def dep:Nat→List Told→Nat
 | d,[]=>d
 | d,c::cs=>dep (Lx d c) cs
noncomputable def Ii(d:Nat):Told→Prop
 | .stop _=>2≤d
 | .comment _=>1≤d
 | .pi _=>1≤d
 | _=>True
noncomputable def Dy:Nat→List Told→Prop
 | _,[]=>True
 | d,c::cs=>Eb c∧Ii d c∧Dy (Lx d c) cs
theorem Hy:∀ {d:Nat} {a b:List Told},dep d (a++b)=dep (dep d a) b
 | _,[],_=>rfl
 | _,_::a,_=>Hy (a:=a)
theorem Dy.append:∀ {d:Nat} {a b:List Told},Dy d (a++b)↔Dy d a∧Dy (dep d a) b
 | _,[],_=>⟨fun h=>⟨trivial,h⟩,fun h=>h.2⟩
 | _,_::a,_=>⟨fun h=>⟨⟨h.1,h.2.1,(Dy.append (a:=a).mp h.2.2).1⟩,(Dy.append (a:=a).mp h.2.2).2⟩,fun h=>⟨h.1.1,h.1.2.1,Dy.append (a:=a).mpr ⟨h.1.2.2,h.2⟩⟩⟩
theorem Cu:∀ {w:WS} {a b:List Told},Az w a→Az (w.run a) b→Az w (a++b)
 | _,[],_,_,h=>h
 | _,_::a,_,h1,h2=>⟨h1.1,Cu (a:=a) h1.2 h2⟩
structure Live (d:Nat) (k:KS):Prop where
 pre:k.pre.length=d+1
 nss:∃ b r,k.nss=Im::b::r∧r.length=d∧∀ q∈pqL,q∈b
 seen:1≤d→k.seen=true
 done:k.done=false
theorem Live.known{d:Nat}{k:KS}(h:Live d k):∀ q∈Im++pqL,q∈flat k.nss:=by
 obtain⟨b,r,e,_,hb⟩:=h.nss;intro q hq;rw [Xz,e]
 rcases List.mem_append.mp hq with z | z
 ·exact⟨_,.head _,z⟩
 ·exact⟨b,.tail _ (.head _),hb q z⟩
theorem Th{α:Type}(q:α)(a b:List α)(r:List (List α)):∃ b' r',Bx q (a::b::r)=a::b'::r'∧r'.length=r.length∧∀ z∈b,z∈b':=by
 rcases List.eq_nil_or_concat r with rfl | ⟨r0,t,rfl⟩
 ·exact⟨b++[q],[],Be q [a] b,rfl,fun z hz=>Ml _ hz⟩
 ·refine⟨b,r0++[t++[q]],?_,by simp,fun _ h=>h⟩
  rw [List.concat_eq_append];exact Be q (a::b::r0) t
theorem Live.step{d:Nat}{k:KS}(h:Live d k){c:Told}(hd:Ii d c):Live (Lx d c) (k.step c):=by
 obtain⟨b,r,e,hr,hb⟩:=h.nss
 cases c with
 | start tag attrs =>
  refine⟨?_,⟨b,r++[[]],?_,by simp [Lx,hr],hb⟩,fun _=>rfl,h.done⟩
  ·show (k.pre++[_]).length=d+1+1
   simp [h.pre]
  ·show k.nss++[[]]=_
   rw [e];rfl
 | stop tag =>
  have hd:2≤d:=hd
  obtain⟨r0,t,er⟩:=Bz (l:=r) (by exact(Nl fun hn1=>fk [_,_] (.e V0 V1 (.e (.k 2) V0 (.e (.s V1) K1 K0))) rfl (Es hr) hd hn1))
  refine⟨?_,⟨b,r0,?_,?_,hb⟩,fun _=>h.seen (by exact(Nl fun hn1=>fk [_] (.e (.k 2) V0 (.e (.s V0) K1 K0)) rfl hd hn1)),?_⟩
  ·show k.pre.dropLast.length=d - 1+1
   rw [List.length_dropLast,h.pre];exact(Nat.le_antisymm (Nl fun hn2=>fk [_,_,_] (.e (.a (.s V0) K1) V1 (.e (.s V1) (.s V2) (.e V2 (.s V0) K0))) rfl hn2 (Nat.le_of_eq (Nat.sub_add_cancel (Nl fun hn3=>fk [_] (.e (.a (.s V0) K1) K1 K0) rfl hn3))) Ln.sba) (Nl fun hn5=>fk [_,_,_] (.e (.s V0) (.s V1) (.e (.s V2) (.s V0) (.e (.s V1) V2 K0))) rfl hn5 Ln.sba (Nat.le_of_eq (Nat.sub_add_cancel (Nl fun hn7=>fk [_] (.e (.k 2) V0 (.e (.s V0) K1 K0)) rfl hd hn7)))))
  ·show k.nss.dropLast=_
   rw [e,er];exact List.dropLast_concat (l₁:=Im::b::r0)
  ·show _=d - 1
   rw [er] at hr;simp at hr;exact(Nat.le_antisymm (Nl fun hn2=>fk [_,_,_] (.e (.s V0) V1 (.e (.s V2) V0 (.e V1 (.s V2) K0))) rfl (El hr) hn2 Ln.sba) (Nl fun hn4=>fk [_,_,_] (.e V0 (.s V1) (.e (.s V1) V2 (.e (.s V2) V0 K0))) rfl (Es hr) hn4 (Nat.le_of_eq (Nat.sub_add_cancel (Nl fun hn5=>fk [_] (.e (.k 2) V0 (.e (.s V0) K1 K0)) rfl hd hn5)))))
  ·show decide (k.pre.length=2)=false
   rw [h.pre]
   exact decide_eq_false (by exact(fun hn1=>fk [_] (.e (.k 2) V0 (.e (.s V0) (.k 2) K0)) rfl hd (El hn1)))
 | sns p u =>
  obtain⟨b',r',e',hr',hb'⟩:=Th (u,p) Im b r
  exact⟨h.pre,⟨b',r',(congrArg (Bx (u,p)) e).trans e',hr'.trans hr,fun q hq=>hb' q (hb q hq)⟩,h.seen,h.done⟩
 | data x=>exact h
 | comment x=>exact h
 | pi x=>exact h
theorem Live.fit{d:Nat}{w:WS}(h:Live d w.core){c:Told}(hd:Ii d c)(hc:Eb c):Cw w c:=by
 have nf:∀ n,Dn n→Ij w n:=fun n hn=>⟨hn.is.1,Mp h.known hn.is.2⟩
 cases c with
 | start tag attrs=>exact⟨hc.1,hc.2.1,fun n hn=>nf n (hc.2.2.1 n hn),hc.2.2.2⟩
 | stop tag =>
  have hd:2≤d:=hd
  exact⟨nf _ hc,by show 2≤w.core.pre.length;rw [h.pre];exact(Nl fun hn1=>fk [_] (.e (.k 2) V0 (.e (.a (.s V0) K1) (.k 2) K0)) rfl hd hn1),h.seen (by exact(Nl fun hn1=>fk [_] (.e (.k 2) V0 (.e (.s V0) K1 K0)) rfl hd hn1))⟩
 | data x=>exact hc
 | comment x =>
  have e:x="c":=hc;subst e
  exact⟨by decide,by decide +kernel,h.seen hd,fun z=>by rw [show w.done=false from h.done] at z;cases z⟩
 | pi x =>
  have e:x="c":=hc;subst e
  exact⟨by decide,by decide +kernel,h.seen hd,h.done,by decide +kernel⟩
 | sns p u=>exact hc
theorem Gr:∀ {d:Nat} {w:WS} {cs:List Told},Live d w.core→Dy d cs→Az w cs∧Live (dep d cs) (w.run cs).core
 | _,_,[],h,_=>⟨trivial,h⟩
 | _,_,_::cs,h,g=>⟨⟨h.fit g.2.1 g.1,(Gr (cs:=cs) (h.step g.2.1) g.2.2).1⟩,(Gr (cs:=cs) (h.step g.2.1) g.2.2).2⟩
theorem Ol:∀ (l:List Str) {w:WS},Live l.length w.core→l≠[]→(∀ t∈l,Dn t)→Az w (l.map .stop++[.comment "d"])
 | [],_,_,h,_=>absurd rfl h
 | [t],w,h,_,ht=>by
  have nf:∀ n,Dn n→Ij w n:=fun n hn=>⟨hn.is.1,Mp h.known hn.is.2⟩
  exact⟨⟨nf _ (ht t (.head _)),by show 2≤w.core.pre.length;rw [h.pre];simp,h.seen (by simp)⟩,⟨by decide,by decide +kernel,h.seen (by simp),fun _=>rfl⟩,trivial⟩
 | t::t2::l,w,h,_,ht=>by
  have hd:Ii (t::t2::l).length (.stop t):=by show 2≤_;simp
  exact⟨h.fit hd (ht t (.head _)),Ol (t2::l) (w:=w.tell (.stop t)) (h.step hd) (by simp) fun x hx=>ht x (.tail _ hx)⟩
structure Shaped (st:List Told × List Str) (cs:List Told):Prop where
 eq:st.1=Told.sns "p" "urn:a"::Told.sns "q" "urn:b"::cs
 good:Dy 0 cs
 dep:dep 0 cs=st.2.length
 some:1≤st.2.length
 tags:∀ t∈st.2,Dn t
theorem okTag(x:Int):Dn (Dm x):=by
 have h:∀ u∈[Str.empty,"","{urn:a}","{urn:b}","{http://www.w3.org/2001/XMLSchema}"],Ga (u++"t")=true:=by decide +kernel
 exact h _ (Dv _)
theorem okKey(i:Int):Dn (Fq i++"k"):=by
 have h:∀ u∈[Str.empty,"","{urn:a}","{urn:b}","{http://www.w3.org/2001/XMLSchema}"],Ga (u++"k")=true:=by decide +kernel
 exact h _ (Dv _)
theorem okSpace:Dn Cv:=by show Ga _=true;decide +kernel
theorem tag_key(x i:Int):Dm x≠Fq i++"k":=by
 have h:∀ u∈[Str.empty,"","{urn:a}","{urn:b}","{http://www.w3.org/2001/XMLSchema}"],∀ v∈[Str.empty,"","{urn:a}","{urn:b}","{http://www.w3.org/2001/XMLSchema}"],u++"t"≠v++"k":=by decide +kernel
 exact h _ (Dv _) _ (Dv _)
theorem Wn(x:Int):Dm x≠Cv:=by
 have h:∀ u∈[Str.empty,"","{urn:a}","{urn:b}","{http://www.w3.org/2001/XMLSchema}"],u++"t"≠Cv:=by decide +kernel
 exact h _ (Dv _)
theorem Vt(i:Int):Fq i++"k"≠Cv:=by
 have h:∀ u∈[Str.empty,"","{urn:a}","{urn:b}","{http://www.w3.org/2001/XMLSchema}"],u++"k"≠Cv:=by decide +kernel
 exact h _ (Dv _)
theorem Jd{α:Type}{d:α}{l:List α}(i:Int):pick d l i∈d::l:=by
 unfold pick;rw [List.getD_eq_getElem?_getD]
 cases e:l[i.toNat]? with
 | none=>exact .head _
 | some v=>exact .tail _ (List.mem_of_getElem? e)
theorem okStart(x:Int):Eb (.start (Dm x) (Eh x)):=by
 have hv:∀ v∈[Str.empty,"preserve","default"],v.length≤100∧(Ey v).length≤1000:=by decide +kernel
 have h1:(Str.ofString "1").length≤100∧(Ey "1").length≤1000:=by decide +kernel
 have hp:=hv _ (Jd (x / 8 / 16 % 2));have a1:=okTag x;have a2:=okKey (x / 8 / 4 % 4);have a3:=okSpace;have b1:=tag_key x (x / 8 / 4 % 4);have b2:=Wn x;have b3:=Vt (x / 8 / 4 % 4);unfold Eh
 split<;>split<;>refine⟨?_,?_,?_,?_⟩<;>simp [a1,a2,a3,b1,b2,b3]<;>first | exact⟨h1,hp⟩ | exact h1 | exact hp
theorem okSns(i j:Int):Ep (pick Str.empty ["urn:a","urn:b",xsUri] i,pick Str.empty ["","p","q","z"] j):=by
 have h:∀ u∈Str.empty::["urn:a","urn:b",xsUri],∀ p∈Str.empty::["","p","q","z"],u.length≤100∧p.length≤200∧(Ey u).length≤1000:=by decide +kernel
 exact h _ (Jd i) _ (Jd j)
theorem okData(i:Int):(pick Str.empty ["t"," "," u","&",""] i).length≤2:=by
 have h:∀ u∈Str.empty::["t"," "," u","&",""],u.length≤2:=by decide +kernel
 exact h _ (Jd i)
theorem Shaped.snoc{st:List Told × List Str}{cs:List Told}(h:Shaped st cs)(c:Told)(l:List Str)(hc:Eb c)(hd:Ii st.2.length c)(hl:Lx st.2.length c=l.length)(h1:1≤l.length)(ht:∀ t∈l,Dn t):Shaped (st.1++[c],l) (cs++[c]):=by
 refine⟨by show st.1++[c]=_;rw [h.eq];rfl,Dy.append.mpr ⟨h.good,?_⟩,?_,h1,ht⟩
 ·rw [h.dep];exact⟨hc,hd,trivial⟩
 ·rw [Hy,h.dep];exact hl
theorem Shaped.step{st:List Told × List Str}{cs:List Told}(h:Shaped st cs)(x:Int):∃ cs',Shaped (Ag st x) cs':=by
 unfold Ag;have h1:=h.some
 split
 ·exact⟨_,h.snoc _ _ (okStart x) trivial (by simp [Lx]) (by simp) fun t ht=>by
   rcases List.mem_append.mp ht with z | z
   ·exact h.tags t z
   ·rw [List.mem_singleton.mp z];exact okTag x⟩
 split
 ·rename_i hx
  refine⟨_,h.snoc _ _ (h.tags _ ?_) (by show 2≤_;exact(Nl fun hn1=>fk [_] (.e (.s K1) V0 (.e (.s V0) (.k 2) K0)) rfl hx.2 hn1)) (by simp [Lx]) (by simp;exact(Nl fun hn1=>fk [_,_] (.e (.s K1) V0 (.e (.s V1) K1 (.e V0 (.s V1) K0))) rfl hx.2 hn1 Ln.sba)) fun t ht=>h.tags t (List.dropLast_subset _ ht)⟩
  obtain⟨b,t,e⟩:=Bz h1;rw [e];simp
 split
 ·split
  ·exact⟨_,h.snoc _ _ rfl h1 rfl h1 h.tags⟩
  ·exact⟨_,h.snoc _ _ rfl h1 rfl h1 h.tags⟩
 split
 ·exact⟨_,h.snoc _ _ (by show Ep _;exact⟨by decide,by decide,by decide +kernel⟩) trivial rfl h1 h.tags⟩
 split
 ·exact⟨_,h.snoc _ _ (okSns _ _) trivial rfl h1 h.tags⟩
 ·exact⟨_,h.snoc _ _ (okData _) trivial rfl h1 h.tags⟩
theorem shaped0:Shaped Fe [.start "r" []]:=by
 refine⟨rfl,⟨⟨by simp,by simp,?_,fun _ z=>nomatch z⟩,trivial,trivial⟩,rfl,by decide,?_⟩
 ·intro n hn
  rw [List.mem_singleton.mp hn];show Ga _=true;decide +kernel
 ·intro n hn
  rw [List.mem_singleton.mp hn];show Ga _=true;decide +kernel
theorem shaped(xs:List Int):∃ cs,Shaped (Ar xs) cs:=by
 have:∀ (ys:List Int) (st:List Told × List Str),(∃ cs,Shaped st cs)→∃ cs,Shaped (ys.foldl Ag st) cs:=by
  intro ys
  induction ys with
  | nil=>exact fun _ h=>h
  | cons y ys ih=>exact fun st ⟨_,h⟩=>ih _ (h.step y)
 exact this _ _ ⟨_,shaped0⟩
noncomputable def Fn(c1 c2:Told):Prop :=
 ∀ (cs:List Told) (hi:∀ a tag b,cs=a++.stop tag::b→3≤(a.foldl Ak [[c1,c2]]).length) (hc:∀ c∈cs,Eb c),∃ ss Ls,cs.foldl Ak [[c1,c2]]=(c1::c2::ss)::Ls∧∀ c∈ss++Ls.flatten,Eb c∧∀ d,Ii d c
theorem Nj:∀ {c1 c2},Fn c1 c2:=by
 refine @(Au Qb<|@(Au Qb<|let_mvar% ?n:=(fun c1 c2=>?_:∀ a b,Fn a b);?n _ _))
 intro cs hi hc
 have:∀ (cs a0:List Told) (L:List (List Told)),L=a0.foldl Ak [[c1,c2]]→(∀ a tag b,a0++cs=a++.stop tag::b→3≤(a.foldl Ak [[c1,c2]]).length)→(∀ c∈cs,Eb c)→(∃ ss Ls,L=(c1::c2::ss)::Ls∧∀ c∈ss++Ls.flatten,Eb c∧∀ d,Ii d c)→∃ ss Ls,cs.foldl Ak L=(c1::c2::ss)::Ls∧∀ c∈ss++Ls.flatten,Eb c∧∀ d,Ii d c:=by
  intro cs
  induction cs with
  | nil=>exact fun _ _ _ _ _ h=>h
  | cons c cs ih =>
   intro a0 L hL hi hc ⟨ss,Ls,e,hm⟩
   refine ih (a0++[c]) (Ak L c) (by rw [List.foldl_append,← hL];rfl) (by simpa using hi) (fun x hx=>hc x (.tail _ hx)) ?_
   have hc1:=hc c (.head _)
   cases c with
   | start tag attrs =>
    refine⟨ss,Ls++[[.start tag attrs]],by rw [e];rfl,fun x hx=>?_⟩
    simp only [List.flatten_append,List.mem_append,List.flatten_cons,List.flatten_nil,List.append_nil,List.mem_singleton] at hx
    rcases hx with z | z | z
    ·exact hm x (Ml _ z)
    ·exact hm x (Mr _ z)
    ·rw [z];exact⟨hc1,fun _=>trivial⟩
   | stop tag =>
    have h3:=hi a0 tag cs rfl;rw [← hL,e] at h3
    obtain⟨b,t,et⟩:=Bz (l:=Ls) (by simp at h3;exact(Nl fun hn1=>fk [_] (.e (.k 2) V0 (.e (.s V0) K1 K0)) rfl h3 hn1))
    refine⟨ss,b,?_,fun x hx=>hm x ?_⟩
    ·show L.dropLast=_
     rw [e,et];exact List.dropLast_concat (l₁:=(c1::c2::ss)::b)
    ·rw [et]
     rcases List.mem_append.mp hx with z | z
     ·exact Ml _ z
     ·simp only [List.flatten_append,List.mem_append];exact .inr (.inl z)
   | sns p u =>
    rcases List.eq_nil_or_concat Ls with rfl | ⟨b,t,rfl⟩
    ·refine⟨ss++[.sns p u],[],?_,fun x hx=>?_⟩
     ·show Bx _ L=_
      rw [e];exact Be _ [] _
     ·simp only [List.flatten_nil,List.append_nil,List.mem_append,List.mem_singleton] at hx
      rcases hx with z | z
      ·exact hm x (Ml _ z)
      ·rw [z];exact⟨hc1,fun _=>trivial⟩
    ·refine⟨ss,b++[t++[.sns p u]],?_,fun x hx=>?_⟩
     ·show Bx _ L=_
      rw [e,List.concat_eq_append];exact Be _ (_::b) _
     ·simp only [List.flatten_append,List.mem_append,List.flatten_cons,List.flatten_nil,List.append_nil,List.mem_singleton] at hx
      rcases hx with z | z | z | z
      ·exact hm x (Ml _ z)
      ·exact hm x (by rw [List.concat_eq_append];simp [z])
      ·exact hm x (by rw [List.concat_eq_append];simp [z])
      ·rw [z];exact⟨hc1,fun _=>trivial⟩
   | data x=>exact⟨ss,Ls,e,hm⟩
   | comment x=>exact⟨ss,Ls,e,hm⟩
   | pi x=>exact⟨ss,Ls,e,hm⟩
 exact this cs [] [[c1,c2]] rfl hi hc ⟨[],[],rfl,fun _ z=>nomatch z⟩
theorem Up:∀ {cs:List Told} {d:Nat},(∀ c∈cs,Eb c∧∀ d,Ii d c)→Dy d cs
 | [],_,_=>trivial
 | c::cs,d,h=>⟨(h c (.head _)).1,(h c (.head _)).2 d,Up fun x hx=>h x (.tail _ hx)⟩
theorem Dy.ok:∀ {cs:List Told} {d:Nat},Dy d cs→∀ c∈cs,Eb c:=by
 intro cs
 induction cs with
 | nil=>exact fun _ _ z=>nomatch z
 | cons a cs ih =>
  intro d h c z
  cases z with
  | head=>exact h.1
  | tail _ z=>exact ih h.2.2 c z
theorem ws0_fit:Fit 0 WS0:=by
 refine⟨by decide,(fun _ z=>nomatch z),by decide,rfl,rfl,by decide,by decide,by decide,by decide,?_,?_⟩
 ·show ∀ q∈flat WS0.decl,q.1.length≤100∧q.2.length≤200∧(Ey q.1).length≤1000
  decide +kernel
 ·show ∀ q∈flat WS0.nss,q.1.length≤100∧q.2.length≤200∧(Ey q.1).length≤1000
  decide +kernel
noncomputable abbrev Ji:Told:=.sns "p" "urn:a"
noncomputable abbrev Jj:Told:=.sns "q" "urn:b"
noncomputable abbrev Aw:Told:=.sns "y" "urn:y"
theorem okY:Eb Aw:=⟨by decide,by decide,by decide +kernel⟩
theorem Mg:Az WS0 [Ji,Jj]∧Live 0 (WS0.run [Ji,Jj]).core:=by
 refine⟨⟨⟨by decide,by decide,by decide +kernel⟩,⟨by decide,by decide,by decide +kernel⟩,trivial⟩,rfl,⟨pqL,[],rfl,rfl,fun _ h=>h⟩,fun h=>absurd h (by decide),rfl⟩
theorem Rk{cs:List Told}(h:Az (WS0.run [Ji,Jj]) cs):Az WS0 (Ji::Jj::cs):=Cu (a:=[Ji,Jj]) Mg.1 h
theorem link11(xs:List Int)(pn:Nat)(c:Told)(h:(Aa xs)[pn]?=some c)(hc:Eg c=true) :
  Fit 0 WS0∧Az WS0 ((Aa xs).take pn++Aw::(Aa xs).drop pn)∧Az WS0 ((Af ((Aa xs).take pn)).flatten++Aw::(Aa xs).drop pn):=by
 have hin:=Gu xs h hc;obtain⟨cs,hs⟩:=shaped xs
 have e1:Aa xs=Ji::Jj::(cs++((Ar xs).2.reverse.map .stop++[.comment "d"])):=by
  unfold Aa;rw [hs.eq];simp
 rw [e1] at h
 obtain⟨n,rfl,hn⟩:∃ n,pn=n+2∧n<cs.length:=by
  rcases pn with _ | _ | n
  ·simp at h;subst h;cases hc
  ·simp at h;subst h;cases hc
  ·refine⟨n,rfl,?_⟩
   rcases Nat.lt_or_ge n cs.length with z | z
   ·exact z
   ·exfalso
    simp only [List.getElem?_cons_succ] at h
    rw [List.getElem?_append_right z] at h;have hm:=List.mem_of_getElem? h
    rcases List.mem_append.mp hm with q | q
    ·obtain⟨t,_,rfl⟩:=List.mem_map.mp q
     cases hc
    ·rw [List.mem_singleton.mp q] at hc;cases hc
 have e2:(Aa xs).take (n+2)=Ji::Jj::cs.take n:=by
  rw [e1];simp only [List.take_succ_cons];rw [List.take_append_of_le_length (Nat.le_of_lt hn)]
 have e3:(Aa xs).drop (n+2)=cs.drop n++((Ar xs).2.reverse.map .stop++[.comment "d"]):=by
  rw [e1];simp only [List.drop_succ_cons];rw [List.drop_append_of_le_length (Nat.le_of_lt hn)]
 have hg:Dy 0 (cs.take n++cs.drop n):=by rw [List.take_append_drop];exact hs.good
 have hdp:dep 0 (cs.take n++cs.drop n)=(Ar xs).2.reverse.length:=by rw [List.take_append_drop,List.length_reverse];exact hs.dep
 obtain⟨g1,g2⟩:=Dy.append.mp hg;rw [Hy] at hdp
 have htail:∀ w:WS,Live (dep 0 (cs.take n)) w.core→Az w (Aw::(cs.drop n++((Ar xs).2.reverse.map .stop++[.comment "d"]))):=by
  intro w hw;have gy:Dy (dep 0 (cs.take n)) (Aw::cs.drop n):=⟨okY,trivial,g2⟩;obtain⟨r1,r2⟩:=Gr hw gy;have ed:dep (dep 0 (cs.take n)) (Aw::cs.drop n)=(Ar xs).2.reverse.length:=hdp;rw [ed] at r2
  refine Cu (a:=Aw::cs.drop n) r1 (Ol _ r2 ?_ fun t ht=>hs.tags t (List.mem_reverse.mp ht))
  intro z;have:=hs.some;rw [← List.length_reverse,z] at this
  simp at this
 obtain⟨p1,p2⟩:=Gr Mg.2 g1;rw [e2] at hin ⊢;rw [e3];refine⟨ws0_fit,?_,?_⟩
 ·exact Rk (Cu p1 (htail _ p2))
 ·have hlv:=Ht (w:=WS0) ⟨[Im],[],rfl⟩ rfl rfl _ hin
  obtain⟨ss,Ls,es,hm⟩:=Nj (c1:=Ji) (c2:=Jj) (cs.take n) (fun a tag b e=>hin (Ji::Jj::a) tag b (by rw [e];rfl)) g1.ok
  have es':Af (Ji::Jj::cs.take n)=(Ji::Jj::ss)::Ls:=es;rw [es'] at hlv ⊢
  have ef:((Ji::Jj::ss)::Ls).flatten=Ji::Jj::(ss++Ls.flatten):=by simp
  rw [ef] at hlv ⊢;obtain⟨q1,q2⟩:=Gr Mg.2 (Up (d:=0) hm);refine Rk (Cu q1 (htail _ ?_));have:Live (dep 0 (cs.take n)) (WS0.run (Ji::Jj::cs.take n)).core:=p2;rw [hlv] at this;exact this
end
section

section
variable{prog:Program}{w:World}{A:Around}{E:Value→Shared→Prop}{s:Shared}
theorem Yd{value slice:PySem.Expr}{D:Addr}{ys:List Value}{is:List Int}{i:Int}{t:Tok}{Q:Value→Shared→Prop}(hl:s.heap.IsList D ys.toArray)(hys:Pn ys is)(h0:0≤i)(h1:i<ys.length)(h2:ys.length≤100)
  (h:∀ pl tpl,is[i.toNat]?=some pl→Q (.int pl tpl) s)
  (hs:subscripted slice false (.ref D) (.int i t)=operate [.ref D,.int i t] (getItem (.ref D) (.int i t)):=by with_unfolding_all rfl) :
  wpAny (model prog w) A (subscriptTail value slice (.ref D) (.int i t)) Q E s:=by
 obtain⟨k,rfl⟩:=Int.eq_ofNat_of_zero_le h0
 have hk:k<ys.length:=by lia
 have hk2:k<is.length:=by rw [← All2.length hys];exact hk
 obtain⟨v,e1,tk,e2⟩:=All2.get hys (List.getElem?_eq_getElem hk2);subst e2
 refine tail_any hl.typeIs PySem.F.slot_list_getitem.lookup (wpAny_getItem_list hl h0 (by lia) (x:=.int is[k] tk) ?_ (h _ tk ?_)) hs
 ·rw [Int.toNat_natCast,List.getElem?_toArray];exact e1
 ·rw [Int.toNat_natCast];exact List.getElem?_eq_getElem hk2
end
theorem pk_lo{a:Int}(h:0≤a):0≤2+a:=by lia
theorem pk_hi{a b c:Int}(h:a<b - 2)(e:b=c):2+a<c:=by lia
end
section

section
variable{prog:Program}{w:World}{A:Around}{E:Value→Shared→Prop}{s:Shared}
theorem Xh{a b:Addr}{p q:List (Str × Tok)}{Q:Value→Shared→Prop}(hl:s.heap.IsList a (strValues p).toArray)(hb:s.heap.IsList b (strValues q).toArray)(he:p.map (·.1)=q.map (·.1))(hu:A.units<cLine)(h:Q (.bool true) s) :
  wpAny (model prog w) A (compareOp .Eq (.ref a) (.ref b)) Q E s:=by
 have zd:p.length=q.length:=by have:=congrArg List.length he;simpa using this
 refine SeqAt.eq_listAt (e:=fun _=>true) hl hb (by simp [strValues,zd]) hu (fun j h1 h2=>?_) (by rw [List.all_eq_true.mpr (fun _ _=>rfl)];exact h)
 have h1':j<p.length:=by simpa [strValues] using h1
 have h2':j<q.length:=by simpa [strValues] using h2
 have e1:(strValues p).toArray[j]=.str p[j].1 p[j].2:=by simp [strValues]
 have e2:(strValues q).toArray[j]=.str q[j].1 q[j].2:=by simp [strValues]
 have e3:p[j].1=q[j].1:=by
  have:=congrArg (fun l=>l[j]?) he
  simp only [List.getElem?_map,List.getElem?_eq_getElem h1',List.getElem?_eq_getElem h2',Option.map_some,Option.some.injEq] at this
  exact this
 rw [e1,e2];have:=SeqAt.EqAt.str_str (A:=A.in1) (s:=s) p[j].1 p[j].2 q[j].1 q[j].2;rw [e3] at this ⊢
 simpa using this
end
noncomputable def Jc(a:Addr):Prop :=
 ∀ (f:FD) (w:WS) (x:Addr) (h:a∈f.eight x),∃ q∈f.own w x,q.1=a
theorem Ic:∀ {a},Jc a:=by
 refine @(Au neI<|let_mvar% ?n:=(fun a=>?_:∀ a,Jc a);?n _)
 intro f w x h
 simp only [FD.eight,List.mem_cons,List.not_mem_nil,or_false] at h
 rcases h with rfl | rfl | rfl | rfl | rfl | rfl | rfl | rfl
 ·exact⟨_,.head _,rfl⟩
 ·exact⟨_,.tail _ (.head _),rfl⟩
 ·exact⟨_,.tail _ (.tail _ (.head _)),rfl⟩
 ·exact⟨_,.tail _ (.tail _ (.tail _ (.head _))),rfl⟩
 ·exact⟨_,.tail _ (.tail _ (.tail _ (.tail _ (.head _)))),rfl⟩
 ·exact⟨_,.tail _ (.tail _ (.tail _ (.tail _ (.tail _ (.head _))))),rfl⟩
 ·exact⟨_,.tail _ (.tail _ (.tail _ (.tail _ (.tail _ (.tail _ (.head _)))))),rfl⟩
 ·exact⟨_,.tail _ (.tail _ (.tail _ (.tail _ (.tail _ (.tail _ (.tail _ (.head _))))))),rfl⟩
theorem Lo(f:FD)(w:WS)(x:Addr){o:Addr}(e:f.out=o):(o,listOf (strValues f.ol).toArray f.n2)∈f.own w x:=by rw [← e];exact .tail _ (.tail _ (.tail _ (.head _)))
theorem Yc(f:FD)(w:WS)(x:Addr){q:Addr × Obj}(h:q∈f.own w x):q.1∈f.eight x∨q∈f.rest:=by
 rcases List.mem_append.mp h with z | z
 ·exact .inl (List.mem_map_of_mem (f:=Prod.fst) z)
 ·exact .inr z
theorem Hg{f:FD}{w:WS}{x:Addr}{tabs:List (Addr × Obj)}(d:Dis (f.own w x) tabs):f.Off x tabs:=by
 intro r hr
 refine⟨fun z=>?_,fun q hq e=>d q (Mr _ hq) r hr e.symm⟩
 obtain⟨q,hq,e⟩:=Ic f w x z;exact d q hq r hr e
theorem It{f:FD}{w:WS}{x:Addr}{tabs:List (Addr × Obj)}(h:f.Off x tabs):Dis (f.own w x) tabs:=by
 intro p hp r hr e
 rcases Yc f w x hp with y | y
 ·exact(h r hr).1 (e ▸ y)
 ·exact(h r hr).2 p y e.symm
theorem Dis.symm{a b:List (Addr × Obj)}(h:Dis a b):Dis b a:=fun p hp q hq e=>h q hq p hp e.symm
theorem Dis.sub{a b a' b':List (Addr × Obj)}(h:Dis a b)(h1:∀ p∈a',p∈a)(h2:∀ p∈b',p∈b):Dis a' b':=fun p hp q hq=>h p (h1 p hp) q (h2 q hq)
theorem Dis.left{a b c:List (Addr × Obj)}(h1:Dis a c)(h2:Dis b c):Dis (a++b) c:=fun p hp q hq=>by
 rcases List.mem_append.mp hp with z | z
 ·exact h1 p z q hq
 ·exact h2 p z q hq
theorem Dis.right{a b c:List (Addr × Obj)}(h1:Dis a b)(h2:Dis a c):Dis a (b++c):=fun p hp q hq=>by
 rcases List.mem_append.mp hq with z | z
 ·exact h1 p hp q z
 ·exact h2 p hp q z
theorem Dis.cons{a b:List (Addr × Obj)}{I:Addr}{o:Obj}(h1:∀ p∈a,p.1≠I)(h2:Dis a b):Dis a ((I,o)::b):=fun p hp q hq=>by
 rcases List.mem_cons.mp hq with z | z
 ·rw [z];exact h1 p hp
 ·exact h2 p hp q z
inductive TwoJ (W:World) (M0:Str→Option Value) (x1 x2 o1 o2:Addr) (cs:List Told) (rest:List (Addr × Obj)) (w1 w2:WS) (n0:Nat) (rem:List Value) (m:Str→Option Value) (own:List (Addr × Obj)):Prop
 | mk (cs1 cs2:List Told) (f1 f2:FD) (tabs:List (Addr × Obj)) (u:Option Value) (h0:cs=cs1++cs2) (h1:All2 (Bq W rest) rem cs2) (h2:m=(fun y=>if y=Str.ofString "call" then u else M0 y)) (h3:(f1.out=o1∧f2.out=o2)) (h4:(f1.Is (w1.run cs1) x1∧f2.Is (w2.run cs1) x2)) (h5:(f1.Off x1 tabs∧f2.Off x2 tabs)) (h6:Lq tabs) (h7:(Fit (n0+cs1.length) (w1.run cs1)∧Fit (n0+cs1.length) (w2.run cs1))) (h8:(Az (w1.run cs1) cs2∧Az (w2.run cs1) cs2)) (h9:own=f1.own (w1.run cs1) x1++tabs++(f2.own (w2.run cs1) x2++rest)) (h10:Dis (f1.own (w1.run cs1) x1++tabs) (f2.own (w2.run cs1) x2++rest)) (h11:Dis (f2.own (w2.run cs1) x2) rest):TwoJ W M0 x1 x2 o1 o2 cs rest w1 w2 n0 rem m own
section
variable{W:World}{g:Heap}{L I x1 x2 out1 out2:Addr}{oI:Obj}{cs cs1 cs2:List Told}{c:Told}{os:OsState}{m M0:Str→Option Value}{rest tabs2:List (Addr × Obj)}{rem:List Value}{s':Shared}{f1 f2:FD}{w1 w2:WS}{n0:Nat}{u:Option Value}
theorem Yy(e:cs=cs1++c::cs2)(hr:All2 (Bq W rest) rem cs2)(hm:m=(fun y=>if y=Str.ofString "call" then u else M0 y))(ho:f1.out=out1∧f2.out=out2)(hI1:f1.Is ((w1.run cs1).tell c) x1)(hI2:f2.Is ((w2.run cs1).tell c) x2)(hT:f2.Off x2 tabs2)(hLT:Lq tabs2)
  (hf1:Fit (n0+cs1.length) (w1.run cs1)) (hf2:Fit (n0+cs1.length) (w2.run cs1)) (hrf1:Az (w1.run cs1) (c::cs2)) (hrf2:Az (w2.run cs1) (c::cs2)) (F:Fr g L s'.heap m)
  (N:News g L s'.heap (f2.own ((w2.run cs1).tell c) x2++tabs2++(f1.own ((w1.run cs1).tell c) x1++(I,oI)::rest))) (d1:Dis (f1.own ((w1.run cs1).tell c) x1) ((I,oI)::rest)) (d2:Dis (f2.own ((w2.run cs1).tell c) x2++tabs2) (f1.own ((w1.run cs1).tell c) x1++(I,oI)::rest))
  (nI:∀ p∈rest,p.1≠I) (o1:s'.os=os) (b1:AllBare s'.gens) :
  ∃ m'' own',TwoJ W M0 x1 x2 out1 out2 cs rest w1 w2 n0 rem m'' own'∧Fr g L s'.heap m''∧News g L s'.heap ((I,oI)::own')∧(∀ p∈own',p.1≠I)∧s'.os=os∧AllBare s'.gens:=by
 have d21:Dis (f2.own ((w2.run cs1).tell c) x2) (f1.own ((w1.run cs1).tell c) x1):=d2.sub (fun _ z=>Ml _ z) (fun _ z=>Ml _ z)
 have dt1:Dis tabs2 (f1.own ((w1.run cs1).tell c) x1):=d2.sub (fun _ z=>Mr _ z) (fun _ z=>Ml _ z)
 have d2r:Dis (f2.own ((w2.run cs1).tell c) x2) rest:=d2.sub (fun _ z=>Ml _ z) (fun _ z=>Mr _ (.tail _ z))
 have dtr:Dis tabs2 rest:=d2.sub (fun _ z=>Mr _ z) (fun _ z=>Mr _ (.tail _ z))
 have d1r:Dis (f1.own ((w1.run cs1).tell c) x1) rest:=d1.sub (fun _ z=>z) (fun _ z=>.tail _ z)
 have dt2:Dis (f2.own ((w2.run cs1).tell c) x2) tabs2:=It hT
 refine⟨m,f1.own ((w1.run cs1).tell c) x1++tabs2++(f2.own ((w2.run cs1).tell c) x2++rest),⟨cs1++[c],cs2,f1,f2,tabs2,u,by rw [e];simp,hr,hm,ho,?_,⟨Hg dt1.symm,hT⟩,hLT,?_,?_,?_,?_,?_⟩,F,News.sub N ?_,?_,o1,b1⟩
 ·rw [Bj,Bj];exact⟨hI1,hI2⟩
 ·rw [Bj,Bj,List.length_append]
  exact⟨hf1.tell hrf1.1,hf2.tell hrf2.1⟩
 ·rw [Bj,Bj];exact⟨hrf1.2,hrf2.2⟩
 ·rw [Bj,Bj]
 ·rw [Bj,Bj];exact(d21.symm.right d1r).left (dt2.symm.right dtr)
 ·rw [Bj];exact d2r
 ·intro q hq
  rcases List.mem_cons.mp hq with rfl | hq
  ·exact Mr _ (Mr _ (.head _))
  rcases List.mem_append.mp hq with z | z
  ·rcases List.mem_append.mp z with z | z
   ·exact Mr _ (Ml _ z)
   ·exact Ml _ (Mr _ z)
  ·rcases List.mem_append.mp z with z | z
   ·exact Ml _ (Ml _ z)
   ·exact Mr _ (Mr _ (.tail _ z))
 ·intro p hp
  rcases List.mem_append.mp hp with z | z
  ·rcases List.mem_append.mp z with z | z
   ·exact d1 p z (I,oI) (.head _)
   ·exact d2 p (Mr _ z) (I,oI) (Mr _ (.head _))
  ·rcases List.mem_append.mp z with z | z
   ·exact d2 p (Ml _ z) (I,oI) (Mr _ (.head _))
   ·exact nI p z
end
theorem Fit.le{n k:Nat}{w:WS}(h:Fit n w)(hk:n≤k):Fit k w :=
 ⟨Nat.le_trans h.d1 hk,h.d2,Nat.le_trans h.o1 (Nat.mul_le_mul_left 4 hk),h.l1,h.l2,Nat.le_trans h.l3 (Nat.succ_le_succ hk),h.l4,Nat.le_trans h.f1 (by exact(Nl fun hn1=>fk [_,_] (.c 4 V0 V1 (.e (.a (.a (.m 4 V1) K1) K1) (.a (.m 4 V0) K1) K0)) rfl hk hn1)),Nat.le_trans h.f2 (by exact(Nl fun hn1=>fk [_,_] (.e V0 V1 (.e (.a (.a V1 (.k 7)) K1) (.a V0 (.k 7)) K0)) rfl hk hn1)),h.g1,h.g2⟩
theorem call_in{M0:Str→Option Value}{a b:Str}{va vb u:Option Value}(ha:a≠"call")(hb:b≠"call") :
  (fun y=>if y=a then va else if y=b then vb else if y=Str.ofString "call" then u else M0 y)=fun y=>if y=Str.ofString "call" then u else(fun y=>if y=a then va else if y=b then vb else M0 y) y:=by
 funext y
 by_cases h:y="call"
 ·subst h;simp [Ne.symm ha,Ne.symm hb]
 ·simp [h]
theorem Az.right:∀ {w:WS} {a b:List Told},Az w (a++b)→Az (w.run a) b
 | _,[],_,h=>h
 | _,_::a,_,h=>Az.right (a:=a) h.2
theorem All2.drop_{α β:Type}{P:α→β→Prop}:∀ {l:List α} {r:List β},All2 P l r→∀ n,All2 P (l.drop n) (r.drop n)
 | _,_,.nil,n=>by simp;exact .nil
 | _,_,.cons h t,0=>.cons h t
 | _,_,.cons h t,n+1=>All2.drop_ t n
theorem Gw(l:List (Str × Tok))(n:Nat):(strValues l).drop n=strValues (l.drop n):=by unfold strValues;rw [List.map_drop]
end
section

noncomputable def EndTrue(tabs:List (Addr × Addr))(s₁:Shared)(r:Result)(s':Shared):Prop :=
 r=.ok (.ret (.bool true))∧(∀ b o,(ghostOf s₁.heap tabs).get? b=some o→s'.heap.get? b=some o)∧s'.os=s₁.os∧AllBare s'.gens∧GrownAll tabs s'.heap
theorem Xf{M:Model}{A:Around}{cd:Code}{s s₁:Shared}{cw:ClaimW}{cl:Str→Option Addr}{zr:ExcName→Option Value}{args:List WData}{tabs:List (Addr × Addr)}(hT:TabsAt tabs s₁.heap)(hr:∀ a x,cw.raises a x=false)(hp:cw.post args (.bool true) args=true)
  (h:codeAny M A cd (EndTrue tabs s₁) s):codeAny M A cd (GoodWG cw cl zr args s₁) s:=by
 refine codeAny_mono h fun r s' z=>?_
 obtain⟨hv,hk,hos,hg,hgr⟩:=z
 have two:∀ b o,s₁.heap.get? b=some o→s'.heap.get? b=some o∨(isCodeTable s₁.heap b∧o=tabObj #[]∧∃ ps,s'.heap.get? b=some (tabObj ps)):=by
  intro b o e
  by_cases hb:b∈tabs.map (·.2)
  ·right
   obtain⟨q,hq,rfl⟩:=List.mem_map.mp hb;obtain⟨c1,c2⟩:=hT q hq;rw [c2] at e
   injection e with e
   exact⟨(c1.tab c2).isCodeTable,e.symm,hgr.get q hq⟩
  ·exact .inl (hk b o (ghost_ne e hb))
 subst hv
 refine⟨.inl ⟨.bool true,.bool true,[],rfl,fun c=>hr args c,.bool ..,hp,fun _=>⟨.nil,fun _ z=>nomatch z⟩⟩,⟨fun b o e=>?_,fun b o e=>?_⟩,hos,hg⟩
 ·rcases two b o e with z | ⟨z1,rfl,ps,z3⟩
  ·exact .inl z
  ·exact .inr (.inl ⟨z1,rfl,#[],ps,rfl,by simpa using z3⟩)
 ·rcases two b o e with z | ⟨_,_,ps,z3⟩
  ·exact⟨o,z⟩
  ·exact⟨_,z3⟩
end
theorem rs18:True∧True:=by
 (try walk1);(try w_top off)
 all_goals (first | trivial | exact ⟨trivial,trivial⟩)
section

open PyProof.Rows.LCg
theorem Xr:∀ {vs:List Value} {xs:List Int},IntsAre vs xs→∃ zs:List (Int × Tok),vs=By zs∧zs.map (·.1)=xs:=by
 intro vs xs h
 induction h with
 | nil=>exact⟨[],rfl,rfl⟩
 | cons n t _ ih=>obtain⟨zs,e1,e2⟩:=ih;exact⟨(n,t)::zs,by rw [e1];rfl,by rw [← e2];rfl⟩
theorem Vh{M0:Str→Option Value}(h:M0 (Str.ofString "call")=none):M0=fun y=>if y=Str.ofString "call" then none else M0 y:=by
 funext y
 by_cases e:y="call"
 ·rw [e,if_pos rfl];exact h
 ·rw [if_neg e]
theorem Az.left:∀ {w:WS} {a b:List Told},Az w (a++b)→Az w a
 | _,[],_,_=>trivial
 | _,_::_,_,h=>⟨h.1,h.2.left⟩
theorem All2.take_{α β:Type}{P:α→β→Prop}:∀ {l:List α} {r:List β},All2 P l r→∀ n,All2 P (l.take n) (r.take n):=by
 intro l r h
 induction h with
 | nil=>intro n;rw [List.take_nil,List.take_nil];exact .nil
 | cons h t ih =>
  intro n
  cases n with
  | zero=>exact .nil
  | succ n=>exact .cons h (ih n)
theorem lt0_11:Lq [(116,tabObj #[])]:=.inl rfl
theorem TellJ.out{W:World}{M0:Str→Option Value}{x out:Addr}{cs:List Told}{rest:List (Addr × Obj)}{w0:WS}{n0:Nat}{rem:List Value}{m:Str→Option Value}{own:List (Addr × Obj)}{G:Prop}(h:TellJ W M0 x out cs rest w0 n0 rem m own)
  (k:∀ (cs1 cs2:List Told) (f:FD) (tabs:List (Addr × Obj)) (u:Option Value),cs=cs1++cs2→All2 (Bq W rest) rem cs2→m=(fun y=>if y=Str.ofString "call" then u else M0 y)→f.out=out→f.Is (w0.run cs1) x→f.Off x tabs→Lq tabs→Fit (n0+cs1.length) (w0.run cs1)→Az (w0.run cs1) cs2→own=f.own (w0.run cs1) x++tabs++rest→Dis (f.own (w0.run cs1) x++tabs) rest→G):G :=
 h.casesOn fun cs1 cs2 f tabs u h0 h1 h2 h3 h4 h5 h6 h7 h8 h9 h10=>k cs1 cs2 f tabs u h0 h1 h2 h3 h4 h5 h6 h7 h8 h9 h10
theorem Qr{α β:Type}{P:α→β→Prop}{r:List β}(h:All2 P [] r):r=[]:=by
 cases h;rfl
theorem TellJ.fin{W:World}{M0:Str→Option Value}{x out:Addr}{cs:List Told}{rest:List (Addr × Obj)}{w0:WS}{n0:Nat}{m:Str→Option Value}{own:List (Addr × Obj)}{G:Prop}(h:TellJ W M0 x out cs rest w0 n0 [] m own)
  (k:∀ (f:FD) (tabs:List (Addr × Obj)) (u:Option Value),m=(fun y=>if y=Str.ofString "call" then u else M0 y)→f.out=out→f.Is (w0.run cs) x→f.Off x tabs→Lq tabs→Fit (n0+cs.length) (w0.run cs)→own=f.own (w0.run cs) x++tabs++rest→Dis (f.own (w0.run cs) x++tabs) rest→G):G:=by
 cases h with
 | mk cs1 cs2 f tabs u h0 h1 h2 h3 h4 h5 h6 h7 h8 h9 h10 =>
  cases Qr h1
  rw [List.append_nil] at h0;subst h0;exact k f tabs u h2 h3 h4 h5 h6 h7 h9 h10
theorem TwoJ.out{W:World}{M0:Str→Option Value}{x1 x2 o1 o2:Addr}{cs:List Told}{rest:List (Addr × Obj)}{w1 w2:WS}{n0:Nat}{rem:List Value}{m:Str→Option Value}{own:List (Addr × Obj)}{G:Prop}(h:TwoJ W M0 x1 x2 o1 o2 cs rest w1 w2 n0 rem m own)
  (k:∀ (cs1 cs2:List Told) (f1 f2:FD) (tabs:List (Addr × Obj)) (u:Option Value),cs=cs1++cs2→All2 (Bq W rest) rem cs2→m=(fun y=>if y=Str.ofString "call" then u else M0 y)→f1.out=o1∧f2.out=o2→f1.Is (w1.run cs1) x1∧f2.Is (w2.run cs1) x2→f1.Off x1 tabs∧f2.Off x2 tabs→Lq tabs→Fit (n0+cs1.length) (w1.run cs1)∧Fit (n0+cs1.length) (w2.run cs1)→Az (w1.run cs1) cs2∧Az (w2.run cs1) cs2→own=f1.own (w1.run cs1) x1++tabs++(f2.own (w2.run cs1) x2++rest)→Dis (f1.own (w1.run cs1) x1++tabs) (f2.own (w2.run cs1) x2++rest)→Dis (f2.own (w2.run cs1) x2) rest→G):G :=
 h.casesOn fun cs1 cs2 f1 f2 tabs u h0 h1 h2 h3 h4 h5 h6 h7 h8 h9 h10 h11=>k cs1 cs2 f1 f2 tabs u h0 h1 h2 h3 h4 h5 h6 h7 h8 h9 h10 h11
theorem TwoJ.fin{W:World}{M0:Str→Option Value}{x1 x2 o1 o2:Addr}{cs:List Told}{rest:List (Addr × Obj)}{w1 w2:WS}{n0:Nat}{m:Str→Option Value}{own:List (Addr × Obj)}{G:Prop}(h:TwoJ W M0 x1 x2 o1 o2 cs rest w1 w2 n0 [] m own)
  (k:∀ (f1 f2:FD) (tabs:List (Addr × Obj)) (u:Option Value),m=(fun y=>if y=Str.ofString "call" then u else M0 y)→f1.out=o1∧f2.out=o2→f1.Is (w1.run cs) x1∧f2.Is (w2.run cs) x2→Lq tabs→Fit (n0+cs.length) (w1.run cs)∧Fit (n0+cs.length) (w2.run cs)→own=f1.own (w1.run cs) x1++tabs++(f2.own (w2.run cs) x2++rest)→G):G:=by
 cases h with
 | mk cs1 cs2 f1 f2 tabs u h0 h1 h2 h3 h4 h5 h6 h7 h8 h9 h10 h11 =>
  cases Qr h1
  rw [List.append_nil] at h0;subst h0;exact k f1 f2 tabs u h2 h3 h4 h6 h7 h9
theorem fr_none{g:Heap}{L:Addr}{h:Heap}{m:Str→Option Value}(F:Fr g L h m)(e:m (Str.ofString "call")=none):Fr g L h (fun y=>if y=Str.ofString "call" then none else m y):=Eq.mp (congrArg (fun M=>Fr g L h M) (Vh e)) F
theorem fr_in{g:Heap}{L:Addr}{h:Heap}{M0:Str→Option Value}{a b:Str}{va vb u:Option Value}(F:Fr g L h (fun y=>if y=a then va else if y=b then vb else if y="call" then u else M0 y))(ha:a≠"call")(hb:b≠"call"):Fr g L h (fun y=>if y="call" then u else if y=a then va else if y=b then vb else M0 y):=Eq.mp (congrArg (fun M=>Fr g L h M) (call_in ha hb)) F
theorem Pm{w A s prog E h₀ L m env os iter test x1 x2 y pe p1 p2 tp pos py spos k scope cl Q}(h:Heap)(_:Fr h₀ L h m)(ok):Dw w A s prog E h₀ L m env os iter test x1 x2 y pe p1 p2 tp pos py spos k scope cl Q ok:=Qp ok
theorem Rf{W A s prog E g L env os target body ax its R own M0 u x out cs rest w0 n0}(_:Fr g L s.heap (fun y=>if y="call" then u else M0 y)):Ez W A s prog E g L env os target body ax its R (fun rem m own=>TellJ W M0 x out cs rest w0 n0 rem m own) (fun y=>if y="call" then u else M0 y) own:=Gq _
theorem for_two{W A s prog E g L env os target body ax its R own M0 u x1 x2 o1 o2 cs rest w1 w2 n0}(_:Fr g L s.heap (fun y=>if y="call" then u else M0 y)):Ez W A s prog E g L env os target body ax its R (fun rem m own=>TwoJ W M0 x1 x2 o1 o2 cs rest w1 w2 n0 rem m own) (fun y=>if y="call" then u else M0 y) own:=Gq _
theorem TellJ.src{W:World}{M0:Str→Option Value}{x out:Addr}{cs:List Told}{rest:List (Addr × Obj)}{w0:WS}{n0:Nat}{rem:List Value}{m:Str→Option Value}{own:List (Addr × Obj)}(h:TellJ W M0 x out cs rest w0 n0 rem m own){p:Addr × Obj}(hp:p∈rest):p∈own:=by
 cases h with
 | mk cs1 cs2 f tabs u h0 h1 h2 h3 h4 h5 h6 h7 h8 h9 h10=>rw [h9];exact Mr _ hp
theorem TwoJ.src{W:World}{M0:Str→Option Value}{x1 x2 o1 o2:Addr}{cs:List Told}{rest:List (Addr × Obj)}{w1 w2:WS}{n0:Nat}{rem:List Value}{m:Str→Option Value}{own:List (Addr × Obj)}(h:TwoJ W M0 x1 x2 o1 o2 cs rest w1 w2 n0 rem m own){p:Addr × Obj}(hp:p∈rest):p∈own:=by
 cases h with
 | mk cs1 cs2 f1 f2 tabs u h0 h1 h2 h3 h4 h5 h6 h7 h8 h9 h10 h11=>rw [h9];exact Mr _ (Mr _ hp)
theorem law11:rw_dn0283_11.Holds:=by
 refine hd11 ?_
 k_fill
 with_reducible refine let_mvar% ?zq1:=(fun w s₀ s₁ mg mb=>?_:Fa5 _);Ee (neW.elim fun w=>⟨(w,{},{},default,default)⟩) (Lm:Tie _ (type_of% ?zq1)) (?zq1 _ _ _ _ _)
 intro G0 Y0
 with_reducible refine let_mvar% ?zq2:=(fun fa o pm cd doc dV kV=>?_:Fa7 _);Dr neI (Kc:Tie _ (type_of% ?zq2)) (?zq2 _ _ _ _ _ _ _)
 intro ho hd hcd hD hmg hg
 with_reducible refine let_mvar% ?zq3:=(fun args vals as=>?_:Fa3 _);Am neI (Bu:Tie _ (type_of% ?zq3)) (?zq3 _ _ _)
 intro hpre hlay hrd hwl hlo;have KX:=km_in_of Y0
 km_tabs Y0
 have X0:=(Ground.X G0).1;have VV0:=(Ground.X G0).2;refine Ground.open G0 ?_;intro T0 B0 D TE TW
 try (refine guard_noD D (by decide +kernel) ?_;clear D)
 km_lay T0 hmg ho hd cd
 clear hmg
 wrow_args hpre hlay hrd hwl hlo
 all_goals (
  first | refine callC_kw (enter_call ?_) | refine enter_call ?_
  w_top on
  refine Xf hT9 (fun _ _=>rfl) ?hp ?_
  case hp=>exact postW_of (by first | assumption | wrow_shape) (by wtm_val) (by w_fin)
  w_call any ho hd hcd hD T0 F
  clear hd
  kn_ghosts F T0
  k_drop
  skip)
 rename_i xs hs0 hlay9 hL1 hr1 hl2 ws1 ws2 sa vs ws3 hL2 ra w1 r0 hI hr2 hcond1 hcond2 h₁ X T K' F1 N1 l0
 have hbare:AllBare s₁.gens:=by exact AllBare.of_eq hg
 clear hs0 hlay9 hL1 hr1 hl2 hL2 ra w1 r0 hr2 hcond2
 (try clear ws1)
 (try clear ws2)
 (try clear ws3)
 revert xs sa vs h₁
 with_reducible refine let_mvar% ?zq4:=(fun xs sa vs=>?_:Fa3 _);Am neI (Bu:Tie _ (type_of% ?zq4)) (?zq4 _ _ _)
 intro hI hcond1
 walk_at "eps";rename_i h₁
 intro F1 lifted N1;refine Bw ?_;walk_at "eps2";rename_i Q0 E0;intro hq0 he0;have hyz:=Xr hI;revert hyz;refine exi ?_;walk_at "eps";rename_i zs;rintro⟨hzs,hzx⟩
 have hzl:zs.length≤63:=by have:=congrArg List.length hzx;simp at this;lia
 repeat' ((fail_if_success (with_reducible show wpAny _ _ (call (.ref 180) _) _ _ _));walk_at "go")
 (rename Fr ..=>F9);(rename News ..=>N9)
 refine As (os:=s₁.os) [] [(116,tabObj #[])] F9 N9 ?o1 ?b1 (fun _ z=>nomatch z) (fun _ z=>z) (fun _ _ z=>nomatch z) fun g₂ H₂ K₂ r₂ back=>Tn (xs:=zs) (X.keeps K₂) (T.keeps K₂) H₂ ?hh1 ?rm1 ?u1 ?l1 hzl fun r cv nc cs s5 hr5 hcs H5=>?k1
 case o1=>rfl
 case b1=>exact hbare
 case hh1=>rfl
 case rm1=>exact(by decide:callerA.depth+1<800)
 case u1=>show _<7000;simp [Around.deeper,callerA]
 case l1=>rw [hzs] at lifted;exact Ai K₂ lifted
 have d5:Dis cs [(116,tabObj #[])]:=by
  intro q hq r hr e;have z1:=(H5.own q hq).2;rw [e,r₂ r hr] at z1
  cases z1
 obtain⟨F5,N5,o5,b5⟩:=back _ _ H5;clear back H5 H₂ F9 N9
 (try clear F1 N1)
 clear K₂ r₂ g₂
 revert r cv nc cs s5;with_reducible refine let_mvar% ?zq8:=(fun r cv nc cs s5=>?_:Fa5 _);Ee ⟨(default,default,default,default,{})⟩ (Lm:Tie _ (type_of% ?zq8)) (?zq8 _ _ _ _ _);intro hr5 hcs d5 F5 N5 o5 b5
 have hcl5:=hcs.length
 iterate 1 (walk_at "go")
 (rename Fr ..=>F9);(rename News ..=>N9)
 (try dsimp only)
 refine wpAny_execs_cons (Pm _ F9 (os:=s₁.os) (Qk cs) rfl rfl rfl (by decide) rfl (by decide) rfl rfl (by decide) (by decide) (fun _=>rfl) rfl rfl ?_)
 repeat' (first
  | ((with_reducible show wpAny _ _ (call (Value.type _) [.ref _]) _ _ _);refine enum_K (items:=cv.toArray) F9 N9 (by exact⟨_,(N9 _ (Ml _ hr5)).1,rfl,_,rfl⟩) ?_;clear F9 N9;with_reducible refine let_mvar% ?zq9:=(fun en it h9=>?_:Fa3 _);Am neI (Bu:Tie _ (type_of% ?zq9)) (?zq9 _ _ _);intro F9 N9 hen hit hei en0 it0 offe)
  | walk_at "go")
 refine⟨en,it,r,cv.toArray,cs++[(116,tabObj #[])],rfl,rfl,F9,N9,o5,b5,hen,hit,hei,en0,it0,offe,.inr ⟨_,Ml _ hr5,rfl,_,rfl⟩,?sz5,?test5,?k6⟩
 case sz5 =>
  have:=Dc (zs.map (·.1));rw [List.length_map] at this
  rw [List.size_toArray];exact(Nl fun hn1=>fk [_,_,_] (.e V0 (.k 63) (.e V1 V2 (.e V2 (.a V0 (.k 15)) (.e (.s (.k 1000)) V1 K0)))) rfl hzl (El hcl5) this hn1)
 case test5 =>
  with_reducible refine let_mvar% ?zq10:=(fun v C oC m₂ s' QT E'=>?_:Fa7 _);Dr ⟨(default,default,default,default,{},default,default)⟩ (Kc:Tie _ (type_of% ?zq10)) (?zq10 _ _ _ _ _ _ _);intro hv hC hm2 F7 N7 hQ
  have hyi:=List.mem_iff_getElem?.mp hv;revert hyi;refine exi ?_;walk_at "eps";rename_i i;intro hi
  have hlt:i<(Aa (zs.map (·.1))).length:=by
   rw [← hcl5]
   rcases Nat.lt_or_ge i cv.length with z | z
   ·exact z
   ·rw [List.getElem?_eq_none (by simpa using z)] at hi;cases hi
  have hyt:=hcs.get (List.getElem?_eq_getElem hlt);revert hyt;refine exi ?_;walk_at "eps";rename_i v';rintro⟨e1,htold⟩
  have e2:v=v':=by rw [show cv.toArray.toList=cv from rfl] at hi;rw [hi] at e1;injection e1
  subst e2
  have hsv:=Pg (h:=s'.heap) (fun p hp=>(N7 p (.tail _ (Ml _ hp))).1) htold
  have hyf:=htold.first
  revert hyf;refine Rb ?_;with_reducible refine let_mvar% ?zq14:=(fun a t v2 v3=>?_:Fa4 _);Bk neI (Ek:Tie _ (type_of% ?zq14)) (?zq14 _ _ _ _);rintro⟨rfl,hm⟩
  rw [hsv,← Ia] at hQ
  repeat' (first
   | ((with_reducible show wpAny _ _ (eval (Expr.Name _ _) _) _ _ _);refine LCgL.ld_own N7 (.head _) hC hm2 ?_)
   | ((with_reducible show wpAny _ _ (subscriptTail _ _ (.ref a) (.int 0 _)) _ _ _);refine Df (v:=.int (Iz (Aa (zs.map (·.1)))[i]) t) (vs:=[v2,v3]) (by exact⟨_,(N7 _ (.tail _ (Ml _ hm))).1,rfl,_,rfl⟩) ?_)
   | walk_at "go")
  exact hQ _
 with_reducible refine let_mvar% ?zq11:=(fun D s6 ys=>?_:Fa3 _);Am ⟨(default,{},default)⟩ (Bu:Tie _ (type_of% ?zq11)) (?zq11 _ _ _);intro hys F6 N6 hD6 o6 b6
 have hidx:Ba (Qk cs) 0 cv=Ba Eg 0 (Aa (zs.map (·.1))):=idx_map hcs (fun a b z=>Pg (h:=s6.heap) (fun p hp=>(N6 p (.tail _ (Ml _ hp))).1) z) 0
 rw [show cv.toArray.toList=cv from rfl,hidx] at hys;have hyl:=All2.length hys
 have h3:3≤ys.length:=by rw [hyl,Py];exact Ql _
 have hy9:ys.length≤100:=by
  rw [hyl,Py];have h1:=List.length_filter_le Eg (Aa (zs.map (·.1)));have:=Dc (zs.map (·.1));rw [List.length_map] at this
  exact(Nl fun hn1=>fk [_,_,_] (.e V0 (.k 63) (.e V1 V2 (.e V2 (.a V0 (.k 15)) (.e (.s (.k 100)) V1 K0)))) rfl hzl h1 this hn1)
 clear hidx
 have hysz:(ys.toArray.size:Int)=ys.length:=by simp
 have hdiv:(ys.toArray.size:Int) - 2≠0:=by rw [hysz];lia
 have hdiv2:0<(ys.toArray.size:Int) - 2:=by rw [hysz];lia
 have hlo9:0≤2+xs.sum.fmod ((ys.toArray.size:Int) - 2):=pk_lo (fm_lo xs.sum hdiv2);have hhi9:2+xs.sum.fmod ((ys.toArray.size:Int) - 2)<ys.length:=pk_hi (fm_hi xs.sum hdiv2) hysz
 repeat' (first
  | ((with_reducible show wpAny _ _ (call (.builtin "sum") _) _ _ _);(rename Fr ..=>F9);(rename News ..=>N9);refine sumK (vs:=vs) rfl F9 N9 (Ai F9.keep lifted) hI ?_;clear F9 N9;with_reducible refine let_mvar% ?zq15:=(fun h9 tk9 tsum=>?_:Fa3 _);Am neI (Bu:Tie _ (type_of% ?zq15)) (?zq15 _ _ _);intro F9 N9;(try dsimp only))
  | ((with_reducible show wpAny _ _ (call (.builtin "len") _) _ _ _);(rename News ..=>N9);refine PyProof.Rows.len_list (items:=ys.toArray) (by exact⟨_,(N9 _ (.head _)).1,rfl,_,rfl⟩) (by rw [hysz];lia) ?_;(try dsimp only))
  | ((with_reducible show wpAny _ _ (subscriptTail _ _ (.ref D) (.int _ _)) _ _ _);(rename News ..=>N9);refine Yd (ys:=ys) (by exact⟨_,(N9 _ (.head _)).1,rfl,_,rfl⟩) hys hlo9 hhi9 hy9 ?_;walk_at "eps2";rename_i pl tpl;intro hpl;(try dsimp only))
  | ((fail_if_success (with_reducible show wpAny _ _ (execs (Stmt.Assign [Expr.Tuple _ _ _] _ _::_) _) _ _ _));(try ((with_reducible show wpAny _ _ (execs _ _) _ _ _);(conv=>(arg 6;dsimp only))));walk_at "go"))
 have hyp:=Px _ _ _ _ _ hpl;revert hyp;refine exi ?_;walk_at "eps";rename_i pn;rintro⟨epl,hyp⟩
 revert hyp;refine exi ?_;with_reducible refine let_mvar% ?zq18:=(fun cst=>?_:Fa _);Bo Qb (tie:Tie _ (type_of% ?zq18)) (?zq18 _);rintro⟨hcst,hst⟩
 have epl':pl=(pn:Int):=by simpa using epl
 subst epl';clear epl hpl
 repeat' ((fail_if_success (with_reducible show wpAny _ _ (newList _) _ _ _));(try ((with_reducible show wpAny _ _ (execs _ _) _ _ _);(conv=>(arg 6;dsimp only))));walk_at "go")
 (rename Fr ..=>F9);(rename News ..=>N9)
 refine newList_K F9 N9 ?_ (by rw [sizeLine_eq];exact Nat.le_of_ble_eq_true rfl);clear F9 N9;walk_at "eps2";rename_i pc h9;intro F9 N9 ltp;(try dsimp only)
 repeat' ((fail_if_success (with_reducible show wpAny _ _ (newList _) _ _ _));(try ((with_reducible show wpAny _ _ (execs _ _) _ _ _);(conv=>(arg 6;dsimp only))));walk_at "go")
 refine newList_K F9 N9 ?_ (by rw [sizeLine_eq];exact Nat.le_of_ble_eq_true rfl);clear F9 N9;walk_at "eps2";rename_i rs h9;intro F9 N9 ltr;(try dsimp only)
 repeat' ((fail_if_success (with_reducible show wpAny _ _ (newTuple _) _ _ _));(try ((with_reducible show wpAny _ _ (execs _ _) _ _ _);(conv=>(arg 6;dsimp only))));walk_at "go")
 refine kup_newTuple F9 N9 ?_ (by rw [sizeLine_eq];exact Nat.le_of_ble_eq_true rfl);clear F9 N9;walk_at "eps2";rename_i tz h9;intro F9 N9 ltz;(try dsimp only)
 refine Gf rfl F9 N9 ?_ rfl;clear F9 N9;walk_at "eps";rename_i h9;intro F9 N9;(try dsimp only)
 repeat' ((fail_if_success (with_reducible show wpAny _ _ (call (.ref 168) _) _ _ _));(try ((with_reducible show wpAny _ _ (execs _ _) _ _ _);(conv=>(arg 6;dsimp only))));walk_at "go")
 (rename Fr ..=>F9);(rename News ..=>N9)
 refine Lc (os:=s₁.os) (out:=pc) (rest:=(rs,listOf #[] 0)::(cs++[(116,tabObj #[])])) X T rfl ?rmw1 F9 N9 ?ow1 ?bw1 (.tail _ (.head _)) ?hrw1 ?diw1 ?kw1
 case rmw1=>exact(by decide:callerA.depth+1<500)
 case ow1=>exact o6
 case bw1=>exact b6
 case hrw1 =>
  intro q hq
  rcases List.mem_cons.mp hq with h | h
  ·rw [h];exact .head _
  ·exact .tail _ (.tail _ (.tail _ h))
 case diw1 =>
  intro q hq
  rcases List.mem_cons.mp hq with rfl | h
  ·exact Nat.ne_of_gt (ltr (pc,_) (.head _))
  ·exact Nat.ne_of_lt (ltp q (.tail _ h))
 with_reducible refine let_mvar% ?zq32:=(fun f1 x1 s7=>?_:Fa3 _);Am (Dj.elim fun f=>⟨(f,default,{})⟩) (Bu:Tie _ (type_of% ?zq32)) (?zq32 _ _ _);intro ef1 hI1 F7 N7 d7 o7 b7
 clear F9 N9
 repeat' ((fail_if_success (with_reducible show wpAny _ _ (call (.ref 168) _) _ _ _));(try ((with_reducible show wpAny _ _ (execs _ _) _ _ _);(conv=>(arg 6;dsimp only))));walk_at "go")
 (rename Fr ..=>F9);(rename News ..=>N9)
 refine Lc (os:=s₁.os) (out:=rs) (rest:=f1.own WS0 x1++(cs++[(116,tabObj #[])])) X T rfl ?rmw2 F9 N9 ?ow2 ?bw2 (Mr _ (.head _)) ?hrw2 ?diw2 ?kw2
 case rmw2=>exact(by decide:callerA.depth+1<500)
 case ow2=>exact o7
 case bw2=>exact b7
 case hrw2 =>
  intro q hq
  rcases List.mem_append.mp hq with h | h
  ·exact Ml _ h
  ·exact Mr _ (.tail _ h)
 case diw2 =>
  intro q hq
  rcases List.mem_append.mp hq with h | h
  ·exact d7 q h (rs,_) (.head _)
  ·exact Nat.ne_of_lt (ltr q (.tail _ (.tail _ h)))
 with_reducible refine let_mvar% ?zq33:=(fun f2 x2 s8=>?_:Fa3 _);Am (Dj.elim fun f=>⟨(f,default,{})⟩) (Bu:Tie _ (type_of% ?zq33)) (?zq33 _ _ _);intro ef2 hI2 F8 N8 d8 o8 b8
 clear F9 N9
 repeat' ((fail_if_success (with_reducible show wpAny _ _ (newTuple _) _ _ _));(try ((with_reducible show wpAny _ _ (execs _ _) _ _ _);(conv=>(arg 6;dsimp only))));walk_at "go")
 (rename Fr ..=>F9);(rename News ..=>N9)
 refine kup_newTuple F9 N9 ?_ (by rw [sizeLine_eq];exact Nat.le_of_ble_eq_true rfl);clear F9 N9;walk_at "eps2";rename_i tz2 h9;intro F9 N9 ltz2;(try dsimp only)
 refine Gf rfl F9 N9 ?_ rfl;clear F9 N9;walk_at "eps";rename_i h9;intro F9 N9;(try dsimp only)
 repeat' ((fail_if_success (with_reducible show wpAny _ _ (exec (Stmt.For _ _ _ _ _) _) _ _ _));(try ((with_reducible show wpAny _ _ (execs _ _) _ _ _);(conv=>(arg 6;dsimp only))));walk_at "go")
 (rename Fr ..=>F9);(rename News ..=>N9)
 obtain⟨hfit0,hrf1,hrf2⟩:=link11 (zs.map (·.1)) pn cst hcst hst
 have hcvz:cv.length≤1000:=by
  have:=Dc (zs.map (·.1));rw [List.length_map] at this
  exact(Nl fun hn1=>fk [_,_,_] (.e V0 (.k 63) (.e V1 V2 (.e V2 (.a V0 (.k 15)) (.e (.s (.k 1000)) V1 K0)))) rfl hzl (El hcl5) this hn1)
 refine For_ (fun _=>rfl) ?_
 repeat' (first
  | ((with_reducible show wpAny _ _ (subscriptTail _ _ (.ref r) (.ref _)) _ _ _);refine Nh (vs:=cv) F9 N9 (by exact⟨_,(N9 _ (Mr _ (Mr _ (Ml _ hr5)))).1,rfl,_,rfl⟩) hcvz ?_;clear F9 N9;walk_at "eps2";rename_i sl1 h9;intro F9 N9 nsl;(try dsimp only))
  | ((fail_if_success (with_reducible show wpAny _ _ (pyIter _) _ _ _));(try ((with_reducible show wpAny _ _ (execs _ _) _ _ _);(conv=>(arg 6;dsimp only))));walk_at "go"))
 have N6a:=News.sub (news':=f1.own WS0 x1++[(116,tabObj #[])]++((sl1,listOf (cv.take pn).toArray 0)::(f2.own WS0 x2++cs))) N9 (by
  intro q hq
  rcases List.mem_append.mp hq with z | z
  ·rcases List.mem_append.mp z with z | z
   ·exact .tail _ (Mr _ (Ml _ z))
   ·exact .tail _ (Mr _ (Mr _ (Mr _ z)))
  ·rcases List.mem_cons.mp z with z | z
   ·rw [z];exact .head _
   ·rcases List.mem_append.mp z with z | z
    ·exact .tail _ (Ml _ z)
    ·exact .tail _ (Mr _ (Mr _ (Ml _ z))))
 have F9c:=fr_none F9 rfl
 refine Rf F9c (its:=(cv.take pn).toArray) (ax:=sl1) (os:=s₁.os) (x:=x1) (out:=pc) (cs:=(Aa (zs.map (·.1))).take pn) (rest:=(sl1,listOf (cv.take pn).toArray 0)::(f2.own WS0 x2++cs)) (w0:=WS0) (n0:=0) (fun own v m m'=>m'=fun y=>if y=Str.ofString "call" then some v else m y) rfl ?hsrc1 ?hown1 ?hasg1 ?step1 ?done1 ?hJ1 F9c N6a ?os1 ?br1
 case os1=>exact o8
 case br1=>exact b8
 case hown1 =>
  with_reducible refine let_mvar% ?zq34:=(fun I i v s1 Q E'=>?_:Fa6 _);Ew ⟨(default,default,default,{},default,default)⟩ (Nx:Tie _ (type_of% ?zq34)) (?zq34 _ _ _ _ _ _);intro _ _ hq
  exact Wp hq
 case hasg1 =>
  intro s1 v rem m own news Q E' _ _ F1 N1 hq
  exact PyProof.Rows.assign_Name (storeX_L F1 N1 (fun h2 F2 N2=>hq h2 _ _ F2 N2 rfl) rfl rfl)
 case hsrc1 =>
  intro rem m own hJ9;exact .inr ⟨_,hJ9.src (.head _),rfl,_,rfl⟩
 case hJ1 =>
  refine⟨[],(Aa (zs.map fun z:Int × Tok=>z.1)).take pn,f1,[(116,tabObj #[])],none,rfl,?_,rfl,ef1,hI1,?_,?_,hfit0,(by exact hrf1.left),rfl,?_⟩
  ·exact(All2.take_ hcs pn).mono fun a b z=>z.sub fun p hp=>.tail _ (Mr _ hp)
  ·intro r0 hr0
   rw [List.mem_singleton.mp hr0]
   have d9:∀ q∈f1.own WS0 x1,q.1≠116:=fun q hq=>d7 q hq (116,tabObj #[]) (.tail _ (Mr _ (.head _)))
   refine⟨fun z=>?_,fun q hq z=>d9 q (Mr _ hq) z.symm⟩
   obtain⟨q,hq,e9⟩:=Ic f1 WS0 x1 z;exact d9 q hq e9
  ·exact lt0_11
  ·intro p hp q hq
   rcases List.mem_cons.mp hq with rfl | hq
   ·rcases List.mem_append.mp hp with z | z
    ·exact nsl p (Mr _ (Ml _ z))
    ·exact nsl p (Mr _ (Mr _ (Mr _ z)))
   rcases List.mem_append.mp hq with hq | hq
   ·rcases List.mem_append.mp hp with z | z
    ·exact Ne.symm (d8 q hq p (Ml _ z))
    ·exact Ne.symm (d8 q hq p (Mr _ (Mr _ z)))
   ·rcases List.mem_append.mp hp with z | z
    ·exact d7 p z q (.tail _ (Ml _ hq))
    ·exact Ne.symm (d5 q hq p z)
 case step1 =>
  with_reducible refine let_mvar% ?zq43:=(fun sA v rem m m' own I oI=>?_:Fa8 _);Fs ⟨({},default,default,default,default,default,default,default)⟩ (Qn:Tie _ (type_of% ?zq43)) (?zq43 _ _ _ _ _ _ _ _);intro hJ9 hB9 FA NA nIA oA bA
  refine Bw ?_;walk_at "eps2";rename_i Q8 E8;intro hq8 he8;subst hB9
  revert NA nIA FA;refine hJ9.out ?_;with_reducible refine let_mvar% ?zq46:=(fun cs1 cs2 f tabs u=>?_:Fa5 _);Ee (Dj.elim fun f=>⟨(default,default,f,default,default)⟩) (Lm:Tie _ (type_of% ?zq46)) (?zq46 _ _ _ _ _);rintro e hr rfl hoA hIA hTA hLTA hfA hrfA rfl disA NA nIA FA
  refine Dg hr ?_;clear hr;with_reducible refine let_mvar% ?zq49:=(fun c cs3=>?_:Fa2 _);Al ⟨(Told.data Str.empty,[])⟩ (Bn:Tie _ (type_of% ?zq49)) (?zq49 _ _);rintro hc hr rfl
  have hyf:=hc.first
  revert hyf;refine Rb ?_;with_reducible refine let_mvar% ?zq52:=(fun a t v2 v3=>?_:Fa4 _);Bk neI (Ek:Tie _ (type_of% ?zq52)) (?zq52 _ _ _ _);rintro⟨rfl,hma⟩
  rw [Ju] at FA
  repeat' ((fail_if_success (with_reducible show wpAny _ _ (call (.ref 175) _) _ _ _));walk_at "go")
  (rename Fr ..=>FB);(rename News ..=>NB)
  have NB':=News.sub (news':=f.own (WS0.run cs1) x1++tabs++((I,oI)::((sl1,listOf (cv.take pn).toArray 0)::(f2.own WS0 x2++cs)))) NB (by
   intro q hq
   rcases List.mem_append.mp hq with z | z
   ·exact .tail _ (Ml _ z)
   ·rcases List.mem_cons.mp z with z | z
    ·rw [z];exact .head _
    ·exact .tail _ (Mr _ z))
  refine Hj (os:=s₁.os) (f:=f) (w:=WS0.run cs1) (c:=c) (n:=0+cs1.length) X T rfl ?rmA ?uA codeHd FB NB' oA bA hIA hTA hLTA hfA ?nA hrfA.1 (hc.sub fun p hp=>.tail _ hp) ?disA ?kA
  case rmA=>exact(by decide:callerA.depth+1<500)
  case uA=>show _<7000;simp [Around.deeper,callerA]
  case nA =>
   have h1:=congrArg List.length e;have h2:=Dc (zs.map (·.1));rw [List.length_map] at h2
   simp only [List.length_take,List.length_append,List.length_cons] at h1
   exact(Nl fun hn1=>fk [_,_,_,_,_] (.e V0 (.k 63) (.e V1 (.a V0 (.k 15)) (.e (.a V2 (.s V3)) V4 (.e V4 V1 (.e (.s (.k 100)) (.a K0 V2) K0))))) rfl hzl h2 (Es h1) (Nat.min_le_right _ _) hn1)
  case disA =>
   intro p hp q hq
   rcases List.mem_cons.mp hq with rfl | hq
   ·exact nIA p (Ml _ hp)
   ·exact disA p hp q hq
  with_reducible refine let_mvar% ?zq55:=(fun f' s' zt=>?_:Fa3 _);Am (Dj.elim fun f=>⟨(f,{},default)⟩) (Bu:Tie _ (type_of% ?zq55)) (?zq55 _ _ _);intro hLT' ho' hI' hT' F' N' dis' o' b'
  clear FB NB NB'
  repeat' (walk_at "go")
  (try dsimp only)
  refine hq8 _ _ ?_
  exact Pi e hr rfl (ho'.trans hoA) hI' hT' hLT' hfA hrfA F' N' dis' (fun p hp=>nIA p (Mr _ hp)) o' b'
 case done1 =>
  with_reducible refine let_mvar% ?zq59:=(fun sB m own=>?_:Fa3 _);Am Cb (Bu:Tie _ (type_of% ?zq59)) (?zq59 _ _ _);intro hJ9 FB NB oB bB
  dsimp only;refine Bw ?_;walk_at "eps2";rename_i Q71 E71;intro hq71 he71
  revert FB NB;refine hJ9.fin ?_;with_reducible refine let_mvar% ?zq62:=(fun fB tabsB uB=>?_:Fa3 _);Am (Dj.elim fun f=>⟨(f,default,default)⟩) (Bu:Tie _ (type_of% ?zq62)) (?zq62 _ _ _);rintro rfl hoB hIB hTB hLTB hfB rfl disB FB NB
  (try dsimp only)
  clear F9c N6a N9
  iterate 1 (walk_at "go")
  refine For_ (fun _=>rfl) ?_
  repeat' (first
   | ((with_reducible show wpAny _ _ (subscriptTail _ _ (.ref r) (.ref _)) _ _ _);refine Nh (vs:=cv) FB NB (by exact⟨_,(NB _ (Mr _ (.tail _ (Mr _ hr5)))).1,rfl,_,rfl⟩) hcvz ?_;clear FB NB;walk_at "eps2";rename_i sl2 h9;intro FB NB nsl2;(try dsimp only))
   | ((fail_if_success (with_reducible show wpAny _ _ (call (.ref 185) _) _ _ _));(try ((with_reducible show wpAny _ _ (execs _ _) _ _ _);(conv=>(arg 6;dsimp only))));walk_at "go"))
  refine As (os:=s₁.os) [] _ FB NB oB bB (fun _ z=>nomatch z) (fun _ z=>z) (fun _ _ z=>nomatch z) fun g₂ H₂ K₂ r₂ back=>Uk (P:=Bq w cs) (vs:=cv.take pn) (cs:=(Aa (zs.map fun z:Int × Tok=>z.1)).take pn) (X.keeps K₂) (T.keeps K₂) H₂ rfl ?rmC ?uC (by exact⟨_,r₂ _ (.head _),rfl,_,rfl⟩) ?hPC (All2.take_ hcs pn) (Gu _ hcst hst) ?clC fun r2 vs2 nr2 s9 hv2 H9=>?kC
  case rmC=>exact(by decide:callerA.depth+1<800)
  case uC=>show _<7000;simp [Around.deeper,callerA]
  case hPC=>exact fun v c z=>z.told fun p hp=>r₂ p (.tail _ (Mr _ (.tail _ (Mr _ hp))))
  case clC =>
   have:=Dc (zs.map fun z:Int × Tok=>z.1)
   rw [List.length_map] at this
   rw [List.length_take];exact(Nl fun hn1=>fk [_,_,_] (.e V0 (.k 63) (.e V1 (.a V0 (.k 15)) (.e V2 V1 (.e (.s (.k 100)) V2 K0)))) rfl hzl this (Nat.min_le_right _ _) hn1)
  obtain⟨FC,NC,oC,bC⟩:=back _ _ H9
  have dC:∀ q∈((sl2,listOf (cv.take pn).toArray 0)::(fB.own (WS0.run ((Aa (zs.map fun z:Int × Tok=>z.1)).take pn)) x1++tabsB++((sl1,listOf (cv.take pn).toArray 0)::(f2.own WS0 x2++cs)))),q.1≠r2:=by
   intro q hq e9;have z1:=(H9.own (r2,listOf vs2.toArray nr2) (.head _)).2;rw [← e9,r₂ q hq] at z1
   cases z1
  clear back H9 H₂ FB NB K₂ r₂ g₂
  revert r2 vs2 nr2 s9;with_reducible refine let_mvar% ?zq65:=(fun r2 vs2 nr2 s9=>?_:Fa4 _);Bk ⟨(default,default,default,{})⟩ (Ek:Tie _ (type_of% ?zq65)) (?zq65 _ _ _ _);intro hv2 FC NC oC bC dC
  have ND:=News.sub (news':=f2.own WS0 x2++tabsB++((r2,listOf vs2.toArray nr2)::(fB.own (WS0.run ((Aa (zs.map fun z:Int × Tok=>z.1)).take pn)) x1++cs))) NC (by
   intro q hq
   rcases List.mem_append.mp hq with z | z
   ·rcases List.mem_append.mp z with z | z
    ·exact .tail _ (.tail _ (Mr _ (.tail _ (Ml _ z))))
    ·exact .tail _ (.tail _ (Ml _ (Mr _ z)))
   ·rcases List.mem_cons.mp z with z | z
    ·rw [z];exact .head _
    ·rcases List.mem_append.mp z with z | z
     ·exact .tail _ (.tail _ (Ml _ (Ml _ z)))
     ·exact .tail _ (.tail _ (Mr _ (.tail _ (Mr _ z)))))
  refine Rf FC (its:=vs2.toArray) (ax:=r2) (os:=s₁.os) (x:=x2) (out:=rs) (cs:=(Af ((Aa (zs.map fun z:Int × Tok=>z.1)).take pn)).flatten) (rest:=(r2,listOf vs2.toArray nr2)::(fB.own (WS0.run ((Aa (zs.map fun z:Int × Tok=>z.1)).take pn)) x1++cs)) (w0:=WS0) (n0:=0) (fun own v m m'=>m'=fun y=>if y=Str.ofString "call" then some v else m y) rfl ?hsrc2 ?hown2 ?hasg2 ?step2 ?done2 ?hJ2 FC ND ?os2 ?br2
  case os2=>exact oC
  case br2=>exact bC
  case hown2 =>
   with_reducible refine let_mvar% ?zq35:=(fun I i v s1 Q E'=>?_:Fa6 _);Ew ⟨(default,default,default,{},default,default)⟩ (Nx:Tie _ (type_of% ?zq35)) (?zq35 _ _ _ _ _ _);intro _ _ hq
   exact Wp hq
  case hasg2 =>
   intro s1 v rem m own news Q E' _ _ F1 N1 hq
   exact PyProof.Rows.assign_Name (storeX_L F1 N1 (fun h2 F2 N2=>hq h2 _ _ F2 N2 rfl) rfl rfl)
  case hsrc2 =>
   intro rem m own hJ9;exact .inr ⟨_,hJ9.src (.head _),rfl,_,rfl⟩
  case hJ2 =>
   refine⟨[],((Af ((Aa (zs.map fun z:Int × Tok=>z.1)).take pn)).flatten),f2,tabsB,uB,rfl,?_,rfl,ef2,hI2,?_,hLTB,hfit0,(by exact hrf2.left),rfl,?_⟩
   ·exact hv2.mono fun a b z=>z.sub fun p hp=>.tail _ (Mr _ hp)
   ·intro r0 hr0
    have d9:∀ q∈f2.own WS0 x2,q.1≠r0.1:=fun q hq=>Ne.symm (disB r0 (Mr _ hr0) q (.tail _ (Ml _ hq)))
    refine⟨fun z=>?_,fun q hq z=>d9 q (Mr _ hq) z.symm⟩
    obtain⟨q,hq,e9⟩:=Ic f2 WS0 x2 z;exact d9 q hq e9
   ·intro p hp q hq
    rcases List.mem_cons.mp hq with rfl | hq
    ·rcases List.mem_append.mp hp with z | z
     ·exact dC p (.tail _ (Mr _ (.tail _ (Ml _ z))))
     ·exact dC p (.tail _ (Ml _ (Mr _ z)))
    rcases List.mem_append.mp hq with hq | hq
    ·rcases List.mem_append.mp hp with z | z
     ·exact Ne.symm (disB q (Ml _ hq) p (.tail _ (Ml _ z)))
     ·have:=hTB p z
      rcases Yc fB _ x1 hq with y | y
      ·exact fun e9=>this.1 (e9 ▸ y)
      ·exact this.2 q y
    ·rcases List.mem_append.mp hp with z | z
     ·exact d8 p z q (Mr _ (Ml _ hq))
     ·exact disB p (Mr _ z) q (.tail _ (Mr _ hq))
  case step2 =>
   with_reducible refine let_mvar% ?zq44:=(fun sA v rem m m' own I oI=>?_:Fa8 _);Fs ⟨({},default,default,default,default,default,default,default)⟩ (Qn:Tie _ (type_of% ?zq44)) (?zq44 _ _ _ _ _ _ _ _);intro hJ9 hB9 FA NA nIA oA bA
   refine Bw ?_;walk_at "eps2";rename_i Q8 E8;intro hq8 he8;subst hB9
   revert NA nIA FA;refine hJ9.out ?_;with_reducible refine let_mvar% ?zq47:=(fun cs1 cs2 f tabs u=>?_:Fa5 _);Ee (Dj.elim fun f=>⟨(default,default,f,default,default)⟩) (Lm:Tie _ (type_of% ?zq47)) (?zq47 _ _ _ _ _);rintro e hr rfl hoA hIA hTA hLTA hfA hrfA rfl disA NA nIA FA
   refine Dg hr ?_;clear hr;with_reducible refine let_mvar% ?zq50:=(fun c cs3=>?_:Fa2 _);Al ⟨(Told.data Str.empty,[])⟩ (Bn:Tie _ (type_of% ?zq50)) (?zq50 _ _);rintro hc hr rfl
   have hyf:=hc.first
   revert hyf;refine Rb ?_;with_reducible refine let_mvar% ?zq53:=(fun a t v2 v3=>?_:Fa4 _);Bk neI (Ek:Tie _ (type_of% ?zq53)) (?zq53 _ _ _ _);rintro⟨rfl,hma⟩
   rw [Ju] at FA
   repeat' ((fail_if_success (with_reducible show wpAny _ _ (call (.ref 175) _) _ _ _));walk_at "go")
   (rename Fr ..=>FB);(rename News ..=>NB)
   have NB':=News.sub (news':=f.own (WS0.run cs1) x2++tabs++((I,oI)::((r2,listOf vs2.toArray nr2)::(fB.own (WS0.run ((Aa (zs.map fun z:Int × Tok=>z.1)).take pn)) x1++cs)))) NB (by
    intro q hq
    rcases List.mem_append.mp hq with z | z
    ·exact .tail _ (Ml _ z)
    ·rcases List.mem_cons.mp z with z | z
     ·rw [z];exact .head _
     ·exact .tail _ (Mr _ z))
   refine Hj (os:=s₁.os) (f:=f) (w:=WS0.run cs1) (c:=c) (n:=0+cs1.length) X T rfl ?rmD ?uD codeHd FB NB' oA bA hIA hTA hLTA hfA ?nD hrfA.1 (hc.sub fun p hp=>.tail _ hp) ?disD ?kD
   case rmD=>exact(by decide:callerA.depth+1<500)
   case uD=>show _<7000;simp [Around.deeper,callerA]
   case nD =>
    have h1:=congrArg List.length e
    have h2:=Dc (zs.map fun z:Int × Tok=>z.1)
    have h3:=Gd ((Aa (zs.map fun z:Int × Tok=>z.1)).take pn) [[]]
    rw [List.length_map] at h2
    simp only [List.length_append,List.length_cons] at h1
    rw [List.length_take] at h3;have h4:([[]]:List (List Told)).flatten.length=0:=rfl;rw [h4] at h3;unfold Af at h1
    exact(Nl fun hn1=>fk [_,_,_,_,_,_] (.e V0 (.k 63) (.e V1 (.a V0 (.k 15)) (.e V2 (.a K0 V3) (.e (.a V4 (.s V5)) V2 (.e V3 V1 (.e (.s (.k 100)) (.a K0 V4) K0)))))) rfl hzl h2 h3 (Es h1) (Nat.min_le_right _ _) hn1)
   case disD =>
    intro p hp q hq
    rcases List.mem_cons.mp hq with rfl | hq
    ·exact nIA p (Ml _ hp)
    ·exact disA p hp q hq
   with_reducible refine let_mvar% ?zq56:=(fun f' s' zt=>?_:Fa3 _);Am (Dj.elim fun f=>⟨(f,{},default)⟩) (Bu:Tie _ (type_of% ?zq56)) (?zq56 _ _ _);intro hLT' ho' hI' hT' F' N' dis' o' b'
   clear FB NB NB'
   repeat' (walk_at "go")
   (try dsimp only)
   refine hq8 _ _ ?_
   exact Pi e hr rfl (ho'.trans hoA) hI' hT' hLT' hfA hrfA F' N' dis' (fun p hp=>nIA p (Mr _ hp)) o' b'
  case done2 =>
   with_reducible refine let_mvar% ?zq60:=(fun sE m own=>?_:Fa3 _);Am Cb (Bu:Tie _ (type_of% ?zq60)) (?zq60 _ _ _);intro hJ9 FE NE oE bE
   dsimp only;refine Bw ?_;walk_at "eps2";rename_i Q72 E72;intro hq72 he72
   revert FE NE;refine hJ9.fin ?_;with_reducible refine let_mvar% ?zq63:=(fun fE tabsE uE=>?_:Fa3 _);Am (Dj.elim fun f=>⟨(f,default,default)⟩) (Bu:Tie _ (type_of% ?zq63)) (?zq63 _ _ _);rintro rfl hoE hIE hTE hLTE hfE rfl disE FE NE
   (try dsimp only)
   clear FC NC ND
   repeat' ((fail_if_success (with_reducible show wpAny _ _ (call (.ref 106) _) _ _ _));(try ((with_reducible show wpAny _ _ (execs _ _) _ _ _);(conv=>(arg 6;dsimp only))));walk_at "go")
   (rename Fr ..=>FE);(rename News ..=>NE)
   have dE1:Dis (fB.own (WS0.run ((Aa (zs.map fun z:Int × Tok=>z.1)).take pn)) x1) (tabsE++(fE.own (WS0.run (Af ((Aa (zs.map fun z:Int × Tok=>z.1)).take pn)).flatten) x2++cs)):=by
    intro p hp q hq
    rcases List.mem_append.mp hq with z | z
    ·exact Ne.symm (disE q (Mr _ z) p (.tail _ (Ml _ hp)))
    ·rcases List.mem_append.mp z with z | z
     ·exact Ne.symm (disE q (Ml _ z) p (.tail _ (Ml _ hp)))
     ·exact disB p (Ml _ hp) q (.tail _ (Mr _ z))
   have NE1:=News.sub (news':=fB.own (WS0.run ((Aa (zs.map fun z:Int × Tok=>z.1)).take pn)) x1++(tabsE++(fE.own (WS0.run (Af ((Aa (zs.map fun z:Int × Tok=>z.1)).take pn)).flatten) x2++cs))) NE (by
    intro q hq
    rcases List.mem_append.mp hq with z | z
    ·exact Mr _ (.tail _ (Ml _ z))
    ·rcases List.mem_append.mp z with z | z
     ·exact Ml _ (Mr _ z)
     ·rcases List.mem_append.mp z with z | z
      ·exact Ml _ (Ml _ z)
      ·exact Mr _ (.tail _ (Mr _ z)))
   refine Nv (os:=s₁.os) (f:=fB) (w:=(WS0.run ((Aa (zs.map fun z:Int × Tok=>z.1)).take pn))) (tabs:=tabsE++(fE.own (WS0.run (Af ((Aa (zs.map fun z:Int × Tok=>z.1)).take pn)).flatten) x2++cs)) (n:=0+((Aa (zs.map fun z:Int × Tok=>z.1)).take pn).length) X T ?hhF ?rmF FE NE1 oE bE hIB (Hg dE1) hfB ?nF ?cF ?kF
   case hhF=>rfl
   case rmF=>exact(by decide:callerA.depth+1<600)
   case nF =>
    have h2:=Dc (zs.map fun z:Int × Tok=>z.1)
    rw [List.length_map] at h2
    rw [List.length_take];exact(Nl fun hn1=>fk [_,_,_] (.e V0 (.k 63) (.e V1 (.a V0 (.k 15)) (.e V2 V1 (.e (.s (.k 100)) (.a K0 V2) K0)))) rfl hzl h2 (Nat.min_le_right _ _) hn1)
   case cF=>exact⟨by decide,by decide,by decide +kernel⟩
   with_reducible refine let_mvar% ?zq66:=(fun fG sG=>?_:Fa2 _);Al (Dj.elim fun f=>⟨(f,{})⟩) (Bn:Tie _ (type_of% ?zq66)) (?zq66 _ _);intro hoG hIG hTG FG NG oG bG
   have dG:=It hTG (w:=((WS0.run ((Aa (zs.map fun z:Int × Tok=>z.1)).take pn))).tell Aw)
   clear FE NE NE1
   repeat' ((fail_if_success (with_reducible show wpAny _ _ (call (.ref 106) _) _ _ _));(try ((with_reducible show wpAny _ _ (execs _ _) _ _ _);(conv=>(arg 6;dsimp only))));walk_at "go")
   (rename Fr ..=>FH);(rename News ..=>NH)
   have dE2:Dis (fE.own (WS0.run (Af ((Aa (zs.map fun z:Int × Tok=>z.1)).take pn)).flatten) x2) (tabsE++(fG.own ((WS0.run ((Aa (zs.map fun z:Int × Tok=>z.1)).take pn)).tell Aw) x1++cs)):=by
    refine(It hTE).right (Dis.right ?_ ?_)
    ·exact(dG.sub (fun _ z=>z) (fun _ z=>Mr _ (Ml _ z))).symm
    ·exact disE.sub (fun _ z=>Ml _ z) (fun _ z=>.tail _ (Mr _ z))
   have NH1:=News.sub (news':=fE.own (WS0.run (Af ((Aa (zs.map fun z:Int × Tok=>z.1)).take pn)).flatten) x2++(tabsE++(fG.own ((WS0.run ((Aa (zs.map fun z:Int × Tok=>z.1)).take pn)).tell Aw) x1++cs))) NH (by
    intro q hq
    rcases List.mem_append.mp hq with z | z
    ·exact Mr _ (Mr _ (Ml _ z))
    ·rcases List.mem_append.mp z with z | z
     ·exact Mr _ (Ml _ z)
     ·rcases List.mem_append.mp z with z | z
      ·exact Ml _ z
      ·exact Mr _ (Mr _ (Mr _ z)))
   have h2:=Dc (zs.map fun z:Int × Tok=>z.1)
   rw [List.length_map] at h2
   have h3:=Gd ((Aa (zs.map fun z:Int × Tok=>z.1)).take pn) [[]]
   rw [List.length_take,show ([[]]:List (List Told)).flatten.length=0 from rfl] at h3
   have h4:(Af ((Aa (zs.map fun z:Int × Tok=>z.1)).take pn)).flatten.length≤pn∧(Af ((Aa (zs.map fun z:Int × Tok=>z.1)).take pn)).flatten.length≤(Aa (zs.map fun z:Int × Tok=>z.1)).length:=by
    unfold Af;exact⟨(Nl fun hn2=>fk [_,_,_] (.e V0 (.a K0 V1) (.e V1 V2 (.e (.s V2) V0 K0))) rfl h3 (Nat.min_le_left _ _) hn2),(Nl fun hn5=>fk [_,_,_] (.e V0 (.a K0 V1) (.e V1 V2 (.e (.s V2) V0 K0))) rfl h3 (Nat.min_le_right _ _) hn5)⟩
   have hlt9:((Aa (zs.map fun z:Int × Tok=>z.1)).take pn).length≤pn∧((Aa (zs.map fun z:Int × Tok=>z.1)).take pn).length≤(Aa (zs.map fun z:Int × Tok=>z.1)).length:=by
    rw [List.length_take];exact⟨(Nat.min_le_left _ _),(Nat.min_le_right _ _)⟩
   have hpn9:pn<(Aa (zs.map fun z:Int × Tok=>z.1)).length:=by
    rcases Nat.lt_or_ge pn (Aa (zs.map fun z:Int × Tok=>z.1)).length with z | z
    ·exact z
    ·rw [List.getElem?_eq_none z] at hcst;cases hcst
   refine Nv (os:=s₁.os) (f:=fE) (w:=(WS0.run (Af ((Aa (zs.map fun z:Int × Tok=>z.1)).take pn)).flatten)) (tabs:=tabsE++(fG.own ((WS0.run ((Aa (zs.map fun z:Int × Tok=>z.1)).take pn)).tell Aw) x1++cs)) (n:=0+(Af ((Aa (zs.map fun z:Int × Tok=>z.1)).take pn)).flatten.length) X T ?hhG ?rmG FH NH1 oG bG hIE (Hg dE2) hfE ?nG ?cG ?kG
   case hhG=>rfl
   case rmG=>exact(by decide:callerA.depth+1<600)
   case nG=>exact(Nl fun hn1=>fk [_,_,_] (.e V0 (.k 63) (.e V1 (.a V0 (.k 15)) (.e V2 V1 (.e (.s (.k 100)) (.a K0 V2) K0)))) rfl hzl h2 h4.2 hn1)
   case cG=>exact okY
   with_reducible refine let_mvar% ?zq67:=(fun fI sI=>?_:Fa2 _);Al (Dj.elim fun f=>⟨(f,{})⟩) (Bn:Tie _ (type_of% ?zq67)) (?zq67 _ _);intro hoI hII hTI FI NI oI bI
   have dI:=It hTI (w:=(WS0.run (Af ((Aa (zs.map fun z:Int × Tok=>z.1)).take pn)).flatten).tell Aw)
   clear FH NH NH1
   have hfit1:Fit (pn+1) ((WS0.run ((Aa (zs.map fun z:Int × Tok=>z.1)).take pn)).tell Aw):=(hfB.tell (c:=Aw) okY).le (by exact(Nl fun hn1=>fk [_,_] (.e V0 V1 (.e (.a (.s V1) K1) (.a (.a K0 V0) K1) K0)) rfl hlt9.1 hn1))
   have hfit2:Fit (pn+1) ((WS0.run (Af ((Aa (zs.map fun z:Int × Tok=>z.1)).take pn)).flatten).tell Aw):=(hfE.tell (c:=Aw) okY).le (by exact(Nl fun hn1=>fk [_,_] (.e V0 V1 (.e (.a (.s V1) K1) (.a (.a K0 V0) K1) K0)) rfl h4.1 hn1))
   have hz1:fG.ol.length≤1000:=by
    have:=hfit1.o1;rw [← hIG.out,List.length_map] at this
    exact(Nl fun hn1=>fk [_,_,_,_] (.c 4 V0 (.k 63) (.c 4 V1 (.a V0 (.k 15)) (.c 4 (.s V2) V1 (.e V3 (.m 4 (.s V2)) (.e (.s (.k 1000)) V3 K0))))) rfl hzl h2 hpn9 this hn1)
   have hz2:fI.ol.length≤1000:=by
    have:=hfit2.o1;rw [← hII.out,List.length_map] at this
    exact(Nl fun hn1=>fk [_,_,_,_] (.c 4 V0 (.k 63) (.c 4 V1 (.a V0 (.k 15)) (.c 4 (.s V2) V1 (.e V3 (.m 4 (.s V2)) (.e (.s (.k 1000)) V3 K0))))) rfl hzl h2 hpn9 this hn1)
   have hmG:(pc,listOf (strValues fG.ol).toArray fG.n2)∈fI.own ((WS0.run (Af ((Aa (zs.map fun z:Int × Tok=>z.1)).take pn)).flatten).tell Aw) x2++(tabsE++(fG.own ((WS0.run ((Aa (zs.map fun z:Int × Tok=>z.1)).take pn)).tell Aw) x1++cs)):=Mr _ (Mr _ (Ml _ (Lo fG _ x1 (hoG.trans hoB))))
   have hmI:(rs,listOf (strValues fI.ol).toArray fI.n2)∈fI.own ((WS0.run (Af ((Aa (zs.map fun z:Int × Tok=>z.1)).take pn)).flatten).tell Aw) x2++(tabsE++(fG.own ((WS0.run ((Aa (zs.map fun z:Int × Tok=>z.1)).take pn)).tell Aw) x1++cs)):=Ml _ (Lo fI _ x2 (hoI.trans hoE))
   have hzz1:(strValues fG.ol).toArray.size≤1000:=by simpa [strValues] using hz1
   have hzz2:(strValues fI.ol).toArray.size≤1000:=by simpa [strValues] using hz2
   have hl1:sI.heap.IsList pc (strValues fG.ol).toArray:=⟨_,(NI _ hmG).1,rfl,_,rfl⟩;have hl2:sI.heap.IsList rs (strValues fI.ol).toArray:=⟨_,(NI _ hmI).1,rfl,_,rfl⟩
   repeat' (first
    | ((with_reducible show wpAny _ _ (call (.builtin "len") [.ref pc]) _ _ _);refine PyProof.Rows.len_list hl1 (by lia) ?_;(try dsimp only))
    | ((with_reducible show wpAny _ _ (call (.builtin "len") [.ref rs]) _ _ _);refine PyProof.Rows.len_list hl2 (by lia) ?_;(try dsimp only))
    | ((fail_if_success (with_reducible show wpAny _ _ (newTuple _) _ _ _));(try ((with_reducible show wpAny _ _ (execs _ _) _ _ _);(conv=>(arg 6;dsimp only))));walk_at "go"))
   refine kup_newTuple FI NI ?_ (by rw [sizeLine_eq];exact Nat.le_of_ble_eq_true rfl);clear FI NI;walk_at "eps2";rename_i tz3 h9;intro FI NI ltz3;(try dsimp only)
   refine Gf rfl FI NI ?_ rfl;clear FI NI;walk_at "eps";rename_i h9;intro FI NI;(try dsimp only);clear hl1 hl2
   repeat' ((fail_if_success (with_reducible show wpAny _ _ (exec (Stmt.For _ _ _ _ _) _) _ _ _));(try ((with_reducible show wpAny _ _ (execs _ _) _ _ _);(conv=>(arg 6;dsimp only))));walk_at "go")
   (rename Fr ..=>FI);(rename News ..=>NI)
   refine For_ (fun _=>rfl) ?_
   repeat' (first
    | ((with_reducible show wpAny _ _ (subscriptTail _ _ (.ref r) (.ref _)) _ _ _);refine Ig (vs:=cv) FI NI (by exact⟨_,(NI _ (Mr _ (Mr _ (Mr _ hr5)))).1,rfl,_,rfl⟩) hcvz ?_;clear FI NI;walk_at "eps2";rename_i sl3 h9;intro FI NI nsl3;(try dsimp only))
    | ((fail_if_success (with_reducible show wpAny _ _ (pyIter _) _ _ _));(try ((with_reducible show wpAny _ _ (execs _ _) _ _ _);(conv=>(arg 6;dsimp only))));walk_at "go"))
   have FJ:=fr_in FI (by decide) (by decide)
   have NJ:=News.sub (news':=fG.own ((WS0.run ((Aa (zs.map fun z:Int × Tok=>z.1)).take pn)).tell Aw) x1++tabsE++(fI.own ((WS0.run (Af ((Aa (zs.map fun z:Int × Tok=>z.1)).take pn)).flatten).tell Aw) x2++((sl3,listOf (cv.drop pn).toArray 0)::cs))) NI (by
    intro q hq
    rcases List.mem_append.mp hq with z | z
    ·rcases List.mem_append.mp z with z | z
     ·exact .tail _ (Mr _ (Mr _ (Ml _ z)))
     ·exact .tail _ (Mr _ (Ml _ z))
    ·rcases List.mem_append.mp z with z | z
     ·exact .tail _ (Ml _ z)
     ·rcases List.mem_cons.mp z with z | z
      ·rw [z];exact .head _
      ·exact .tail _ (Mr _ (Mr _ (Mr _ z))))
   refine for_two FJ (its:=(cv.drop pn).toArray) (ax:=sl3) (os:=s₁.os) (x1:=x1) (x2:=x2) (o1:=pc) (o2:=rs) (cs:=((Aa (zs.map fun z:Int × Tok=>z.1)).drop pn)) (rest:=((sl3,listOf (cv.drop pn).toArray 0)::cs)) (w1:=((WS0.run ((Aa (zs.map fun z:Int × Tok=>z.1)).take pn)).tell Aw)) (w2:=((WS0.run (Af ((Aa (zs.map fun z:Int × Tok=>z.1)).take pn)).flatten).tell Aw)) (n0:=pn+1) (fun own v m m'=>m'=fun y=>if y=Str.ofString "call" then some v else m y) rfl ?hsrc3 ?hown3 ?hasg3 ?step3 ?done3 ?hJ3 FJ NJ ?os3 ?br3
   case os3=>exact oI
   case br3=>exact bI
   case hown3 =>
    with_reducible refine let_mvar% ?zq36:=(fun I i v s1 Q E'=>?_:Fa6 _);Ew ⟨(default,default,default,{},default,default)⟩ (Nx:Tie _ (type_of% ?zq36)) (?zq36 _ _ _ _ _ _);intro _ _ hq
    exact Wp hq
   case hasg3 =>
    intro s1 v rem m own news Q E' _ _ F1 N1 hq
    exact PyProof.Rows.assign_Name (storeX_L F1 N1 (fun h2 F2 N2=>hq h2 _ _ F2 N2 rfl) rfl rfl)
   case hsrc3 =>
    intro rem m own hJ9;exact .inr ⟨_,hJ9.src (.head _),rfl,_,rfl⟩
   case hJ3 =>
    have dGI:Dis (fG.own ((WS0.run ((Aa (zs.map fun z:Int × Tok=>z.1)).take pn)).tell Aw) x1) (fI.own ((WS0.run (Af ((Aa (zs.map fun z:Int × Tok=>z.1)).take pn)).flatten).tell Aw) x2):=dI.symm.sub (fun _ z=>Mr _ (Ml _ z)) (fun _ z=>z)
    have dGt:Dis (fG.own ((WS0.run ((Aa (zs.map fun z:Int × Tok=>z.1)).take pn)).tell Aw) x1) tabsE:=dG.sub (fun _ z=>z) (fun _ z=>Ml _ z)
    have dIt:Dis (fI.own ((WS0.run (Af ((Aa (zs.map fun z:Int × Tok=>z.1)).take pn)).flatten).tell Aw) x2) tabsE:=dI.sub (fun _ z=>z) (fun _ z=>Ml _ z)
    have dGc:Dis (fG.own ((WS0.run ((Aa (zs.map fun z:Int × Tok=>z.1)).take pn)).tell Aw) x1) cs:=dG.sub (fun _ z=>z) (fun _ z=>Mr _ (Mr _ z))
    have dIc:Dis (fI.own ((WS0.run (Af ((Aa (zs.map fun z:Int × Tok=>z.1)).take pn)).flatten).tell Aw) x2) cs:=dI.sub (fun _ z=>z) (fun _ z=>Mr _ (Mr _ z))
    have dtc:Dis tabsE cs:=disE.sub (fun _ z=>Mr _ z) (fun _ z=>.tail _ (Mr _ z))
    refine⟨[],(Aa (zs.map fun z:Int × Tok=>z.1)).drop pn,fG,fI,tabsE,uE,rfl,(All2.drop_ hcs pn).mono fun a b z=>z.sub fun p hp=>.tail _ hp,rfl,⟨hoG.trans hoB,hoI.trans hoE⟩,⟨hIG,hII⟩,⟨Hg dGt,Hg dIt⟩,hLTE,⟨hfit1,hfit2⟩,⟨hrf1.right.2,hrf2.right.2⟩,rfl,?_,?_⟩
    ·refine Dis.left (dGI.right (Dis.cons ?_ dGc)) (dIt.symm.right (Dis.cons ?_ dtc))
     ·exact fun p hp=>nsl3 p (Mr _ (Mr _ (Ml _ hp)))
     ·exact fun p hp=>nsl3 p (Mr _ (Ml _ hp))
    ·exact Dis.cons (fun p hp=>nsl3 p (Ml _ hp)) dIc
   case step3 =>
    with_reducible refine let_mvar% ?zq45:=(fun sA v rem m m' own I oI=>?_:Fa8 _);Fs ⟨({},default,default,default,default,default,default,default)⟩ (Qn:Tie _ (type_of% ?zq45)) (?zq45 _ _ _ _ _ _ _ _);intro hJ9 hB9 FA NA nIA oA bA
    refine Bw ?_;walk_at "eps2";rename_i Q8 E8;intro hq8 he8;subst hB9
    revert NA nIA FA;refine hJ9.out ?_;with_reducible refine let_mvar% ?zq48:=(fun cs1 cs2 fY fZ tabs u=>?_:Fa6 _);Ew (Dj.elim fun f=>⟨(default,default,f,f,default,default)⟩) (Nx:Tie _ (type_of% ?zq48)) (?zq48 _ _ _ _ _ _);rintro e hr rfl hoA ⟨hIY,hIZ⟩ ⟨hTY,hTZ⟩ hLTA ⟨hfY,hfZ⟩ ⟨hrfY,hrfZ⟩ rfl disA disA2 NA nIA FA
    refine Dg hr ?_;clear hr;with_reducible refine let_mvar% ?zq51:=(fun c cs3=>?_:Fa2 _);Al ⟨(Told.data Str.empty,[])⟩ (Bn:Tie _ (type_of% ?zq51)) (?zq51 _ _);rintro hc hr rfl
    have hyf:=hc.first
    revert hyf;refine Rb ?_;with_reducible refine let_mvar% ?zq54:=(fun a t v2 v3=>?_:Fa4 _);Bk neI (Ek:Tie _ (type_of% ?zq54)) (?zq54 _ _ _ _);rintro⟨rfl,hma⟩
    rw [Ju] at FA
    have hnA:pn+1+cs1.length≤100:=by
     have h1:=congrArg List.length e
     simp only [List.length_drop,List.length_append,List.length_cons] at h1
     exact(Nl fun hn1=>fk [_,_,_,_,_,_] (.e V0 (.k 63) (.e V1 (.a V0 (.k 15)) (.e (.a V2 (.s V3)) V4 (.e (.s (.k 100)) (.a (.s V5) V2) (.e (.a V4 V5) V1 K0))))) rfl hzl h2 (Es h1) hn1 (Nat.le_of_eq (Nat.sub_add_cancel (Nl fun hn4=>fk [_,_] (.e (.s V0) V1 (.e (.s V1) V0 K0)) rfl hpn9 hn4))))
    repeat' ((fail_if_success (with_reducible show wpAny _ _ (call (.ref 175) _) _ _ _));walk_at "go")
    (rename Fr ..=>FB);(rename News ..=>NB)
    have NB':=News.sub (news':=fY.own (((WS0.run ((Aa (zs.map fun z:Int × Tok=>z.1)).take pn)).tell Aw).run cs1) x1++tabs++((I,oI)::(fZ.own (((WS0.run (Af ((Aa (zs.map fun z:Int × Tok=>z.1)).take pn)).flatten).tell Aw).run cs1) x2++((sl3,listOf (cv.drop pn).toArray 0)::cs)))) NB (by
     intro q hq
     rcases List.mem_append.mp hq with z | z
     ·exact .tail _ (Ml _ z)
     ·rcases List.mem_cons.mp z with z | z
      ·rw [z];exact .head _
      ·exact .tail _ (Mr _ z))
    refine Hj (os:=s₁.os) (f:=fY) (w:=((WS0.run ((Aa (zs.map fun z:Int × Tok=>z.1)).take pn)).tell Aw).run cs1) (c:=c) (n:=pn+1+cs1.length) X T rfl ?rmY ?uY codeHd FB NB' oA bA hIY hTY hLTA hfY hnA hrfY.1 (hc.sub fun p hp=>.tail _ (Mr _ hp)) ?disY ?kY
    case rmY=>exact(by decide:callerA.depth+1<500)
    case uY=>show _<7000;simp [Around.deeper,callerA]
    case disY=>exact Dis.cons (fun p hp=>nIA p (Ml _ hp)) disA
    with_reducible refine let_mvar% ?zq57:=(fun fY' sY tabsY=>?_:Fa3 _);Am (Dj.elim fun f=>⟨(f,{},default)⟩) (Bu:Tie _ (type_of% ?zq57)) (?zq57 _ _ _);intro hLTY' hoY' hIY' hTY' FY NY disY oY bY
    clear FB NB NB'
    repeat' ((fail_if_success (with_reducible show wpAny _ _ (call (.ref 175) _) _ _ _));walk_at "go")
    (rename Fr ..=>FB);(rename News ..=>NB)
    have dYI:Dis (fY'.own ((((WS0.run ((Aa (zs.map fun z:Int × Tok=>z.1)).take pn)).tell Aw).run cs1).tell c) x1) ((I,oI)::((sl3,listOf (cv.drop pn).toArray 0)::cs)):=disY.sub (fun _ z=>Ml _ z) (fun _ z=>by
     rcases List.mem_cons.mp z with z | z
     ·rw [z];exact .head _
     ·exact .tail _ (Mr _ z))
    have dZY:Dis (fZ.own (((WS0.run (Af ((Aa (zs.map fun z:Int × Tok=>z.1)).take pn)).flatten).tell Aw).run cs1) x2) (fY'.own ((((WS0.run ((Aa (zs.map fun z:Int × Tok=>z.1)).take pn)).tell Aw).run cs1).tell c) x1):=disY.symm.sub (fun _ z=>.tail _ (Ml _ z)) (fun _ z=>Ml _ z)
    have dZt:Dis (fZ.own (((WS0.run (Af ((Aa (zs.map fun z:Int × Tok=>z.1)).take pn)).flatten).tell Aw).run cs1) x2) tabsY:=disY.symm.sub (fun _ z=>.tail _ (Ml _ z)) (fun _ z=>Mr _ z)
    have dZI:Dis (fZ.own (((WS0.run (Af ((Aa (zs.map fun z:Int × Tok=>z.1)).take pn)).flatten).tell Aw).run cs1) x2) ((I,oI)::((sl3,listOf (cv.drop pn).toArray 0)::cs)):=Dis.cons (fun p hp=>nIA p (Mr _ (Ml _ hp))) disA2
    have dtI:Dis tabsY ((I,oI)::((sl3,listOf (cv.drop pn).toArray 0)::cs)):=disY.sub (fun _ z=>Mr _ z) (fun _ z=>by
     rcases List.mem_cons.mp z with z | z
     ·rw [z];exact .head _
     ·exact .tail _ (Mr _ z))
    have NB':=News.sub (news':=fZ.own (((WS0.run (Af ((Aa (zs.map fun z:Int × Tok=>z.1)).take pn)).flatten).tell Aw).run cs1) x2++tabsY++(fY'.own ((((WS0.run ((Aa (zs.map fun z:Int × Tok=>z.1)).take pn)).tell Aw).run cs1).tell c) x1++(I,oI)::((sl3,listOf (cv.drop pn).toArray 0)::cs))) NB (by
     intro q hq
     rcases List.mem_append.mp hq with z | z
     ·rcases List.mem_append.mp z with z | z
      ·exact Mr _ (.tail _ (Ml _ z))
      ·exact Ml _ (Mr _ z)
     ·rcases List.mem_append.mp z with z | z
      ·exact Ml _ (Ml _ z)
      ·rcases List.mem_cons.mp z with z | z
       ·rw [z];exact Mr _ (.head _)
       ·exact Mr _ (.tail _ (Mr _ z)))
    refine Hj (os:=s₁.os) (f:=fZ) (w:=((WS0.run (Af ((Aa (zs.map fun z:Int × Tok=>z.1)).take pn)).flatten).tell Aw).run cs1) (c:=c) (n:=pn+1+cs1.length) X T rfl ?rmZ ?uZ codeHd FB NB' oY bY hIZ (Hg dZt) hLTY' hfZ hnA hrfZ.1 (hc.sub fun p hp=>Mr _ (.tail _ hp)) ?disZ ?kZ
    case rmZ=>exact(by decide:callerA.depth+1<500)
    case uZ=>show _<7000;simp [Around.deeper,callerA]
    case disZ=>exact Dis.left (dZY.right dZI) (((It hTY').symm).right dtI)
    with_reducible refine let_mvar% ?zq58:=(fun fZ' sZ tabsZ=>?_:Fa3 _);Am (Dj.elim fun f=>⟨(f,{},default)⟩) (Bu:Tie _ (type_of% ?zq58)) (?zq58 _ _ _);intro hLTZ' hoZ' hIZ' hTZ' FZ NZ disZ oZ bZ
    clear FB NB NB'
    repeat' (walk_at "go")
    (try dsimp only)
    refine hq8 _ _ ?_
    exact Yy e hr rfl ⟨hoY'.trans hoA.1,hoZ'.trans hoA.2⟩ hIY' hIZ' hTZ' hLTZ' hfY hfZ hrfY hrfZ FZ NZ dYI disZ (fun p hp=>nIA p (Mr _ (Mr _ hp))) oZ bZ
   case done3 =>
    with_reducible refine let_mvar% ?zq61:=(fun sK m own=>?_:Fa3 _);Am Cb (Bu:Tie _ (type_of% ?zq61)) (?zq61 _ _ _);intro hJ9 FK NK oK bK
    dsimp only;refine Bw ?_;walk_at "eps2";rename_i Q73 E73;intro hq73 he73
    revert FK NK;refine hJ9.fin ?_;with_reducible refine let_mvar% ?zq64:=(fun fY fZ tabs u=>?_:Fa4 _);Bk (Dj.elim fun f=>⟨(f,f,default,default)⟩) (Ek:Tie _ (type_of% ?zq64)) (?zq64 _ _ _ _);rintro rfl hoA ⟨hIY,hIZ⟩ hLTA ⟨hfY,hfZ⟩ rfl FK NK
    (try dsimp only)
    clear FI NI FJ NJ
    have hdl:((Aa (zs.map fun z:Int × Tok=>z.1)).drop pn).length≤(Aa (zs.map fun z:Int × Tok=>z.1)).length - pn:=by rw [List.length_drop];exact(Nat.le_refl _)
    have hzY:(strValues fY.ol).length≤1000:=by
     have:=hfY.o1;rw [← hIY.out,List.length_map] at this
     rw [show (strValues fY.ol).length=fY.ol.length by simp [strValues]]
     exact(Nl fun hn1=>fk [_,_,_,_,_,_] (.c 4 V0 (.k 63) (.c 4 V1 (.a V0 (.k 15)) (.c 4 V2 V3 (.e V4 (.m 4 (.a (.s V5) V2)) (.e (.s (.k 1000)) V4 (.c 4 (.a V3 V5) V1 K0)))))) rfl hzl h2 hdl this hn1 (Nat.le_of_eq (Nat.sub_add_cancel (Nl fun hn4=>fk [_,_] (.e (.s V0) V1 (.e (.s V1) V0 K0)) rfl hpn9 hn4))))
    have hzZ:(strValues fZ.ol).length≤1000:=by
     have:=hfZ.o1;rw [← hIZ.out,List.length_map] at this
     rw [show (strValues fZ.ol).length=fZ.ol.length by simp [strValues]]
     exact(Nl fun hn1=>fk [_,_,_,_,_,_] (.c 4 V0 (.k 63) (.c 4 V1 (.a V0 (.k 15)) (.c 4 V2 V3 (.e V4 (.m 4 (.a (.s V5) V2)) (.e (.s (.k 1000)) V4 (.c 4 (.a V3 V5) V1 K0)))))) rfl hzl h2 hdl this hn1 (Nat.le_of_eq (Nat.sub_add_cancel (Nl fun hn4=>fk [_,_] (.e (.s V0) V1 (.e (.s V1) V0 K0)) rfl hpn9 hn4))))
    have hsame:(fY.ol.drop (strValues fG.ol).toArray.size).map (·.1)=(fZ.ol.drop (strValues fI.ol).toArray.size).map (·.1):=by
     have e1:(strValues fG.ol).toArray.size=((WS0.run ((Aa (zs.map fun z:Int × Tok=>z.1)).take pn)).tell Aw).out.length:=by rw [← hIG.out];simp [strValues]
     have e2:(strValues fI.ol).toArray.size=((WS0.run (Af ((Aa (zs.map fun z:Int × Tok=>z.1)).take pn)).flatten).tell Aw).out.length:=by rw [← hII.out];simp [strValues]
     rw [List.map_drop,List.map_drop,hIY.out,hIZ.out,e1,e2]
     exact We (w:=WS0) ⟨[Im],[],rfl⟩ rfl rfl ((Aa (zs.map fun z:Int × Tok=>z.1)).take pn) ((Aa (zs.map fun z:Int × Tok=>z.1)).drop pn) "y" "urn:y" (Gu _ hcst hst)
    repeat' (first
     | ((with_reducible show wpAny _ _ (subscriptTail _ _ (.ref pc) (.ref _)) _ _ _);refine Ig (vs:=strValues fY.ol) FK NK (by exact⟨_,(NK _ (Ml _ (Ml _ (Lo fY _ x1 hoA.1)))).1,rfl,_,rfl⟩) hzY ?_;clear FK NK;walk_at "eps2";rename_i slY h9;intro FK NK nslY;(try dsimp only))
     | ((with_reducible show wpAny _ _ (subscriptTail _ _ (.ref rs) (.ref _)) _ _ _);refine Ig (vs:=strValues fZ.ol) FK NK (by exact⟨_,(NK _ (.tail _ (Mr _ (Ml _ (Lo fZ _ x2 hoA.2))))).1,rfl,_,rfl⟩) hzZ ?_;clear FK NK;walk_at "eps2";rename_i slZ h9;intro FK NK nslZ;(try dsimp only))
     | ((fail_if_success (with_reducible show wpAny _ _ (compareOp _ _ _) _ _ _));(try ((with_reducible show wpAny _ _ (execs _ _) _ _ _);(conv=>(arg 6;dsimp only))));walk_at "go"))
    (rename Fr ..=>FK);(rename News ..=>NK)
    refine Xh (p:=fY.ol.drop (strValues fG.ol).toArray.size) (q:=fZ.ol.drop (strValues fI.ol).toArray.size) (by rw [← Gw];exact⟨_,(NK _ (.tail _ (.head _))).1,rfl,_,rfl⟩) (by rw [← Gw];exact⟨_,(NK _ (.head _)).1,rfl,_,rfl⟩) hsame ?uK ?_
    case uK=>show _<cLine;simp [Around.deeper,callerA,cLine]
    repeat' (walk_at "go")
    have hy99:∃ ps9,(116,tabObj ps9)∈tabs:=by
     rcases hLTA with e9 | ⟨c9,oc9,vs9,t9,e9,_,_⟩
     ·exact⟨_,by rw [e9];exact .head _⟩
     ·exact⟨_,by rw [e9];exact .head _⟩
    revert hy99;refine exi ?_;walk_at "eps";rename_i ps9;intro hps9;refine hq73 _ _ ?_
    (try dsimp only)
    refine hq72 _ _ ?_
    (try dsimp only)
    refine hq71 _ _ ?_
    (try dsimp only)
    refine hq0 _ _ ?_
    (try dsimp only)
    exact⟨rfl,FK.keep,oK,bK,⟨ps9,(NK _ (.tail _ (.tail _ (Ml _ (Mr _ hps9))))).1⟩,trivial⟩
end
end Mine
theorem PySem.Challenge.cw_dn0283_11_holds : PySem.Challenge.rw_dn0283_11.Holds :=
  Mine.law11
