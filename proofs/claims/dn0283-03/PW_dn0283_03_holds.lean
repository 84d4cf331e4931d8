import PyProof.Rows.All
import Wide.All
import OpenK.AllK
import Wide.FinOn
import PySem.Challenge.RW_dn0283_03
open PySem PySem.W PyProof.Rows PySem.Challenge
set_option Elab.async false
set_option maxRecDepth 100000
set_option maxHeartbeats 8000000
set_option linter.all false
set_option compiler.extract_closed false
namespace Mine
open PySem.Calls
theorem Wb {α β : Type} {M : Model} {A : Around} {E : Value → Shared → Prop} {s : Shared} {m : Sem α} {f : α → Sem β} {Q : β → Shared → Prop} (h : wpAny M A m (fun a s' => wpAny M A (f a) Q E s') E s) : wpAny M A (m >>= f) Q E s := wpAny_bind h
theorem Wp {α : Type} {M : Model} {A : Around} {E : Value → Shared → Prop} {s : Shared} {a : α} {Q : α → Shared → Prop} (h : Q a s) : wpAny M A (pure a : Sem α) Q E s := wpAny_pure h
structure Ok (g:Heap) (os:OsState) (own:List (Addr × Obj)) (s:Shared):Prop where
 size:g.objs.size≤s.heap.objs.size
 keep:∀ b o,g.get? b=some o→s.heap.get? b=some o
 own:∀ p∈own,s.heap.get? p.1=some p.2∧g.get? p.1=none
 os:s.os=os
 bare:AllBare s.gens
noncomputable def LeaveM(g:Heap)(os:OsState)(R:Result→Shared→Prop)(v:Value)(s':Shared):Prop :=
 ∃ L' m' news',Fr g L' s'.heap m'∧News g L' s'.heap news'∧s'.os=os∧AllBare s'.gens∧(Ok g os news' s'→R (.ok (.ret v)) s')
theorem Kn{g:Heap}{os:OsState}{L:Addr}{m:Str→Option Value}{news:List (Addr × Obj)}{s:Shared}(F:Fr g L s.heap m)(N:News g L s.heap news)(ho:s.os=os)(hb:AllBare s.gens):Ok g os news s:=by
 obtain⟨oL,_,_,hL,_⟩:=F.ns
 exact⟨Nat.le_of_lt (Nat.lt_of_le_of_lt F.above (Heap.lt_size hL)),F.keep,fun p hp=>⟨(N p hp).1,(N p hp).2.2⟩,ho,hb⟩
theorem Dy{prog:Program}{w:World}{A:Around}{s:Shared}{g:Heap}{os:OsState}{own:List (Addr × Obj)}{K:Frag}{p:Program}{zw:List Str}{zr:ExcName→Option Value}{mg mb:Str→Option Value}
  {R:Result→Shared→Prop} {name qual:Str} {params:Arguments} {body:List Stmt} {scope:Scope} {dV kV doc pm cdv ct oc:Value} {an od:Option Addr} {osl:Array (Option Value)} {f:Addr} {args:Args} {binds:List (Str × Value)}
  (H:Ok g os own s) (X:K.In g) (T:Top p zw zr mg mb g)
  (ho:K.lookup f=some ⟨oc,od,.func (fnOf name qual params body scope dV kV doc pm an cdv ct),osl⟩) (hcd:codeIn K cdv qual=true) (zq:A.depth<recursionLimit)
  (zg:BindsTo s (fnOf name qual params body scope dV kV doc pm an cdv ct) args binds) (hloc:∀ y∈binds,scope.names.lookup y.1=some .local)
  (h:∀ L' h₁,Fr g L' h₁ (fun y=>binds.reverse.lookup y)→News g L' h₁ own→(∀ p∈own,p.1<L') →
   wpAny (model prog w) (A.deeper (envOf qual scope L' f cdv)) (execs body (envOf qual scope L' f cdv))
    (fun fl s'=>LeaveM g os R (match fl with | .ret v=>v | _=>.none) s')
    (fun e s'=>wpAny (model prog w) (A.deeper (envOf qual scope L' f cdv)) (leaving (envOf qual scope L' f cdv) e) (fun _ s''=>R (.error e) s'') (fun e' s''=>R (.error e') s'') s')
    { s with heap:=h₁,toks:=s.toks+binds.length })
  (hco:scope.isCoroutine=false:=by rfl) (hgen:scope.isGenerator=false:=by rfl) (hk:scope.kind=.function:=by rfl)
  (hcell:∀ x∈scope.names,x.2≠.cell:=by decide):codeAny (model prog w) A (.call (.ref f) args) R s:=by
 refine codeAny_call_def (fd:=fnOf name qual params body scope dV kV doc pm an cdv ct) (body:=body) (binds:=binds) zq ((X.keeps H.keep) _ _ ho) rfl (T.nolimit.keeps H.keep) (codeRec_of (X.keeps H.keep) hcd) rfl zg hcell hloc (fun h₁ hns hk₁=>?_) hco hgen hk
 refine wpAny_mono (h s.heap.objs.size h₁ ⟨hns,fun b o e=>hk₁ b o (H.keep b o e),H.size⟩
  (fun p hp=>⟨hk₁ _ _ (H.own p hp).1,Nat.ne_of_lt (Heap.lt_size (H.own p hp).1),(H.own p hp).2⟩) (fun p hp=>Heap.lt_size (H.own p hp).1)) (fun fl s' hl=>?_) fun _ _ y=>y
 obtain⟨L',m',news',F',N',hos',hb',k⟩:=hl;exact k (Kn F' N' hos' hb')
theorem Gr{prog:Program}{w:World}{A:Around}{s:Shared}{g:Heap}{os:OsState}{own:List (Addr × Obj)}{K:Frag}{p:Program}{zw:List Str}{zr:ExcName→Option Value}{mg mb:Str→Option Value}
  {R:Result→Shared→Prop} {name qual:Str} {params:Arguments} {body:List Stmt} {scope:Scope} {dV kV doc pm cdv ct oc:Value} {an od:Option Addr} {osl:Array (Option Value)} {f:Addr} {args:Args} {binds:List (Str × Value)} (m0:Str→Option Value)
  (H:Ok g os own s) (X:K.In g) (T:Top p zw zr mg mb g)
  (ho:K.lookup f=some ⟨oc,od,.func (fnOf name qual params body scope dV kV doc pm an cdv ct),osl⟩) (hcd:codeIn K cdv qual=true) (zq:A.depth<recursionLimit)
  (zg:BindsTo s (fnOf name qual params body scope dV kV doc pm an cdv ct) args binds) (hloc:∀ y∈binds,scope.names.lookup y.1=some .local) (hm:(fun y=>binds.reverse.lookup y)=m0) (zd:0<binds.length)
  (h:∀ L' h₁ k,0<k→Fr g L' h₁ m0→News g L' h₁ own→(∀ p∈own,p.1<L') →
   wpAny (model prog w) (A.deeper (envOf qual scope L' f cdv)) (execs body (envOf qual scope L' f cdv))
    (fun fl s'=>LeaveM g os R (match fl with | .ret v=>v | _=>.none) s')
    (fun e s'=>wpAny (model prog w) (A.deeper (envOf qual scope L' f cdv)) (leaving (envOf qual scope L' f cdv) e) (fun _ s''=>R (.error e) s'') (fun e' s''=>R (.error e') s'') s')
    { s with heap:=h₁,toks:=k })
  (hco:scope.isCoroutine=false) (hgen:scope.isGenerator=false) (hk:scope.kind=.function)
  (hcell:∀ x∈scope.names,x.2≠.cell):codeAny (model prog w) A (.call (.ref f) args) R s:=by
 subst hm
 exact Dy H X T ho hcd zq zg hloc (fun L' h₁ F N l=>h L' h₁ _ (Nat.lt_of_lt_of_le zd (Nat.le_add_left ..)) F N l) hco hgen hk hcell
theorem leaveM_{g:Heap}{os:OsState}{L':Addr}{m':Str→Option Value}{news':List (Addr × Obj)}{R:Result→Shared→Prop}{v:Value}{s':Shared}(F':Fr g L' s'.heap m')(N':News g L' s'.heap news')(ho:s'.os=os)(hb:AllBare s'.gens)
  (k:Ok g os news' s'→R (.ok (.ret v)) s'):LeaveM g os R v s':=⟨L',m',news',F',N',ho,hb,k⟩
theorem Eb{g:Heap}{L:Addr}{m:Str→Option Value}{news own rest:List (Addr × Obj)}{s:Shared}{os:OsState}(F:Fr g L s.heap m)(N:News g L s.heap news)(hos:s.os=os)(hb:AllBare s.gens)
  (h1:∀ p∈own,p∈news) (h2:∀ p∈rest,p∈news) (h3:∀ p∈rest,p.1∉own.map (·.1)) :
  Ok (hideAll s.heap (own.map (·.1))) os own s∧(∀ b o,g.get? b=some o→(hideAll s.heap (own.map (·.1))).get? b=some o)∧(∀ p∈rest,(hideAll s.heap (own.map (·.1))).get? p.1=some p.2) ∧
  (∀ s' own',Ok (hideAll s.heap (own.map (·.1))) os own' s'→Fr g L s'.heap m∧News g L s'.heap (own'++rest)∧s'.os=os∧AllBare s'.gens):=by
 have nm:∀ b o,g.get? b=some o→b∉own.map (·.1):=fun b o e q=>by
  obtain⟨p,hp,rfl⟩:=List.mem_map.mp q;rw [(N p (h1 p hp)).2.2] at e;cases e
 have st:∀ b o,g.get? b=some o→(hideAll s.heap (own.map (·.1))).get? b=some o:=fun b o e=>hideAll_get _ (F.keep b o e) (nm b o e)
 have rs:∀ p∈rest,(hideAll s.heap (own.map (·.1))).get? p.1=some p.2:=fun p hp=>hideAll_get _ (N p (h2 p hp)).1 (h3 p hp)
 obtain⟨oL,es,ep,hL,hLd,hLk,hLf⟩:=F.ns
 have nL:L∉own.map (·.1):=fun q=>by
  obtain⟨p,hp,e⟩:=List.mem_map.mp q;exact(N p (h1 p hp)).2.1 e
 have hLg:=hideAll_get (own.map (·.1)) hL nL
 refine⟨⟨Nat.le_of_eq (hideAll_size _ _),fun b o e=>of_hideAll _ e,fun p hp=>⟨(N p (h1 p hp)).1,hideAll_none _ (List.mem_map_of_mem hp)⟩,hos,hb⟩,st,rs,fun s' own' H=>⟨⟨⟨oL,es,ep,H.keep L oL hLg,hLd,hLk,hLf⟩,fun b o e=>H.keep b o (st b o e),F.above⟩,fun p hp=>?_,H.os,H.bare⟩⟩
 rcases List.mem_append.mp hp with q | q
 ·refine⟨(H.own p q).1,fun z=>?_,?_⟩
  ·have:=(H.own p q).2;rw [z,hLg] at this;cases this
  ·cases z:g.get? p.1 with
   | none=>rfl
   | some o=>have:=(H.own p q).2;rw [st _ _ z] at this;cases this
 ·exact⟨H.keep _ _ (rs p q),(N p (h2 p q)).2.1,(N p (h2 p q)).2.2⟩
theorem Fc{α:Type}{p:α→Prop}{a:α}{l:List α}(h:p a)(t:∀ x∈l,p x):∀ x∈a::l,p x:=List.forall_mem_cons.mpr ⟨h,t⟩
theorem Fp{α:Type}{p:α→Prop}{a b:List α}(h:∀ x∈a,p x)(t:∀ x∈b,p x):∀ x∈a++b,p x:=List.forall_mem_append.mpr ⟨h,t⟩
theorem Ml{α:Type}{a:α}{s:List α}(t:List α)(h:a∈s):a∈s++t:=List.mem_append_left t h
theorem Mr{α:Type}{a:α}{t:List α}(s:List α)(h:a∈t):a∈s++t:=List.mem_append_right s h
theorem Nl{a b:Nat}(h:¬ b<a):a≤b:=Nat.le_of_not_lt h
theorem Nt{a b:Nat}(h:¬ b≤a):a<b:=Nat.lt_of_not_le h
theorem El{a b:Nat}(h:a=b):a≤b:=Nat.le_of_eq h
theorem Es{a b:Nat}(h:a=b):b≤a:=Nat.le_of_eq h.symm
end Mine
namespace Mine
open PySem.Calls
set_option genSizeOf false
set_option genInjectivity false
inductive Ln where
 | k (n:Nat) | v (i:Nat) | a (x y:Ln) | m (n:Nat) (x:Ln) | w (x:Ln) (n:Nat) | c (n:Nat) (x y t:Ln)
noncomputable abbrev V0:Ln:=.v 0
noncomputable abbrev V1:Ln:=.v 1
noncomputable abbrev V2:Ln:=.v 2
noncomputable abbrev V3:Ln:=.v 3
noncomputable abbrev V4:Ln:=.v 4
noncomputable abbrev V5:Ln:=.v 5
noncomputable abbrev V6:Ln:=.v 6
noncomputable abbrev V7:Ln:=.v 7
noncomputable abbrev V8:Ln:=.v 8
noncomputable abbrev V9:Ln:=.v 9
noncomputable abbrev K0:Ln:=.k 0
noncomputable abbrev K1:Ln:=.k 1
noncomputable abbrev Ln.s(x:Ln):Ln:=.a x (.k 1)
noncomputable abbrev Ln.e(x y t:Ln):Ln:=.c 1 x y t
noncomputable def Ln.at(c:List Nat):Nat→Nat:=@List.rec Nat (fun _=>Nat→Nat) (fun _=>0) (fun h _ ih i=>@Nat.rec (fun _=>Nat) h (fun j _=>ih j) i) c
noncomputable def Ln.d(c:List Nat)(e:Ln):Nat:=@Ln.rec (fun _=>Nat) (fun n=>n) (fun i=>Ln.at c i) (fun _ _ x y=>x+y) (fun n _ x=>n * x) (fun _ n x=>x * n) (fun _ _ _ _ _ _ _=>0) e
noncomputable def Ln.add:List Nat→List Nat→List Nat:=fun x=>@List.rec Nat (fun _=>List Nat→List Nat) (fun y=>y) (fun a s ih y=>@List.rec Nat (fun _=>List Nat) (a::s) (fun b t _=>(a+b)::ih t) y) x
noncomputable def Ln.mul(n:Nat):List Nat→List Nat:=fun x=>@List.rec Nat (fun _=>List Nat) [] (fun a _ ih=>n * a::ih) x
noncomputable def Ln.un:Nat→List Nat:=fun i=>@Nat.rec (fun _=>List Nat) [1] (fun _ r=>0::r) i
noncomputable def Ln.p(e:Ln):List Nat:=@Ln.rec (fun _=>List Nat) (fun n=>[n]) (fun i=>0::Ln.un i) (fun _ _ x y=>Ln.add x y) (fun n _ x=>Ln.mul n x) (fun _ n x=>Ln.mul n x) (fun _ _ _ _ _ _ _=>[]) e
noncomputable def Ln.dot(x c:List Nat):Nat:=@List.rec Nat (fun _=>List Nat→Nat) (fun _=>0) (fun a _ ih c=>@List.rec Nat (fun _=>Nat) 0 (fun b t _=>a * b+ih t) c) x c
noncomputable def Ln.ge:List Nat→List Nat→Bool:=fun x=>@List.rec Nat (fun _=>List Nat→Bool) (fun y=>@List.rec Nat (fun _=>Bool) true (fun b _ r=>and (Nat.ble b 0) r) y) (fun a _ ih y=>@List.rec Nat (fun _=>Bool) true (fun b t _=>and (Nat.ble b a) (ih t)) y) x
noncomputable def Ln.l(e:Ln):List Nat:=@Ln.rec (fun _=>List Nat) (fun _=>[]) (fun _=>[]) (fun _ _ _ _=>[]) (fun _ _ _=>[]) (fun _ _ _=>[]) (fun n x _ _ _ _ t=>Ln.add (Ln.mul n (Ln.p x)) t) e
noncomputable def Ln.r(e:Ln):List Nat:=@Ln.rec (fun _=>List Nat) (fun _=>[1]) (fun _=>[1]) (fun _ _ _ _=>[1]) (fun _ _ _=>[1]) (fun _ _ _=>[1]) (fun n _ y _ _ _ t=>Ln.add (Ln.mul n (Ln.p y)) t) e
noncomputable def Ln.den(c:List Nat)(e:Ln):Prop:=@Ln.rec (fun _=>Prop) (fun _=>False) (fun _=>False) (fun _ _ _ _=>False) (fun _ _ _=>False) (fun _ _ _=>False) (fun _ x y _ _ _ t=>Ln.d c x≤Ln.d c y→t) e
theorem Ln.dot_add(x y c:List Nat):Ln.dot (Ln.add x y) c=Ln.dot x c+Ln.dot y c:=by
 induction x generalizing y c with
 | nil=>exact(Nat.zero_add _).symm
 | cons a s ih =>
  cases y with
  | nil=>rfl
  | cons b t =>
   cases c with
   | nil=>rfl
   | cons e u =>
    show (a+b) * e+Ln.dot (Ln.add s t) u=a * e+Ln.dot s u+(b * e+Ln.dot t u)
    rw [ih,Nat.add_mul];exact Nat.add_add_add_comm ..
theorem Ln.dot_mul(n:Nat)(x c:List Nat):Ln.dot (Ln.mul n x) c=n * Ln.dot x c:=by
 induction x generalizing c with
 | nil=>rfl
 | cons a s ih =>
  cases c with
  | nil=>rfl
  | cons e u =>
   show n * a * e+Ln.dot (Ln.mul n s) u=n * (a * e+Ln.dot s u)
   rw [ih,Nat.mul_add,Nat.mul_assoc]
theorem Ln.dot_un(i:Nat)(c:List Nat):Ln.dot (Ln.un i) c=Ln.at c i:=by
 induction i generalizing c with
 | zero =>
  cases c with
  | nil=>rfl
  | cons a t=>show 1 * a+0=a;rw [Nat.one_mul];rfl
 | succ i ih =>
  cases c with
  | nil=>rfl
  | cons a t=>show 0 * a+Ln.dot (Ln.un i) t=Ln.at t i;rw [ih,Nat.zero_mul,Nat.zero_add]
theorem Ln.dot_p(e:Ln)(c:List Nat):Ln.dot (Ln.p e) (1::c)=Ln.d c e:=by
 induction e with
 | k n=>show n * 1+0=n;rw [Nat.mul_one];rfl
 | v i=>show 0 * 1+Ln.dot (Ln.un i) c=Ln.at c i;rw [Ln.dot_un,Nat.zero_mul,Nat.zero_add]
 | a x y h1 h2=>show Ln.dot (Ln.add (Ln.p x) (Ln.p y)) _=Ln.d c x+Ln.d c y;rw [Ln.dot_add,h1,h2]
 | m n x h=>show Ln.dot (Ln.mul n (Ln.p x)) _=n * Ln.d c x;rw [Ln.dot_mul,h]
 | w x n h=>show Ln.dot (Ln.mul n (Ln.p x)) _=Ln.d c x * n;rw [Ln.dot_mul,h,Nat.mul_comm]
 | c=>rfl
theorem Ln.dot_ge(x y c:List Nat)(h:Ln.ge x y=true):Ln.dot y c≤Ln.dot x c:=by
 induction x generalizing y c with
 | nil =>
  induction y generalizing c with
  | nil=>exact Nat.le_refl _
  | cons b t ih =>
   have h':=Bool.and_eq_true_iff.mp (show (Nat.ble b 0 && Ln.ge [] t)=true from h)
   cases c with
   | nil=>exact Nat.le_refl _
   | cons e u =>
    show b * e+Ln.dot t u≤0
    rw [Nat.le_zero.mp (Nat.le_of_ble_eq_true h'.1),Nat.zero_mul,Nat.zero_add];exact ih u h'.2
 | cons a s ih =>
  cases y with
  | nil=>exact Nat.zero_le _
  | cons b t =>
   have h':=Bool.and_eq_true_iff.mp (show (Nat.ble b a && Ln.ge s t)=true from h)
   cases c with
   | nil=>exact Nat.le_refl _
   | cons e u=>exact Nat.add_le_add (Nat.mul_le_mul_right _ (Nat.le_of_ble_eq_true h'.1)) (ih t u h'.2)
theorem Ln.fk'(c:List Nat)(e:Ln):∀ X Y:Nat,X≤Y→Y+Ln.dot (Ln.r e) (1::c)≤X+Ln.dot (Ln.l e) (1::c)→Ln.den c e:=by
 have base:∀ X Y:Nat,X≤Y→Y+(1 * 1+0)≤X+0→False:=fun X Y h1 h2=>Nat.lt_irrefl _ (Nat.lt_of_lt_of_le (Nat.lt_succ_of_le h1) h2)
 induction e with
 | k=>exact base
 | v=>exact base
 | a=>exact base
 | m=>exact base
 | w=>exact base
 | c n x y t h1 h2 ih =>
  intro X Y h1 h2 hxy;refine ih (X+n * Ln.d c x) (Y+n * Ln.d c y) (Nat.add_le_add h1 (Nat.mul_le_mul_left _ hxy)) ?_
  have e1:Ln.dot (Ln.l (.c n x y t)) (1::c)=n * Ln.d c x+Ln.dot (Ln.l t) (1::c):=by
   show Ln.dot (Ln.add (Ln.mul n (Ln.p x)) (Ln.l t)) _=_
   rw [Ln.dot_add,Ln.dot_mul,Ln.dot_p]
  have e2:Ln.dot (Ln.r (.c n x y t)) (1::c)=n * Ln.d c y+Ln.dot (Ln.r t) (1::c):=by
   show Ln.dot (Ln.add (Ln.mul n (Ln.p y)) (Ln.r t)) _=_
   rw [Ln.dot_add,Ln.dot_mul,Ln.dot_p]
  rw [e1,e2] at h2;rw [Nat.add_assoc,Nat.add_assoc];exact h2
theorem Ln.sba{a b:Nat}:a≤a - b+b:=Nat.le_add_of_sub_le (Nat.le_refl _)
theorem fk(c:List Nat)(e:Ln)(h:Ln.ge (Ln.l e) (Ln.r e)=true):Ln.den c e :=
 Ln.fk' c e 0 0 (Nat.le_refl _) (Nat.add_le_add_left (Ln.dot_ge _ _ _ h) 0)
end Mine
namespace Mine
open PySem.Calls
noncomputable def cx{α:Type}(ne:Nonempty α)(P:α→Prop):α:=@Classical.epsilon α ne fun a=>¬ P a
theorem Bg{α:Type}(ne:Nonempty α){P:α→Prop}(h:P (cx ne P)):∀ a,P a:=fun a =>
 Classical.byContradiction fun hn=>(@Classical.epsilon_spec_aux α ne (fun a=>¬ P a) ⟨a,hn⟩) h
def Tie{α:Sort _}(_:α)(_:Prop):Prop:=True
abbrev Fa{α:Type}(P:α→Prop):Prop:=∀ a,P a
theorem tie{α:Type}{P:α→Prop}:Tie P (∀ a,P a):=trivial
theorem Aw{α:Type}(ne:Nonempty α){P:α→Prop}{T:Prop}(_:Tie P T)(h:P (cx ne P)):∀ a,P a:=Bg ne h
noncomputable def cx2{α0 α1:Type}(ne:Nonempty (α0 × α1))(P:α0→α1→Prop):α0 × α1:=cx ne fun t=>P t.1 t.2
abbrev Fa2{α0 α1:Type}(P:α0→α1→Prop):Prop:=∀ a0 a1,P a0 a1
theorem Ee{α0 α1:Type}(ne:Nonempty (α0 × α1)){P:α0→α1→Prop}(h:P (cx2 ne P).1 (cx2 ne P).2):∀ a0 a1,P a0 a1:=fun a0 a1=>Bg ne (P:=fun t=>P t.1 t.2) h (a0,a1)
theorem Ar{α0 α1:Type}{P:α0→α1→Prop}:Tie P (∀ a0 a1,P a0 a1):=trivial
theorem Ah{α0 α1:Type}(ne:Nonempty (α0 × α1)){P:α0→α1→Prop}{T:Prop}(_:Tie P T)(h:P (cx2 ne P).1 (cx2 ne P).2):∀ a0 a1,P a0 a1:=Ee ne h
noncomputable def cx3{α0 α1 α2:Type}(ne:Nonempty (α0 × α1 × α2))(P:α0→α1→α2→Prop):α0 × α1 × α2:=cx ne fun t=>P t.1 t.2.1 t.2.2
abbrev Fa3{α0 α1 α2:Type}(P:α0→α1→α2→Prop):Prop:=∀ a0 a1 a2,P a0 a1 a2
theorem Ef{α0 α1 α2:Type}(ne:Nonempty (α0 × α1 × α2)){P:α0→α1→α2→Prop}(h:P (cx3 ne P).1 (cx3 ne P).2.1 (cx3 ne P).2.2):∀ a0 a1 a2,P a0 a1 a2:=fun a0 a1 a2=>Bg ne (P:=fun t=>P t.1 t.2.1 t.2.2) h (a0,a1,a2)
theorem Cv{α0 α1 α2:Type}{P:α0→α1→α2→Prop}:Tie P (∀ a0 a1 a2,P a0 a1 a2):=trivial
theorem Au{α0 α1 α2:Type}(ne:Nonempty (α0 × α1 × α2)){P:α0→α1→α2→Prop}{T:Prop}(_:Tie P T)(h:P (cx3 ne P).1 (cx3 ne P).2.1 (cx3 ne P).2.2):∀ a0 a1 a2,P a0 a1 a2:=Ef ne h
noncomputable def cx4{α0 α1 α2 α3:Type}(ne:Nonempty (α0 × α1 × α2 × α3))(P:α0→α1→α2→α3→Prop):α0 × α1 × α2 × α3:=cx ne fun t=>P t.1 t.2.1 t.2.2.1 t.2.2.2
abbrev Fa4{α0 α1 α2 α3:Type}(P:α0→α1→α2→α3→Prop):Prop:=∀ a0 a1 a2 a3,P a0 a1 a2 a3
theorem Ey{α0 α1 α2 α3:Type}(ne:Nonempty (α0 × α1 × α2 × α3)){P:α0→α1→α2→α3→Prop}(h:P (cx4 ne P).1 (cx4 ne P).2.1 (cx4 ne P).2.2.1 (cx4 ne P).2.2.2):∀ a0 a1 a2 a3,P a0 a1 a2 a3:=fun a0 a1 a2 a3=>Bg ne (P:=fun t=>P t.1 t.2.1 t.2.2.1 t.2.2.2) h (a0,a1,a2,a3)
theorem Cy{α0 α1 α2 α3:Type}{P:α0→α1→α2→α3→Prop}:Tie P (∀ a0 a1 a2 a3,P a0 a1 a2 a3):=trivial
theorem Ax{α0 α1 α2 α3:Type}(ne:Nonempty (α0 × α1 × α2 × α3)){P:α0→α1→α2→α3→Prop}{T:Prop}(_:Tie P T)(h:P (cx4 ne P).1 (cx4 ne P).2.1 (cx4 ne P).2.2.1 (cx4 ne P).2.2.2):∀ a0 a1 a2 a3,P a0 a1 a2 a3:=Ey ne h
noncomputable def cx5{α0 α1 α2 α3 α4:Type}(ne:Nonempty (α0 × α1 × α2 × α3 × α4))(P:α0→α1→α2→α3→α4→Prop):α0 × α1 × α2 × α3 × α4:=cx ne fun t=>P t.1 t.2.1 t.2.2.1 t.2.2.2.1 t.2.2.2.2
abbrev Fa5{α0 α1 α2 α3 α4:Type}(P:α0→α1→α2→α3→α4→Prop):Prop:=∀ a0 a1 a2 a3 a4,P a0 a1 a2 a3 a4
theorem Eg{α0 α1 α2 α3 α4:Type}(ne:Nonempty (α0 × α1 × α2 × α3 × α4)){P:α0→α1→α2→α3→α4→Prop}(h:P (cx5 ne P).1 (cx5 ne P).2.1 (cx5 ne P).2.2.1 (cx5 ne P).2.2.2.1 (cx5 ne P).2.2.2.2):∀ a0 a1 a2 a3 a4,P a0 a1 a2 a3 a4:=fun a0 a1 a2 a3 a4=>Bg ne (P:=fun t=>P t.1 t.2.1 t.2.2.1 t.2.2.2.1 t.2.2.2.2) h (a0,a1,a2,a3,a4)
theorem Hf{α0 α1 α2 α3 α4:Type}{P:α0→α1→α2→α3→α4→Prop}:Tie P (∀ a0 a1 a2 a3 a4,P a0 a1 a2 a3 a4):=trivial
theorem Ci{α0 α1 α2 α3 α4:Type}(ne:Nonempty (α0 × α1 × α2 × α3 × α4)){P:α0→α1→α2→α3→α4→Prop}{T:Prop}(_:Tie P T)(h:P (cx5 ne P).1 (cx5 ne P).2.1 (cx5 ne P).2.2.1 (cx5 ne P).2.2.2.1 (cx5 ne P).2.2.2.2):∀ a0 a1 a2 a3 a4,P a0 a1 a2 a3 a4:=Eg ne h
noncomputable def cx6{α0 α1 α2 α3 α4 α5:Type}(ne:Nonempty (α0 × α1 × α2 × α3 × α4 × α5))(P:α0→α1→α2→α3→α4→α5→Prop):α0 × α1 × α2 × α3 × α4 × α5:=cx ne fun t=>P t.1 t.2.1 t.2.2.1 t.2.2.2.1 t.2.2.2.2.1 t.2.2.2.2.2
abbrev Fa6{α0 α1 α2 α3 α4 α5:Type}(P:α0→α1→α2→α3→α4→α5→Prop):Prop:=∀ a0 a1 a2 a3 a4 a5,P a0 a1 a2 a3 a4 a5
theorem Cp{α0 α1 α2 α3 α4 α5:Type}(ne:Nonempty (α0 × α1 × α2 × α3 × α4 × α5)){P:α0→α1→α2→α3→α4→α5→Prop}(h:P (cx6 ne P).1 (cx6 ne P).2.1 (cx6 ne P).2.2.1 (cx6 ne P).2.2.2.1 (cx6 ne P).2.2.2.2.1 (cx6 ne P).2.2.2.2.2):∀ a0 a1 a2 a3 a4 a5,P a0 a1 a2 a3 a4 a5:=fun a0 a1 a2 a3 a4 a5=>Bg ne (P:=fun t=>P t.1 t.2.1 t.2.2.1 t.2.2.2.1 t.2.2.2.2.1 t.2.2.2.2.2) h (a0,a1,a2,a3,a4,a5)
theorem tie6{α0 α1 α2 α3 α4 α5:Type}{P:α0→α1→α2→α3→α4→α5→Prop}:Tie P (∀ a0 a1 a2 a3 a4 a5,P a0 a1 a2 a3 a4 a5):=trivial
theorem Gg{α0 α1 α2 α3 α4 α5:Type}(ne:Nonempty (α0 × α1 × α2 × α3 × α4 × α5)){P:α0→α1→α2→α3→α4→α5→Prop}{T:Prop}(_:Tie P T)(h:P (cx6 ne P).1 (cx6 ne P).2.1 (cx6 ne P).2.2.1 (cx6 ne P).2.2.2.1 (cx6 ne P).2.2.2.2.1 (cx6 ne P).2.2.2.2.2):∀ a0 a1 a2 a3 a4 a5,P a0 a1 a2 a3 a4 a5:=Cp ne h
noncomputable def cx7{α0 α1 α2 α3 α4 α5 α6:Type}(ne:Nonempty (α0 × α1 × α2 × α3 × α4 × α5 × α6))(P:α0→α1→α2→α3→α4→α5→α6→Prop):α0 × α1 × α2 × α3 × α4 × α5 × α6:=cx ne fun t=>P t.1 t.2.1 t.2.2.1 t.2.2.2.1 t.2.2.2.2.1 t.2.2.2.2.2.1 t.2.2.2.2.2.2
abbrev Fa7{α0 α1 α2 α3 α4 α5 α6:Type}(P:α0→α1→α2→α3→α4→α5→α6→Prop):Prop:=∀ a0 a1 a2 a3 a4 a5 a6,P a0 a1 a2 a3 a4 a5 a6
theorem Hj{α0 α1 α2 α3 α4 α5 α6:Type}(ne:Nonempty (α0 × α1 × α2 × α3 × α4 × α5 × α6)){P:α0→α1→α2→α3→α4→α5→α6→Prop}(h:P (cx7 ne P).1 (cx7 ne P).2.1 (cx7 ne P).2.2.1 (cx7 ne P).2.2.2.1 (cx7 ne P).2.2.2.2.1 (cx7 ne P).2.2.2.2.2.1 (cx7 ne P).2.2.2.2.2.2):∀ a0 a1 a2 a3 a4 a5 a6,P a0 a1 a2 a3 a4 a5 a6:=fun a0 a1 a2 a3 a4 a5 a6=>Bg ne (P:=fun t=>P t.1 t.2.1 t.2.2.1 t.2.2.2.1 t.2.2.2.2.1 t.2.2.2.2.2.1 t.2.2.2.2.2.2) h (a0,a1,a2,a3,a4,a5,a6)
theorem Cm{α0 α1 α2 α3 α4 α5 α6:Type}{P:α0→α1→α2→α3→α4→α5→α6→Prop}:Tie P (∀ a0 a1 a2 a3 a4 a5 a6,P a0 a1 a2 a3 a4 a5 a6):=trivial
theorem Ap{α0 α1 α2 α3 α4 α5 α6:Type}(ne:Nonempty (α0 × α1 × α2 × α3 × α4 × α5 × α6)){P:α0→α1→α2→α3→α4→α5→α6→Prop}{T:Prop}(_:Tie P T)(h:P (cx7 ne P).1 (cx7 ne P).2.1 (cx7 ne P).2.2.1 (cx7 ne P).2.2.2.1 (cx7 ne P).2.2.2.2.1 (cx7 ne P).2.2.2.2.2.1 (cx7 ne P).2.2.2.2.2.2):∀ a0 a1 a2 a3 a4 a5 a6,P a0 a1 a2 a3 a4 a5 a6:=Hj ne h
noncomputable def cx8{α0 α1 α2 α3 α4 α5 α6 α7:Type}(ne:Nonempty (α0 × α1 × α2 × α3 × α4 × α5 × α6 × α7))(P:α0→α1→α2→α3→α4→α5→α6→α7→Prop):α0 × α1 × α2 × α3 × α4 × α5 × α6 × α7:=cx ne fun t=>P t.1 t.2.1 t.2.2.1 t.2.2.2.1 t.2.2.2.2.1 t.2.2.2.2.2.1 t.2.2.2.2.2.2.1 t.2.2.2.2.2.2.2
abbrev Fa8{α0 α1 α2 α3 α4 α5 α6 α7:Type}(P:α0→α1→α2→α3→α4→α5→α6→α7→Prop):Prop:=∀ a0 a1 a2 a3 a4 a5 a6 a7,P a0 a1 a2 a3 a4 a5 a6 a7
theorem Aa{α0 α1 α2 α3 α4 α5 α6 α7:Type}(ne:Nonempty (α0 × α1 × α2 × α3 × α4 × α5 × α6 × α7)){P:α0→α1→α2→α3→α4→α5→α6→α7→Prop}(h:P (cx8 ne P).1 (cx8 ne P).2.1 (cx8 ne P).2.2.1 (cx8 ne P).2.2.2.1 (cx8 ne P).2.2.2.2.1 (cx8 ne P).2.2.2.2.2.1 (cx8 ne P).2.2.2.2.2.2.1 (cx8 ne P).2.2.2.2.2.2.2):∀ a0 a1 a2 a3 a4 a5 a6 a7,P a0 a1 a2 a3 a4 a5 a6 a7:=fun a0 a1 a2 a3 a4 a5 a6 a7=>Bg ne (P:=fun t=>P t.1 t.2.1 t.2.2.1 t.2.2.2.1 t.2.2.2.2.1 t.2.2.2.2.2.1 t.2.2.2.2.2.2.1 t.2.2.2.2.2.2.2) h (a0,a1,a2,a3,a4,a5,a6,a7)
theorem tie8{α0 α1 α2 α3 α4 α5 α6 α7:Type}{P:α0→α1→α2→α3→α4→α5→α6→α7→Prop}:Tie P (∀ a0 a1 a2 a3 a4 a5 a6 a7,P a0 a1 a2 a3 a4 a5 a6 a7):=trivial
theorem Mz{α0 α1 α2 α3 α4 α5 α6 α7:Type}(ne:Nonempty (α0 × α1 × α2 × α3 × α4 × α5 × α6 × α7)){P:α0→α1→α2→α3→α4→α5→α6→α7→Prop}{T:Prop}(_:Tie P T)(h:P (cx8 ne P).1 (cx8 ne P).2.1 (cx8 ne P).2.2.1 (cx8 ne P).2.2.2.1 (cx8 ne P).2.2.2.2.1 (cx8 ne P).2.2.2.2.2.1 (cx8 ne P).2.2.2.2.2.2.1 (cx8 ne P).2.2.2.2.2.2.2):∀ a0 a1 a2 a3 a4 a5 a6 a7,P a0 a1 a2 a3 a4 a5 a6 a7:=Aa ne h
theorem neI{α:Type}[Inhabited α]:Nonempty α:=⟨default⟩
theorem neS:Nonempty Shared:=⟨{}⟩
theorem Bc{β:Type}[Inhabited β]:Nonempty (Shared × β):=⟨({},default)⟩
theorem Al{β:Type}[Inhabited β](w:Nonempty World):Nonempty (World × Around × Shared × β):=w.elim fun w=>⟨(w,{},{},default)⟩
theorem neW:Nonempty World:=⟨⟨fun _ _=>0,{ strHash:=fun _=>0,shareClass:=fun _=>0,mergeTok:=fun t=>t,idOf:=fun _=>0,idOfShared:=fun _ _=>0,followText:=fun _=>false,idOfImm:=fun _=>0 }⟩⟩
theorem nn1{a b:Addr}{l:List Addr}(h:a∉b::l):¬ a=b:=fun e=>h (e ▸ .head _)
theorem nn2{a b:Addr}{l:List Addr}(h:a∉b::l):a∉l:=fun m=>h (.tail _ m)
theorem Af{a:Addr}{l:List Addr}(h:(a::l).Nodup):a∉l:=(List.nodup_cons.mp h).1
theorem Ac{a:Addr}{l:List Addr}(h:(a::l).Nodup):l.Nodup:=(List.nodup_cons.mp h).2
theorem ndk4{a0 a1 a2 a3:Addr}{G:Prop}(nd:([a0,a1,a2,a3]:List Addr).Nodup)(h:¬ a0=a1→¬ a0=a2→¬ a0=a3→¬ a1=a2→¬ a1=a3→¬ a2=a3→G):G :=
 h (nn1 (Af nd)) (nn1 (nn2 (Af nd))) (nn1 (nn2 (nn2 (Af nd)))) (nn1 (Af (Ac nd))) (nn1 (nn2 (Af (Ac nd)))) (nn1 (Af (Ac (Ac nd))))
theorem ndk5{a0 a1 a2 a3 a4:Addr}{G:Prop}(nd:([a0,a1,a2,a3,a4]:List Addr).Nodup)(h:¬ a0=a1→¬ a0=a2→¬ a0=a3→¬ a0=a4→¬ a1=a2→¬ a1=a3→¬ a1=a4→¬ a2=a3→¬ a2=a4→¬ a3=a4→G):G :=
 h (nn1 (Af nd)) (nn1 (nn2 (Af nd))) (nn1 (nn2 (nn2 (Af nd)))) (nn1 (nn2 (nn2 (nn2 (Af nd))))) (nn1 (Af (Ac nd))) (nn1 (nn2 (Af (Ac nd)))) (nn1 (nn2 (nn2 (Af (Ac nd))))) (nn1 (Af (Ac (Ac nd)))) (nn1 (nn2 (Af (Ac (Ac nd))))) (nn1 (Af (Ac (Ac (Ac nd)))))
theorem ndk6{a0 a1 a2 a3 a4 a5:Addr}{G:Prop}(nd:([a0,a1,a2,a3,a4,a5]:List Addr).Nodup)(h:¬ a0=a1→¬ a0=a2→¬ a0=a3→¬ a0=a4→¬ a0=a5→¬ a1=a2→¬ a1=a3→¬ a1=a4→¬ a1=a5→¬ a2=a3→¬ a2=a4→¬ a2=a5→¬ a3=a4→¬ a3=a5→¬ a4=a5→G):G :=
 h (nn1 (Af nd)) (nn1 (nn2 (Af nd))) (nn1 (nn2 (nn2 (Af nd)))) (nn1 (nn2 (nn2 (nn2 (Af nd))))) (nn1 (nn2 (nn2 (nn2 (nn2 (Af nd)))))) (nn1 (Af (Ac nd))) (nn1 (nn2 (Af (Ac nd)))) (nn1 (nn2 (nn2 (Af (Ac nd))))) (nn1 (nn2 (nn2 (nn2 (Af (Ac nd)))))) (nn1 (Af (Ac (Ac nd)))) (nn1 (nn2 (Af (Ac (Ac nd))))) (nn1 (nn2 (nn2 (Af (Ac (Ac nd)))))) (nn1 (Af (Ac (Ac (Ac nd))))) (nn1 (nn2 (Af (Ac (Ac (Ac nd)))))) (nn1 (Af (Ac (Ac (Ac (Ac nd))))))
theorem ndk7{a0 a1 a2 a3 a4 a5 a6:Addr}{G:Prop}(nd:([a0,a1,a2,a3,a4,a5,a6]:List Addr).Nodup)(h:¬ a0=a1→¬ a0=a2→¬ a0=a3→¬ a0=a4→¬ a0=a5→¬ a0=a6→¬ a1=a2→¬ a1=a3→¬ a1=a4→¬ a1=a5→¬ a1=a6→¬ a2=a3→¬ a2=a4→¬ a2=a5→¬ a2=a6→¬ a3=a4→¬ a3=a5→¬ a3=a6→¬ a4=a5→¬ a4=a6→¬ a5=a6→G):G :=
 h (nn1 (Af nd)) (nn1 (nn2 (Af nd))) (nn1 (nn2 (nn2 (Af nd)))) (nn1 (nn2 (nn2 (nn2 (Af nd))))) (nn1 (nn2 (nn2 (nn2 (nn2 (Af nd)))))) (nn1 (nn2 (nn2 (nn2 (nn2 (nn2 (Af nd))))))) (nn1 (Af (Ac nd))) (nn1 (nn2 (Af (Ac nd)))) (nn1 (nn2 (nn2 (Af (Ac nd))))) (nn1 (nn2 (nn2 (nn2 (Af (Ac nd)))))) (nn1 (nn2 (nn2 (nn2 (nn2 (Af (Ac nd))))))) (nn1 (Af (Ac (Ac nd)))) (nn1 (nn2 (Af (Ac (Ac nd))))) (nn1 (nn2 (nn2 (Af (Ac (Ac nd)))))) (nn1 (nn2 (nn2 (nn2 (Af (Ac (Ac nd))))))) (nn1 (Af (Ac (Ac (Ac nd))))) (nn1 (nn2 (Af (Ac (Ac (Ac nd)))))) (nn1 (nn2 (nn2 (Af (Ac (Ac (Ac nd))))))) (nn1 (Af (Ac (Ac (Ac (Ac nd)))))) (nn1 (nn2 (Af (Ac (Ac (Ac (Ac nd))))))) (nn1 (Af (Ac (Ac (Ac (Ac (Ac nd)))))))
theorem ndk8{a0 a1 a2 a3 a4 a5 a6 a7:Addr}{G:Prop}(nd:([a0,a1,a2,a3,a4,a5,a6,a7]:List Addr).Nodup)(h:¬ a0=a1→¬ a0=a2→¬ a0=a3→¬ a0=a4→¬ a0=a5→¬ a0=a6→¬ a0=a7→¬ a1=a2→¬ a1=a3→¬ a1=a4→¬ a1=a5→¬ a1=a6→¬ a1=a7→¬ a2=a3→¬ a2=a4→¬ a2=a5→¬ a2=a6→¬ a2=a7→¬ a3=a4→¬ a3=a5→¬ a3=a6→¬ a3=a7→¬ a4=a5→¬ a4=a6→¬ a4=a7→¬ a5=a6→¬ a5=a7→¬ a6=a7→G):G :=
 h (nn1 (Af nd)) (nn1 (nn2 (Af nd))) (nn1 (nn2 (nn2 (Af nd)))) (nn1 (nn2 (nn2 (nn2 (Af nd))))) (nn1 (nn2 (nn2 (nn2 (nn2 (Af nd)))))) (nn1 (nn2 (nn2 (nn2 (nn2 (nn2 (Af nd))))))) (nn1 (nn2 (nn2 (nn2 (nn2 (nn2 (nn2 (Af nd)))))))) (nn1 (Af (Ac nd))) (nn1 (nn2 (Af (Ac nd)))) (nn1 (nn2 (nn2 (Af (Ac nd))))) (nn1 (nn2 (nn2 (nn2 (Af (Ac nd)))))) (nn1 (nn2 (nn2 (nn2 (nn2 (Af (Ac nd))))))) (nn1 (nn2 (nn2 (nn2 (nn2 (nn2 (Af (Ac nd)))))))) (nn1 (Af (Ac (Ac nd)))) (nn1 (nn2 (Af (Ac (Ac nd))))) (nn1 (nn2 (nn2 (Af (Ac (Ac nd)))))) (nn1 (nn2 (nn2 (nn2 (Af (Ac (Ac nd))))))) (nn1 (nn2 (nn2 (nn2 (nn2 (Af (Ac (Ac nd)))))))) (nn1 (Af (Ac (Ac (Ac nd))))) (nn1 (nn2 (Af (Ac (Ac (Ac nd)))))) (nn1 (nn2 (nn2 (Af (Ac (Ac (Ac nd))))))) (nn1 (nn2 (nn2 (nn2 (Af (Ac (Ac (Ac nd)))))))) (nn1 (Af (Ac (Ac (Ac (Ac nd)))))) (nn1 (nn2 (Af (Ac (Ac (Ac (Ac nd))))))) (nn1 (nn2 (nn2 (Af (Ac (Ac (Ac (Ac nd)))))))) (nn1 (Af (Ac (Ac (Ac (Ac (Ac nd))))))) (nn1 (nn2 (Af (Ac (Ac (Ac (Ac (Ac nd)))))))) (nn1 (Af (Ac (Ac (Ac (Ac (Ac (Ac nd))))))))
theorem ndk10{a0 a1 a2 a3 a4 a5 a6 a7 a8 a9:Addr}{G:Prop}(nd:([a0,a1,a2,a3,a4,a5,a6,a7,a8,a9]:List Addr).Nodup)(h:¬ a0=a1→¬ a0=a2→¬ a0=a3→¬ a0=a4→¬ a0=a5→¬ a0=a6→¬ a0=a7→¬ a0=a8→¬ a0=a9→¬ a1=a2→¬ a1=a3→¬ a1=a4→¬ a1=a5→¬ a1=a6→¬ a1=a7→¬ a1=a8→¬ a1=a9→¬ a2=a3→¬ a2=a4→¬ a2=a5→¬ a2=a6→¬ a2=a7→¬ a2=a8→¬ a2=a9→¬ a3=a4→¬ a3=a5→¬ a3=a6→¬ a3=a7→¬ a3=a8→¬ a3=a9→¬ a4=a5→¬ a4=a6→¬ a4=a7→¬ a4=a8→¬ a4=a9→¬ a5=a6→¬ a5=a7→¬ a5=a8→¬ a5=a9→¬ a6=a7→¬ a6=a8→¬ a6=a9→¬ a7=a8→¬ a7=a9→¬ a8=a9→G):G :=
 h (nn1 (Af nd)) (nn1 (nn2 (Af nd))) (nn1 (nn2 (nn2 (Af nd)))) (nn1 (nn2 (nn2 (nn2 (Af nd))))) (nn1 (nn2 (nn2 (nn2 (nn2 (Af nd)))))) (nn1 (nn2 (nn2 (nn2 (nn2 (nn2 (Af nd))))))) (nn1 (nn2 (nn2 (nn2 (nn2 (nn2 (nn2 (Af nd)))))))) (nn1 (nn2 (nn2 (nn2 (nn2 (nn2 (nn2 (nn2 (Af nd))))))))) (nn1 (nn2 (nn2 (nn2 (nn2 (nn2 (nn2 (nn2 (nn2 (Af nd)))))))))) (nn1 (Af (Ac nd))) (nn1 (nn2 (Af (Ac nd)))) (nn1 (nn2 (nn2 (Af (Ac nd))))) (nn1 (nn2 (nn2 (nn2 (Af (Ac nd)))))) (nn1 (nn2 (nn2 (nn2 (nn2 (Af (Ac nd))))))) (nn1 (nn2 (nn2 (nn2 (nn2 (nn2 (Af (Ac nd)))))))) (nn1 (nn2 (nn2 (nn2 (nn2 (nn2 (nn2 (Af (Ac nd))))))))) (nn1 (nn2 (nn2 (nn2 (nn2 (nn2 (nn2 (nn2 (Af (Ac nd)))))))))) (nn1 (Af (Ac (Ac nd)))) (nn1 (nn2 (Af (Ac (Ac nd))))) (nn1 (nn2 (nn2 (Af (Ac (Ac nd)))))) (nn1 (nn2 (nn2 (nn2 (Af (Ac (Ac nd))))))) (nn1 (nn2 (nn2 (nn2 (nn2 (Af (Ac (Ac nd)))))))) (nn1 (nn2 (nn2 (nn2 (nn2 (nn2 (Af (Ac (Ac nd))))))))) (nn1 (nn2 (nn2 (nn2 (nn2 (nn2 (nn2 (Af (Ac (Ac nd)))))))))) (nn1 (Af (Ac (Ac (Ac nd))))) (nn1 (nn2 (Af (Ac (Ac (Ac nd)))))) (nn1 (nn2 (nn2 (Af (Ac (Ac (Ac nd))))))) (nn1 (nn2 (nn2 (nn2 (Af (Ac (Ac (Ac nd)))))))) (nn1 (nn2 (nn2 (nn2 (nn2 (Af (Ac (Ac (Ac nd))))))))) (nn1 (nn2 (nn2 (nn2 (nn2 (nn2 (Af (Ac (Ac (Ac nd)))))))))) (nn1 (Af (Ac (Ac (Ac (Ac nd)))))) (nn1 (nn2 (Af (Ac (Ac (Ac (Ac nd))))))) (nn1 (nn2 (nn2 (Af (Ac (Ac (Ac (Ac nd)))))))) (nn1 (nn2 (nn2 (nn2 (Af (Ac (Ac (Ac (Ac nd))))))))) (nn1 (nn2 (nn2 (nn2 (nn2 (Af (Ac (Ac (Ac (Ac nd)))))))))) (nn1 (Af (Ac (Ac (Ac (Ac (Ac nd))))))) (nn1 (nn2 (Af (Ac (Ac (Ac (Ac (Ac nd)))))))) (nn1 (nn2 (nn2 (Af (Ac (Ac (Ac (Ac (Ac nd))))))))) (nn1 (nn2 (nn2 (nn2 (Af (Ac (Ac (Ac (Ac (Ac nd)))))))))) (nn1 (Af (Ac (Ac (Ac (Ac (Ac (Ac nd)))))))) (nn1 (nn2 (Af (Ac (Ac (Ac (Ac (Ac (Ac nd))))))))) (nn1 (nn2 (nn2 (Af (Ac (Ac (Ac (Ac (Ac (Ac nd)))))))))) (nn1 (Af (Ac (Ac (Ac (Ac (Ac (Ac (Ac nd))))))))) (nn1 (nn2 (Af (Ac (Ac (Ac (Ac (Ac (Ac (Ac nd)))))))))) (nn1 (Af (Ac (Ac (Ac (Ac (Ac (Ac (Ac (Ac nd))))))))))
theorem Rq{a b c d e:Addr}{l:List Addr}(nd:(a::b::c::d::e::l).Nodup):([a,b,c,d,e]:List Addr).Nodup:=(List.nodup_append.mp (show ([a,b,c,d,e]++l).Nodup from nd)).1
theorem Ab{a b:Addr}{l:List Addr}(h:a≠b)(t:a∉l):a∉b::l:=fun z=>by
 cases z with
 | head=>exact h rfl
 | tail _ z=>exact t z
theorem An{a:Addr}:a∉([]:List Addr):=fun z=>nomatch z
theorem ndm7{a0 a1 a2 a3 a4 a5 a6:Addr}(n0_1:¬ a0=a1)(n0_2:¬ a0=a2)(n0_3:¬ a0=a3)(n0_4:¬ a0=a4)(n0_5:¬ a0=a5)(n0_6:¬ a0=a6)(n1_2:¬ a1=a2)(n1_3:¬ a1=a3)(n1_4:¬ a1=a4)(n1_5:¬ a1=a5)(n1_6:¬ a1=a6)(n2_3:¬ a2=a3)(n2_4:¬ a2=a4)(n2_5:¬ a2=a5)(n2_6:¬ a2=a6)(n3_4:¬ a3=a4)(n3_5:¬ a3=a5)(n3_6:¬ a3=a6)(n4_5:¬ a4=a5)(n4_6:¬ a4=a6)(n5_6:¬ a5=a6):([a0,a1,a2,a3,a4,a5,a6]:List Addr).Nodup :=
 (List.nodup_cons.mpr ⟨(Ab n0_1 (Ab n0_2 (Ab n0_3 (Ab n0_4 (Ab n0_5 (Ab n0_6 An)))))),(List.nodup_cons.mpr ⟨(Ab n1_2 (Ab n1_3 (Ab n1_4 (Ab n1_5 (Ab n1_6 An))))),(List.nodup_cons.mpr ⟨(Ab n2_3 (Ab n2_4 (Ab n2_5 (Ab n2_6 An)))),(List.nodup_cons.mpr ⟨(Ab n3_4 (Ab n3_5 (Ab n3_6 An))),(List.nodup_cons.mpr ⟨(Ab n4_5 (Ab n4_6 An)),(List.nodup_cons.mpr ⟨(Ab n5_6 An),(List.nodup_cons.mpr ⟨An,List.nodup_nil⟩)⟩)⟩)⟩)⟩)⟩)⟩)
theorem By{a b:Addr}{l:List Addr}(h:a∉l)(m:b∈l):a≠b:=fun e=>h (e ▸ m)
theorem Mm{a:Addr}{own tabs:List (Addr × Obj)}(h:∀ q∈own,q.1≠a)(h2:∀ q∈tabs,q.1≠a):a∉(own++tabs).map (·.1):=fun z=>by
 obtain⟨r,hr,e⟩:=List.mem_map.mp z
 rcases List.mem_append.mp hr with q | q
 ·exact h r q e
 ·exact h2 r q e
theorem ne_sz{ds:List (Str × Tok)}(h:¬ ds=[]):(!(strValues ds).toArray.isEmpty)=true:=by
 cases ds with
 | nil=>exact absurd rfl h
 | cons=>rfl
theorem Je{d a:Addr}{o:Obj}{news:List (Addr × Obj)}(l:∀ p∈news,p.1<d)(h:(a,o)∈news):a≠d:=Nat.ne_of_lt (l _ h)
theorem Jd{d a:Addr}{o:Obj}{news:List (Addr × Obj)}(l:∀ p∈news,p.1<d)(h:(a,o)∈news):d≠a:=Nat.ne_of_gt (l _ h)
theorem exi{α:Type}{R:α→Prop}{G:Prop}(h:∀ a,R a→G):(∃ a,R a)→G:=fun e=>e.elim h
theorem Hm{α0 α1:Type}{R:α0→α1→Prop}{G:Prop}(h:∀ a0 a1,R a0 a1→G):(∃ a0 a1,R a0 a1)→G:=exi fun a=>exi (h a)
theorem Nd{α0 α1 α2:Type}{R:α0→α1→α2→Prop}{G:Prop}(h:∀ a0 a1 a2,R a0 a1 a2→G):(∃ a0 a1 a2,R a0 a1 a2)→G:=exi fun a=>Hm (h a)
theorem exi4{α0 α1 α2 α3:Type}{R:α0→α1→α2→α3→Prop}{G:Prop}(h:∀ a0 a1 a2 a3,R a0 a1 a2 a3→G):(∃ a0 a1 a2 a3,R a0 a1 a2 a3)→G:=exi fun a=>Nd (h a)
theorem exi5{α0 α1 α2 α3 α4:Type}{R:α0→α1→α2→α3→α4→Prop}{G:Prop}(h:∀ a0 a1 a2 a3 a4,R a0 a1 a2 a3 a4→G):(∃ a0 a1 a2 a3 a4,R a0 a1 a2 a3 a4)→G:=exi fun a=>exi4 (h a)
theorem exi6{α0 α1 α2 α3 α4 α5:Type}{R:α0→α1→α2→α3→α4→α5→Prop}{G:Prop}(h:∀ a0 a1 a2 a3 a4 a5,R a0 a1 a2 a3 a4 a5→G):(∃ a0 a1 a2 a3 a4 a5,R a0 a1 a2 a3 a4 a5)→G:=exi fun a=>exi5 (h a)
theorem exi7{α0 α1 α2 α3 α4 α5 α6:Type}{R:α0→α1→α2→α3→α4→α5→α6→Prop}{G:Prop}(h:∀ a0 a1 a2 a3 a4 a5 a6,R a0 a1 a2 a3 a4 a5 a6→G):(∃ a0 a1 a2 a3 a4 a5 a6,R a0 a1 a2 a3 a4 a5 a6)→G:=exi fun a=>exi6 (h a)
theorem exi8{α0 α1 α2 α3 α4 α5 α6 α7:Type}{R:α0→α1→α2→α3→α4→α5→α6→α7→Prop}{G:Prop}(h:∀ a0 a1 a2 a3 a4 a5 a6 a7,R a0 a1 a2 a3 a4 a5 a6 a7→G):(∃ a0 a1 a2 a3 a4 a5 a6 a7,R a0 a1 a2 a3 a4 a5 a6 a7)→G:=exi fun a=>exi7 (h a)
theorem exs1{σ α0:Type}{R:σ→α0→Prop}{G:σ→Prop}(h:∀ s a0,R s a0→G s):∀ s,(∃ a0,R s a0)→G s:=fun s=>exi (h s)
theorem exs2{σ α0 α1:Type}{R:σ→α0→α1→Prop}{G:σ→Prop}(h:∀ s a0 a1,R s a0 a1→G s):∀ s,(∃ a0 a1,R s a0 a1)→G s:=fun s=>Hm (h s)
theorem exs3{σ α0 α1 α2:Type}{R:σ→α0→α1→α2→Prop}{G:σ→Prop}(h:∀ s a0 a1 a2,R s a0 a1 a2→G s):∀ s,(∃ a0 a1 a2,R s a0 a1 a2)→G s:=fun s=>Nd (h s)
theorem exs4{σ α0 α1 α2 α3:Type}{R:σ→α0→α1→α2→α3→Prop}{G:σ→Prop}(h:∀ s a0 a1 a2 a3,R s a0 a1 a2 a3→G s):∀ s,(∃ a0 a1 a2 a3,R s a0 a1 a2 a3)→G s:=fun s=>exi4 (h s)
theorem exs8{σ α0 α1 α2 α3 α4 α5 α6 α7:Type}{R:σ→α0→α1→α2→α3→α4→α5→α6→α7→Prop}{G:σ→Prop}(h:∀ s a0 a1 a2 a3 a4 a5 a6 a7,R s a0 a1 a2 a3 a4 a5 a6 a7→G s):∀ s,(∃ a0 a1 a2 a3 a4 a5 a6 a7,R s a0 a1 a2 a3 a4 a5 a6 a7)→G s:=fun s=>exi8 (h s)
theorem Bz{M:Model}{A:Around}{m:Sem Flow}{R:Shared→Prop}{Q:Flow→Shared→Prop}{E:Value→Shared→Prop}{s:Shared}
  (h1:wpAny M A m (fun f s'=>f=.next∧R s') E s) (h2:∀ s',R s'→Q .next s'):wpAny M A m Q E s :=
 wpAny_mono h1 (fun _ _ ⟨e,r⟩=>e ▸ h2 _ r) fun _ _ z=>z
theorem Er{x:Str}{K:Nat}(h:x.length≤K)(hs:Nat.ble K 16777216=true):x.length≤sizeLine:=Nat.le_trans h (Nat.le_trans (Nat.le_of_ble_eq_true hs) (by rw [sizeLine_eq];exact Nat.le_refl _))
theorem Et:Str.empty.length≤0:=Nat.le_refl _
end Mine
namespace Mine
open PySem.Calls
theorem Dt{M:Model}{A:Around}{α:Type}{m:Sem α}{Q:α→Shared→Prop}{E:Value→Shared→Prop}{s:Shared}
  (h:∀ (Q':α→Shared→Prop) (E':Value→Shared→Prop),(∀ v s,Q v s→Q' v s)→(∀ e s,E e s→E' e s)→wpAny M A m Q' E' s):wpAny M A m Q E s :=
 h Q E (fun _ _ z=>z) (fun _ _ z=>z)
end Mine
namespace Mine
open PySem.Calls
section
variable{M:Model}{A:Around}{R:GenEnd}{Y:Protocol}{n:Nat}{s₀:Shared}{c:Code}{fs:List Frame}{s:Shared}{env:Env}
 {K:Flow→Sem Fin} {H:Value→Sem Fin} {gd:Bool→Bool} {lv:List Value→List Value}
theorem Ao{α β:Type}{m:Sem α}{f:α→Sem β}{K:β→Sem Fin}
  (h:wpAny M (A.over c fs) m (fun a s'=>Seg M A R Y n s₀ c ((f a).wrap K H gd lv) fs s') (fun _ _=>False) s) :
  Seg M A R Y n s₀ c ((m >>= f).wrap K H gd lv) fs s:=by
 rw [Sem.bind_eq_wrap',Sem.wrap_wrap]
 exact seg_wrap (wpAny_mono h (fun _ _ x=>x) fun _ _ x=>x.elim)
theorem Ay{α:Type}{m:Sem α}{f:α→Sem Fin}
  (h:wpAny M (A.over c fs) m (fun a s'=>Seg M A R Y n s₀ c (f a) fs s') (fun _ _=>False) s) :
  Seg M A R Y n s₀ c (m >>= f) fs s:=seg_bind (wpAny_mono h (fun _ _ x=>x) fun _ _ x=>x.elim)
theorem seg_If{test:Expr}{body orelse:List Stmt}{pos:Pos}
  (h:wpAny M (A.over c fs) (isTrue test env (eval test env)) (fun b s'=>if b=true then Seg M A R Y n s₀ c ((execs body env).wrap K H gd lv) fs s' else Seg M A R Y n s₀ c ((execs orelse env).wrap K H gd lv) fs s') (fun _ _=>False) s) :
  Seg M A R Y n s₀ c ((exec (.If test body orelse pos) env).wrap K H gd lv) fs s:=by
 show Seg M A R Y n s₀ c ((standAt pos >>= fun _=>isTrue test env (eval test env) >>= fun b=>if b=true then execs body env else execs orelse env).wrap K H gd lv) fs s
 refine Ao (wpAny_standAt (Ao (wpAny_mono h (fun b s' hb=>?_) fun _ _ x=>x)))
 cases b with
 | true=>rw [if_pos rfl] at hb ⊢;exact hb
 | false=>rw [if_neg Bool.false_ne_true] at hb ⊢;exact hb
theorem Lp{e:Expr}{ypos pos:Pos}(hi:interactive env=false)
  (h:wpAny M (A.over c fs) (eval e env) (fun v s₁=>wpAny M (A.over c fs) (typeOf v) (fun t s₂=>(t == .type "coroutine")=false∧wpAny M (A.over c fs) (pyIter v) (fun it s₃ =>
    ∀ k p,(k (.ok (.ret .none))=K .next)→Seg M A R Y n s₀ (.builtin "proto.yield_from" ⟨[it,.bool false,.none],[]⟩) (M.den (.builtin "proto.yield_from" ⟨[it,.bool false,.none],[]⟩))
     (.ret k none (gd false) (lv []) c p []::fs) s₃) (fun _ _=>False) s₂) (fun _ _=>False) s₁) (fun _ _=>False) s) :
  Seg M A R Y n s₀ c ((exec (.Expr (.YieldFrom e ypos) pos) env).wrap K H gd lv) fs s:=by
 rw [exec_Expr env _ pos hi rfl]
 show Seg M A R Y n s₀ c ((standAt pos >>= fun _=>(eval e env >>= fun v=>(standAt ypos >>= fun _=>yieldFrom env v)) >>= fun x =>
  dropValue (.YieldFrom e ypos) pos x).wrap K H gd lv) fs s
 refine Ao (wpAny_standAt ?_);rw [Sem.bind_eq_wrap',Sem.wrap_wrap]
 refine Ao (wpAny_mono h (fun v s₁ h₁=>?_) fun _ _ x=>x)
 refine Ao (wpAny_standAt ?_);unfold yieldFrom
 refine Ao (wpAny_mono h₁ (fun t s₂ h₂=>?_) fun _ _ x=>x)
 rw [h₂.1,if_neg Bool.false_ne_true]
 refine Ao (wpAny_holding (wpAny_mono h₂.2 (fun it s₃ h₃=>?_) fun _ _ x=>x))
 refine seg_call fun p=>h₃ _ p ?_
 rfl
theorem seg_For{target iter:Expr}{body orelse:List Stmt}{pos:Pos}(hfold:∀ x,foldedSetIterable iter env x=pure x)
  (h:wpAny M (A.over c fs) (eval iter env) (fun x s₁=>wpAny M (A.over c fs) (pyIter x) (fun it s₂ =>
    ∀ k p,(k (.ok .next)=K .next)→Seg M A R Y n s₀ (.forLoop target it body orelse env) (M.den (.forLoop target it body orelse env))
     (.ret k none (gd false) (lv []) c p []::fs) s₂) (fun _ _=>False) s₁) (fun _ _=>False) s) :
  Seg M A R Y n s₀ c ((exec (.For target iter body orelse pos) env).wrap K H gd lv) fs s:=by
 show Seg M A R Y n s₀ c ((standAt pos >>= fun _=>eval iter env >>= fun y=>foldedSetIterable iter env y >>= fun x=>standAt iter.pos >>= fun _=>holding [x] (pyIter x) >>= fun it=>runOwn (.forLoop target it body orelse env) env).wrap K H gd lv) fs s
 refine Ao (wpAny_standAt (Ao (wpAny_mono h (fun x s₁ h₁=>?_) fun _ _ x=>x)))
 rw [hfold]
 refine Ao (Wp (Ao (wpAny_standAt (Ao (wpAny_holding (wpAny_mono h₁ (fun it s₂ h₂=>?_) fun _ _ x=>x))))))
 exact seg_call fun p=>h₂ _ p rfl
end
section
variable{prog:Program}{w:World}{A:Around}{R:GenEnd}{Y:Protocol}{n:Nat}{s₀:Shared}{fs:List Frame}{s:Shared}{env:Env}
theorem Iq{x:Str}{px:Pos}{it:Value}{body:List Stmt}
  (h:wpAny (model prog w) (A.over (.forLoop (.Name x px) it body [] env) fs) (pyNext it) (fun r s₁=>match r with
   | none=>∀ c',Seg (model prog w) A R Y n s₀ c' (leafOf (.ok .next)) fs s₁
   | some v=>wpAny (model prog w) (A.over (.forLoop (.Name x px) it body [] env) fs) (assign (.Name x px) env v) (fun _ s₂=>∀ K' H',(K' Flow.next=.pure (.again (.forLoop (.Name x px) it body [] env))) →
     Seg (model prog w) A R Y n s₀ (.forLoop (.Name x px) it body [] env) ((execs body env).wrap K' H' id id) fs s₂) (fun _ _=>False) s₁) (fun _ _=>False) s) :
  Seg (model prog w) A R Y n s₀ (.forLoop (.Name x px) it body [] env) ((model prog w).den (.forLoop (.Name x px) it body [] env)) fs s:=by
 show Seg _ A R Y n s₀ _ ((forTurn (.Name x px) it body [] env).onRaise (fun x=>do noteFrame x env;theTreesLotGoes x)) fs s
 unfold forTurn;rw [Sem.onRaise_eq_wrap]
 refine Ao (wpAny_standAt (Ao (wpAny_onRaise (wpAny_mono h (fun r s₁ h₁=>?_) fun _ _ z=>z.elim))))
 cases r with
 | none =>
  dsimp only at h₁ ⊢;refine seg_again rfl ?_;exact h₁ _
 | some v =>
  dsimp only at h₁ ⊢
  refine Ao (Wp (Ao (wpAny_mono h₁ (fun _ s₂ h₂=>?_) fun _ _ z=>z)))
  rw [Sem.bind_eq_wrap',Sem.wrap_wrap];exact h₂ _ _ rfl
end
end Mine
namespace Mine
open PySem.Calls
theorem Vk:entryFor table "proto.yield_from"=some Builtin.«proto.yield_from»:=entryFor_of_tree (by kernel_rfl)
theorem Vd{prog:Program}{w:World}{id:String}{b:Builtin}(h:entryFor table id=some b)(args:Args):(model prog w).den (.builtin id args)=b args:=by
 show (match entryFor table id with | some b=>b args | none=>unsupported ((withoutEnding? id "#data").getD id))=_
 rw [h]
theorem Ve{prog:Program}{w:World}(args:Args):(model prog w).den (.builtin "proto.yield_from" args)=Builtin.«proto.yield_from» args:=Vd Vk args
theorem Ro:typeLookup (.type "list_iterator") "close"=pure none:=by rw [typeLookup_type,builtinLookup_eq_fast];kernel_rfl
theorem Qf{M:Model}{A:Around}{E:Value→Shared→Prop}{s:Shared}{it:Addr}{o:Obj}{b:Bool}{Q:Unit→Shared→Prop}(ho:s.heap.get? it=some o)(hc:o.cls=.type "list_iterator")(h:Q () s):wpAny M A (Builtin.Generator.sleptOver (.ref it) b) Q E s:=by
 unfold Builtin.Generator.sleptOver;refine Wb (wpAny_load ho ?_);rw [hc];exact Wp h
section
variable{prog:Program}{w:World}{A:Around}{R:GenEnd}{Y:Protocol}{n:Nat}{s₀:Shared}{fs:List Frame}{s:Shared}
theorem Qc{it l:Addr}{i:Nat}{items:Array Value}{x:Value}(hfs:splitAtGen fs=none)(hfg:fs.any Frame.guarded=false)
  (hit:s.heap.IsListIter it l i) (hl:s.heap.IsList l items) (hx:items[i]?=some x)
  (h:∀ h',h'.IsListIter it l (i+1)→Heap.SameBut it s.heap h'→∀ kap:Resume→Shared→Prop,
   (∀ s'':Shared,(∃ o,s''.heap.get? it=some o∧o.cls=.type "list_iterator") →
    Seg (model prog w) A R Y n s'' (.builtin "proto.yield_from" ⟨[.ref it,.bool false,.none],[]⟩) ((model prog w).den (.builtin "proto.yield_from" ⟨[.ref it,.bool false,.none],[]⟩)) fs s''→kap (.send .none) s'') →
   Y n s₀ x { s with heap:=h' } kap) :
  Seg (model prog w) A R Y (n+1) s₀ (.builtin "proto.yield_from" ⟨[.ref it,.bool false,.none],[]⟩) ((model prog w).den (.builtin "proto.yield_from" ⟨[.ref it,.bool false,.none],[]⟩)) fs s:=by
 rw [Ve];obtain⟨o,ho,hc,hd⟩:=id hit;obtain⟨ol,hol,_,nl,hdl⟩:=hl;unfold Builtin.«proto.yield_from»;refine Ay (Wp (a:=Value.none) ?_);refine Ay (wpAny_attempt (wpAny_holding ?_));rw [if_neg Bool.false_ne_true,if_pos (show (Value.none == Value.none)=true from rfl)]
 refine Wb (wpAny_rule (Wb (wpAny_callSpecial?_slot (name:=Str.ofString "__next__") hit.typeIs slot_listiter_next
  (wpAny_call_entry slot_listiter_next hit.typeIs entry_listiter_next ?_ (args_listiter_next _)))))
 show wpAny _ _ (field (.ref it) 0 >>= _) _ _ s
 refine Wb (wpAny_field ho hd (x:=.ref l) rfl ?_)
 show wpAny _ _ (if (Value.ref l == Value.none)=true then _ else _) _ _ s
 rw [if_neg (show ¬ ((Value.ref l == Value.none)=true) from Bool.false_ne_true)]
 show wpAny _ _ (field (.ref it) 1 >>= _) _ _ s
 refine Wb (wpAny_field ho hd (x:=.int i 0) rfl ?_)
 show wpAny _ _ (seqItems? (.ref l) >>= _) _ _ s
 refine Wb (wpAny_seqItems hol hdl ?_)
 simp only [Int.toNat_natCast,hx]
 have I':(s.heap.update it (Obj.mapFields fun x=>x.setIfInBounds 1 (rawInt ((i:Int)+1)))).IsListIter it l (i+1) :=
  ⟨_,Heap.get?_update_self _ ho (Obj.isFreed_of_fields (Obj.data_mapFields hd _)),(Obj.cls_mapFields ..).trans hc,by rw [Obj.data_mapFields hd];simp [rawInt]⟩
 refine Wb (wpAny_setField ho hd (by simp) (Wp ⟨x,rfl,Wp ?_⟩))
 obtain⟨o',ho',hc',hd'⟩:=id I';refine Ay ?_;refine wpAny_typeOf (T:="list_iterator") ⟨o',ho',hc'⟩ ?_;dsimp only;rw [Ro];refine Ay (Wp (Ay (Wp ?_)));refine Ay (Qf ho' hc' ?_);refine seg_yield hfs rfl hfg ?_
 refine h _ I' (Heap.SameBut.update ..) _ fun s'' hs'' hseg=>?_
 obtain⟨o2,ho2,hc2⟩:=hs'';refine Ay (Wp (Ay (Qf ho2 hc2 ?_)));dsimp only;refine Ay (Wp (a:=Value.none) ?_)
 exact seg_again (Code.quiet_builtin _ (by decide +kernel)) hseg
theorem Rz{it l:Addr}{i:Nat}{items:Array Value}(hh:(A.over (.builtin "proto.yield_from" ⟨[.ref it,.bool false,.none],[]⟩) fs).handled=none)
  (hit:s.heap.IsListIter it l i) (hl:s.heap.IsList l items) (hx:items[i]?=none)
  (h:∀ h' c',Heap.ExtBut it s.heap h'→s.heap.objs.size≤h'.objs.size→Seg (model prog w) A R Y n s₀ c' (leafOf (.ok (.ret .none))) fs { s with heap:=h' }) :
  Seg (model prog w) A R Y n s₀ (.builtin "proto.yield_from" ⟨[.ref it,.bool false,.none],[]⟩) ((model prog w).den (.builtin "proto.yield_from" ⟨[.ref it,.bool false,.none],[]⟩)) fs s:=by
 rw [Ve];obtain⟨o,ho,hc,hd⟩:=id hit;obtain⟨ol,hol,_,nl,hdl⟩:=hl;unfold Builtin.«proto.yield_from»;refine Ay (Wp (a:=Value.none) ?_);refine Ay (wpAny_attempt (wpAny_holding ?_));rw [if_neg Bool.false_ne_true,if_pos (show (Value.none == Value.none)=true from rfl)]
 refine Wb (wpAny_rule (Wb (wpAny_callSpecial?_slot (name:=Str.ofString "__next__") hit.typeIs slot_listiter_next
  (wpAny_call_entry slot_listiter_next hit.typeIs entry_listiter_next ?_ (args_listiter_next _)))))
 show wpAny _ _ (field (.ref it) 0 >>= _) _ _ s
 refine Wb (wpAny_field ho hd (x:=.ref l) rfl ?_)
 show wpAny _ _ (if (Value.ref l == Value.none)=true then _ else _) _ _ s
 rw [if_neg (show ¬ ((Value.ref l == Value.none)=true) from Bool.false_ne_true)]
 show wpAny _ _ (field (.ref it) 1 >>= _) _ _ s
 refine Wb (wpAny_field ho hd (x:=.int i 0) rfl ?_)
 show wpAny _ _ (seqItems? (.ref l) >>= _) _ _ s
 refine Wb (wpAny_seqItems hol hdl ?_)
 simp only [Int.toNat_natCast,hx]
 refine Wb (wpAny_rule (Wb (wpAny_setField ho hd (by simp) ?_)))
 show wpAny _ _ (newExc (.type "StopIteration") [] >>= _) _ _ _
 refine Wb ?_
 simp only [newExc,newTuple]
 refine Wb (wpAny_newObj_type ?_ (by size_fits))
 refine Wb (m:=firstArgMember _ _) (wpAny_of_eq (a:=Value.none) (by first | rfl | (simp only [firstArgMember];rfl)) ?_)
 refine wpAny_newObj_type ?_ (by size_fits)
 unfold raiseNew;dsimp only;refine Wb (wpAny_handled ?_);rw [Around.in1_handled,hh];refine Wb (Wp (wpAny_throw ?_))
 have he:=Heap.get?_push_size ((s.heap.update it (Obj.mapFields fun x=>x.setIfInBounds 0 Value.none)).push { cls:=Value.type "tuple",data:=Data.seq #[] }) (o:={ cls:=Value.type "StopIteration",data:=Data.fields (#[Value.ref (s.heap.update it (Obj.mapFields fun x=>x.setIfInBounds 0 Value.none)).objs.size,Value.none,Value.none,Value.none,Value.bool false,Value.none]++ownMembersOf (Value.type "StopIteration") []) }) rfl
 refine Ay ?_;unfold Builtin.Generator.endsTheTurnAsAValue Builtin.Generator.isStopAndMetaclass;refine Wb (Wb (wpAny_typeOf (T:="StopIteration") ⟨_,he,rfl⟩ ?_));dsimp only;rw [isSubtype_stop];refine Wb (Wp (Wb (Wp (Wp ?_))));refine Wp ?_;dsimp only;refine Ay (wpAny_rule ?_);refine Ay (wpAny_field he rfl (x:=.none) rfl ?_)
 exact h _ _ (((Heap.SameBut.update ..).extBut.push _).push _) (by rw [Heap.size_push,Heap.size_push,(Heap.SameBut.update ..).1];exact(Nl fun hn1=>fk [_] (.e (.a (.a (.s V0) K1) K1) V0 K0) rfl hn1))
end
end Mine
namespace Mine
open PySem.Calls
noncomputable def Fg(o:Obj):Bool:=o.cls == .type "list_iterator" || o.cls == .type "list_reverseiterator"
def Dv(B:Addr)(h h':Heap):Prop:=∀ b o,h.get? b=some o→(b<B∨(b≠B∧Fg o=false))→h'.get? b=some o
theorem Dv.refl(B:Addr)(h:Heap):Dv B h h:=fun _ _ e _=>e
theorem Dv.trans{B:Addr}{h h' h'':Heap}(x:Dv B h h')(y:Dv B h' h''):Dv B h h'':=fun b o e c=>y b o (x b o e c) c
structure Rel (B:Addr) (s s':Shared):Prop where
 heap:Dv B s.heap s'.heap
 os:s'.os=s.os
 gens:s'.gens=s.gens
theorem Rel.refl(B:Addr)(s:Shared):Rel B s s:=⟨Dv.refl _ _,rfl,rfl⟩
theorem Rel.trans{B:Addr}{s s' s'':Shared}(x:Rel B s s')(y:Rel B s' s''):Rel B s s'':=⟨x.heap.trans y.heap,y.os.trans x.os,y.gens.trans x.gens⟩
def Priv(B:Addr)(priv:List (Addr × Obj)):Prop:=∀ p∈priv,B≤p.1∧(p.1=B∨Fg p.2=true)
noncomputable def Bu(B stk:Addr)(lvs:List (Addr × Array Value))(h:Heap):Prop :=
 stk≠B∧h.IsList stk (lvs.map fun p=>.ref p.1).toArray∧∀ p∈lvs,p.1≠B∧h.IsList p.1 p.2∧(p.2.size:Int)<2 ^ 63
theorem Bu.same{B stk:Addr}{lvs:List (Addr × Array Value)}{h h':Heap}(x:Bu B stk lvs h)(y:Dv B h h'):Bu B stk lvs h':=by
 have one:∀ a its,a≠B→h.IsList a its→h'.IsList a its:=fun a its ha ⟨o,ho,hc,hd⟩=>⟨o,y a o ho (.inr ⟨ha,by unfold Fg;rw [hc];rfl⟩),hc,hd⟩
 exact⟨x.1,one _ _ x.1 x.2.1,fun p hp=>⟨(x.2.2 p hp).1,one _ _ (x.2.2 p hp).1 (x.2.2 p hp).2.1,(x.2.2 p hp).2.2⟩⟩
noncomputable def comes(lvs:List (Addr × Array Value)):List Value:=(lvs.reverse.map fun p=>p.2.toList).flatten
noncomputable def YP(B:Addr)(RO:Heap→Prop)(items:List Value):Protocol:=fun n s₀ v s' kap =>
 (∃ rest,rest.length=n∧(v::rest) <:+ items)∧Rel B s₀ s' ∧
 ∃ priv,Priv B priv∧(∀ p∈priv,s'.heap.get? p.1=some p.2)∧∀ s'':Shared,(∀ p∈priv,s''.heap.get? p.1=some p.2)→RO s''.heap→kap (.send .none) s''
noncomputable def RP(B:Addr):Nat→Shared→Shared→Prop:=fun n s₀ s'=>n=0∧Rel B s₀ s'
theorem Heap.Ns.at_{h h':Heap}{a:Addr}{m:Str→Option Value}{o:Obj}(x:h.Ns a m)(e:h.get? a=some o)(e':h'.get? a=some o):h'.Ns a m:=by
 obtain⟨o₁,es,ep,ho,r⟩:=x;rw [e] at ho;cases ho;exact⟨o,es,ep,e',r⟩
section
variable{prog:Program}{w:World}{A:Around}{s₀ s:Shared}{B stk Il l Ir:Addr}{lvs:List (Addr × Array Value)}{its:Array Value}{m:Str→Option Value}
theorem Uk{k:Result→Sem Fin}{lv:List Value}{c1:Code}{p1:Pos}{fs:List Frame}{below:List Value}{oB oR:Obj}{items:List Value}(hh:(A.over (.builtin "proto.yield_from" ⟨[.ref Il,.bool false,.none],[]⟩) (.ret k none false lv c1 p1 []::fs)).handled=none)
  (hfs:splitAtGen fs=none) (hfg:fs.any Frame.guarded=false) (hl:(l,its)∈lvs) (hIl:B<Il) (hIr:B<Ir) (hne:Ir≠Il) (hRi:Fg oR=true)
  (done:∀ s₀ s:Shared,Rel B s₀ s→Bu B stk lvs s.heap→s.heap.get? B=some oB→s.heap.get? Ir=some oR →
   Seg (model prog w) A (fun n s₀ r s₁=>r=.ok (.ret .none)∧RP B n s₀ s₁) (YP B (Bu B stk lvs) items) below.length s₀ c1 (k (.ok (.ret .none))) fs s) :
  ∀ (r:List Value) (j:Nat),its.toList.drop j=r→(r++below) <:+ items→∀ s₀ s:Shared,Rel B s₀ s→Bu B stk lvs s.heap→s.heap.get? B=some oB→s.heap.get? Ir=some oR→s.heap.IsListIter Il l j →
   Seg (model prog w) A (fun n s₀ r s₁=>r=.ok (.ret .none)∧RP B n s₀ s₁) (YP B (Bu B stk lvs) items) (r++below).length s₀ (.builtin "proto.yield_from" ⟨[.ref Il,.bool false,.none],[]⟩) ((model prog w).den (.builtin "proto.yield_from" ⟨[.ref Il,.bool false,.none],[]⟩)) (.ret k none false lv c1 p1 []::fs) s:=by
 intro r
 induction r with
 | nil =>
  intro j hj hsuf s₀ s hrel hst hB hR hit
  have hx:its[j]?=none:=by
   rw [← Array.getElem?_toList];exact List.getElem?_eq_none (List.drop_eq_nil_iff.mp hj)
  refine Rz hh hit (hst.2.2 _ hl).2.1 hx fun h' c' he _=>seg_leaf (.ok (.ret .none)) ?_
  have sm:Dv B s.heap h':=fun b o e c=>he b o (fun q=>by
   subst q;obtain⟨o',ho',hc',_⟩:=hit;rw [e] at ho';cases ho'
   rcases c with c | c
   ·exact absurd hIl (Nat.not_lt.mpr (Nat.le_of_lt c))
   ·have:=c.2;unfold Fg at this;rw [hc'] at this;cases this) e
  refine done _ _ (hrel.trans ⟨sm,rfl,rfl⟩) (hst.same sm) (he _ _ (Nat.ne_of_lt hIl) hB) (he _ _ hne hR)
 | cons v r ih =>
  intro j hj hsuf s₀ s hrel hst hB hR hit
  have hlt:j<its.toList.length:=by
   rcases Nat.lt_or_ge j its.toList.length with q | q
   ·exact q
   ·rw [List.drop_eq_nil_of_le q] at hj;cases hj
  have hcons:=List.drop_eq_getElem_cons hlt;rw [hj] at hcons
  have hx:its[j]?=some v:=by
   rw [← Array.getElem?_toList,List.getElem?_eq_getElem hlt];exact congrArg some (List.cons.inj hcons).1.symm
  have hr:=(List.cons.inj hcons).2.symm
  refine Qc (n:=(r++below).length) (by simp [splitAtGen,hfs]) (by simp [Frame.guarded,hfg]) hit (hst.2.2 _ hl).2.1 hx fun h' hit' hsb kap hkap=>?_
  have sm:Dv B s.heap h':=fun b o e c=>(hsb.2 b (fun q=>by
   subst q;obtain⟨o',ho',hc',_⟩:=hit;rw [e] at ho';cases ho'
   rcases c with c | c
   ·exact absurd hIl (Nat.not_lt.mpr (Nat.le_of_lt c))
   ·have:=c.2;unfold Fg at this;rw [hc'] at this;cases this)).trans e
  obtain⟨oI,hoI,hcI,hdI⟩:=hit'
  refine⟨⟨r++below,rfl,hsuf⟩,hrel.trans ⟨sm,rfl,rfl⟩,[(B,oB),(Ir,oR),(Il,oI)],?_,?_,fun s'' hp hRO=>hkap s'' ⟨oI,hp (Il,oI) (by k_mem),hcI⟩ ?_⟩
  ·intro p hp
   simp only [List.mem_cons,List.mem_nil_iff,or_false] at hp
   rcases hp with rfl | rfl | rfl
   ·exact⟨Nat.le_refl _,.inl rfl⟩
   ·exact⟨Nat.le_of_lt hIr,.inr hRi⟩
   ·exact⟨Nat.le_of_lt hIl,.inr (by unfold Fg;rw [hcI];rfl)⟩
  ·intro p hp
   simp only [List.mem_cons,List.mem_nil_iff,or_false] at hp
   rcases hp with rfl | rfl | rfl
   ·exact(hsb.2 _ (Nat.ne_of_lt hIl)).trans hB
   ·exact(hsb.2 _ hne).trans hR
   ·exact hoI
  ·exact ih (j+1) hr ((List.suffix_cons v (r++below)).trans hsuf) s'' s'' (Rel.refl _ _) hRO (hp (B,oB) (by k_mem)) (hp (Ir,oR) (by k_mem)) ⟨oI,hp (Il,oI) (by k_mem),hcI,hdI⟩
end
end Mine
namespace Mine
open PySem.Calls
theorem Ip{B I:Addr}{h h':Heap}(hI:B<I)(ho:∃ o,h.get? I=some o∧Fg o=true)(he:Heap.ExtBut I h h'):Dv B h h':=fun b o e c=>he b o (fun q=>by
 subst q;obtain⟨o',ho',hc'⟩:=ho;rw [e] at ho';cases ho'
 rcases c with c | c
 ·exact absurd hI (Nat.not_lt.mpr (Nat.le_of_lt c))
 ·rw [hc'] at c;cases c.2) e
theorem Jf{B:Addr}{h h':Heap}(he:Heap.SameBut B h h'):Dv B h h':=fun b o e c=>(he.2 b (fun q=>by
 subst q
 rcases c with c | c
 ·exact absurd c (Nat.lt_irrefl _)
 ·exact c.1 rfl)).trans e
theorem Fq{B:Addr}{h:Heap}(o:Obj):Dv B h (h.push o):=fun _ _ e _=>Heap.get?_push_of_some _ e
theorem Jb{lvs:List (Addr × Array Value)}{i:Nat}{p:Addr × Array Value}(h:lvs[i]?=some p):comes (lvs.take (i+1))=p.2.toList++comes (lvs.take i):=by
 unfold comes;rw [List.take_add_one,h]
 simp
section
variable{prog:Program}{w:World}{A:Around}{B stk Ir:Addr}{lvs:List (Addr × Array Value)}
theorem Ry{env:Env}{px p1 p2 p3 p4 p5:Pos}{k:Result→Sem Fin}{lv:List Value}{c0:Code}{p0:Pos}{items:List Value}
  (hB:env.locals=B) (hk:env.scope.kind=.function) (hl:env.kindOf "namespaces"=some .local) (hi:interactive env=false)
  (hp:(env.scope.kind == .class || (env.scope.kind == .module && env.locals != env.globals))=false)
  (hh:A.handled=none) (hIr:B<Ir)
  (done:∀ s₀ s:Shared,Rel B s₀ s→Seg (model prog w) A (fun n s₀ r s₁=>r=.ok (.ret .none)∧RP B n s₀ s₁) (YP B (Bu B stk lvs) items) 0 s₀ c0 (k (.ok .next)) [] s) :
  ∀ (i:Nat),i≤lvs.length→(comes (lvs.take i)) <:+ items→∀ (s₀ s:Shared) (m:Str→Option Value),Rel B s₀ s→Bu B stk lvs s.heap→s.heap.Ns B m→s.heap.IsRevIter Ir stk ((i:Int) - 1) →
   Seg (model prog w) A (fun n s₀ r s₁=>r=.ok (.ret .none)∧RP B n s₀ s₁) (YP B (Bu B stk lvs) items) (comes (lvs.take i)).length s₀
    (.forLoop (.Name "namespaces" px) (.ref Ir) [.If (.Name "namespaces" p1) [.Expr (.YieldFrom (.Name "namespaces" p2) p3) p4] [] p5] [] env)
    ((model prog w).den (.forLoop (.Name "namespaces" px) (.ref Ir) [.If (.Name "namespaces" p1) [.Expr (.YieldFrom (.Name "namespaces" p2) p3) p4] [] p5] [] env)) [.ret k none false lv c0 p0 []] s:=by
 subst hB;intro i
 induction i with
 | zero =>
  intro _ _ s₀ s m hrel hst hns hit
  refine Iq (wpAny_pyNext_rev_end hh hit fun h' he=>?_)
  intro c';refine seg_leaf (.ok .next) (done _ _ (hrel.trans ⟨Ip hIr ?_ he,rfl,rfl⟩));obtain⟨o,ho,hc,_⟩:=hit
  exact⟨o,ho,by unfold Fg;rw [hc];rfl⟩
 | succ i ih =>
  intro hi' hsuf s₀ s m hrel hst hns hit;have hlt:i<lvs.length:=hi';obtain⟨p,hp'⟩:∃ p,lvs[i]?=some p:=⟨_,List.getElem?_eq_getElem hlt⟩;have hmem:p∈lvs:=List.mem_of_getElem? hp'
  have hit0:s.heap.IsRevIter Ir stk (i:Int):=by
   have:(((i+1:Nat):Int) - 1)=(i:Int):=by lia
   rw [this] at hit;exact hit
  have hItI:∃ o,s.heap.get? Ir=some o∧Fg o=true:=by
   obtain⟨o,ho,hc,_⟩:=hit
   exact⟨o,ho,by unfold Fg;rw [hc];rfl⟩
  rw [Jb hp'] at hsuf ⊢
  refine Iq (wpAny_pyNext_rev_item hit0 hst.2.1 (x:=.ref p.1) (by rw [List.getElem?_toArray,List.getElem?_map,hp'];rfl) fun h₁ hit₁ hsb₁=>?_)
  have sm₁:Dv env.locals s.heap h₁:=Ip hIr hItI hsb₁.extBut;have hst₁:=hst.same sm₁;have hns₁:h₁.Ns env.locals m:=hns.extBut hsb₁.extBut (Nat.ne_of_lt hIr)
  refine wpAny_assign_Name (wpAny_storeName_local hl hns₁ (fun h₂ hns₂ hsb₂=>?_) hp)
  intro K' H' hK';have sm₂:Dv env.locals h₁ h₂:=Jf hsb₂;have hst₂:=hst₁.same sm₂
  have hit₂:h₂.IsRevIter Ir stk ((i:Int) - 1):=hit₁.at fun o e=>(hsb₂.2 Ir (Nat.ne_of_gt hIr)).trans e
  refine seg_execs_cons (seg_If (isTrue_plain (wpAny_Name (wpAny_loadName_local hk hl hns₂ (by rw [if_pos rfl]) ?_))))
  refine wpAny_truthy_list (hst₂.2.2 p hmem).2.1 (hst₂.2.2 p hmem).2.2 ?_
  cases hemp:p.2.isEmpty with
  | true =>
   rw [if_neg (by decide)]
   refine seg_execs_nil ?_
   show Seg _ _ _ _ _ _ _ ((execs [] env).wrap K' H' id id) _ _
   refine seg_execs_nil ?_;rw [hK'];refine seg_again rfl ?_
   have hnil:p.2.toList=[]:=by simpa using hemp
   rw [hnil,List.nil_append] at hsuf ⊢;exact ih (Nat.le_of_lt hlt) hsuf _ _ _ (hrel.trans ⟨sm₁.trans sm₂,rfl,rfl⟩) hst₂ hns₂ hit₂
  | false =>
   rw [if_pos (by decide)]
   refine seg_execs_cons (Lp hi (wpAny_Name (wpAny_loadName_local hk hl hns₂ (by rw [if_pos rfl]) ?_)))
   refine wpAny_typeOf (T:="list") (hst₂.2.2 p hmem).2.1.typeIs ⟨by decide +kernel,?_⟩
   refine wpAny_pyIter_list (hst₂.2.2 p hmem).2.1 ?_;intro k' p' hk';obtain⟨oB,esB,epB,hoB,rB⟩:=id hns₂;obtain⟨oR,hoR,hcR,hdR⟩:=id hit₂;have hsz:env.locals<h₂.objs.size:=Heap.lt_size hoB
   refine Uk (oB:=oB) (oR:=oR) (below:=comes (lvs.take i)) ?hh rfl rfl hmem hsz hIr (Nat.ne_of_lt (Heap.lt_size hoR)) (by unfold Fg;rw [hcR];rfl) ?_ _ 0 rfl hsuf _ _ (hrel.trans ⟨(sm₁.trans sm₂).trans (Fq _),rfl,rfl⟩) (hst₂.same (Fq _)) (Heap.get?_push_of_some _ hoB) (Heap.get?_push_of_some _ hoR) ⟨_,Heap.get?_push_size _ rfl,rfl,rfl⟩
   case hh=>exact hh
   intro s₀' s' hrel' hst' hB' hR';rw [hk']
   show Seg _ _ _ _ _ _ _ ((execs [] env).wrap _ H' id id) _ _
   refine seg_execs_nil ?_
   show Seg _ _ _ _ _ _ _ ((execs [] env).wrap K' H' id id) _ _
   refine seg_execs_nil ?_;rw [hK'];refine seg_again rfl ?_;exact ih (Nat.le_of_lt hlt) ((List.suffix_append _ _).trans hsuf) _ _ _ hrel' hst' (Heap.Ns.at_ hns₂ hoB hB') ⟨oR,hR',hcR,hdR⟩
theorem Kv{env:Env}{px p1 p2 p3 p4 p5:Pos}{k:Result→Sem Fin}{lv:List Value}{c0:Code}{p0:Pos}{s₀ s:Shared}{m:Str→Option Value}
  (hB:env.locals=B) (hk:env.scope.kind=.function) (hl:env.kindOf "namespaces"=some .local) (hi:interactive env=false)
  (hp:(env.scope.kind == .class || (env.scope.kind == .module && env.locals != env.globals))=false)
  (hh:A.handled=none) (hIr:B<Ir) (hrel:Rel B s₀ s) (hst:Bu B stk lvs s.heap) (hns:s.heap.Ns B m) (hit:s.heap.IsRevIter Ir stk ((lvs.length:Int) - 1))
  (done:∀ s₀ s:Shared,Rel B s₀ s→Seg (model prog w) A (fun n s₀ r s₁=>r=.ok (.ret .none)∧RP B n s₀ s₁) (YP B (Bu B stk lvs) (comes lvs)) 0 s₀ c0 (k (.ok .next)) [] s) :
   Seg (model prog w) A (fun n s₀ r s₁=>r=.ok (.ret .none)∧RP B n s₀ s₁) (YP B (Bu B stk lvs) (comes lvs)) (comes lvs).length s₀
    (.forLoop (.Name "namespaces" px) (.ref Ir) [.If (.Name "namespaces" p1) [.Expr (.YieldFrom (.Name "namespaces" p2) p3) p4] [] p5] [] env)
    ((model prog w).den (.forLoop (.Name "namespaces" px) (.ref Ir) [.If (.Name "namespaces" p1) [.Expr (.YieldFrom (.Name "namespaces" p2) p3) p4] [] p5] [] env)) [.ret k none false lv c0 p0 []] s:=by
 have e:=Ry (px:=px) (p1:=p1) (p2:=p2) (p3:=p3) (p4:=p4) (p5:=p5) (p0:=p0) (lv:=lv) hB hk hl hi hp hh hIr done lvs.length (Nat.le_refl _) (by rw [List.take_length];exact List.suffix_refl _) s₀ s m hrel hst hns hit
 rw [List.take_length] at e;exact e
end
end Mine
namespace Mine
open PySem.Calls
section
variable{prog:Program}{w:World}{A:Around}{E:Value→Shared→Prop}{s:Shared}
theorem Ps{a:Addr}{g n:Nat}{gs:GenState}{P:Nat→Shared→Shared→Prop}{Y:Protocol}{Q:Option Value→Shared→Prop}(hh:A.handled=none)
  (hl:s.heap.NoLimit) (zq:A.depth<recursionLimit) (hg:s.heap.IsGen a g) (hgs:s.gens[g]?=some gs)
  (hgo:gs.Goes (model prog w) A.in1 (fun n s₀ r s₁=>r=.ok (.ret .none)∧P n s₀ s₁) Y n (.send .none) (s.setGen g .running))
  (hY:∀ v s₁ gs',gs'.bare=true→Y (n - 1) (s.setGen g .running) v s₁ (fun r' s''=>match n with
    | 0=>False
    | m+1=>gs'.Goes (model prog w) A.in1 (fun n s₀ r s₁=>r=.ok (.ret .none)∧P n s₀ s₁) Y m r' s'')→Q (some v) (s₁.setGen g gs'))
  (hP:∀ s₁,P n (s.setGen g .running) s₁→∀ h',(∀ b o,s₁.heap.get? b=some o→h'.get? b=some o)→Q none { s₁.setGen g .finished with heap:=h' }) :
  wpAny (model prog w) A (pyNext (.ref a)) Q E s:=by
 unfold pyNext
 refine Wb (wpAny_attempt (wpAny_callSpecial?_slot (name:="__next__") hg.typeIs slot_gen_next
  (wpAny_call_entry slot_gen_next hg.typeIs entry_gen_next ?_ (args_gen_next _))))
 show wpAny _ A.in1 (Builtin.Generator.genWake (.ref a) (.send .none)) _ _ s
 unfold Builtin.Generator.genWake;refine Wb (wpAny_holding (wpAny_genNumber hg (Wb (wpAny_genState hgs ?_))))
 cases gs with
 | running=>exact hgo.elim
 | finished=>exact hgo.elim
 | _ =>
  refine Wb (wpAny_roomToWake hl zq ?_)
  show wpAny _ A.in1 (.resume g (.send .none) [] _) _ _ s
  refine wpAny_resumeQ hgs hgo (fun x s₁ hx=>?_) (fun v s₁ gs' hb hv=>?_)
  ·obtain⟨rfl,hp⟩:=hx
   show wpAny _ A.in1 (newExc (.type "StopIteration") [] >>= _) _ _ _
   refine Wb ?_;unfold newExc newTuple;dsimp only
   refine Wb (wpAny_newObj_type ?_ (by size_fits))
   refine Wb (m:=firstArgMember _ _) (wpAny_of_eq (a:=.none) (by first | rfl | (simp only [firstArgMember];rfl)) ?_)
   refine wpAny_newObj_type ?_ (by size_fits)
   simp only [raiseNew]
   refine Wb (Wb (wpAny_handled ?_));rw [Around.in1_handled,hh];refine wpAny_throw ?_;refine Wb (wpAny_isInstance (T:="StopIteration") (b:=true) ⟨_,Heap.get?_push_size _ rfl,rfl⟩ isSubtype_stop ?_)
   exact Wp (hP s₁ hp _ fun b o hb=>Heap.get?_push_of_some _ (Heap.get?_push_of_some _ hb))
  ·exact Wp ⟨v,rfl,Wp (hY v s₁ gs' hb hv)⟩
noncomputable def GenAt(prog:Program)(w:World)(A:Around)(B stk:Addr)(lvs:List (Addr × Array Value))(gn:Nat)(rem:List Value)(priv:List (Addr × Obj))(gens:Array GenState):Prop :=
 rem <:+ comes lvs∧Priv B priv∧∃ gs,gens[gn]?=some gs∧gs.bare=true∧∀ s'':Shared,(∀ p∈priv,s''.heap.get? p.1=some p.2)→Bu B stk lvs s''.heap →
  gs.Goes (model prog w) A.in1 (fun n s₀ r s₁=>r=.ok (.ret .none)∧RP B n s₀ s₁) (YP B (Bu B stk lvs) (comes lvs)) rem.length (.send .none) s''
theorem Dj{gens:Array GenState}{i:Nat}{x:GenState}(h:AllBare gens)(hx:x.bare=true):AllBare (gens.setIfInBounds i x):=by
 intro y hy
 rcases Array.mem_or_eq_of_mem_setIfInBounds hy with q | q
 ·exact h y q
 ·rw [q];exact hx
theorem Qo{α:Type}{l:List α}{v v':α}{r r':List α}(h:(v::r) <:+ l)(h':(v'::r') <:+ l)(hl:r.length=r'.length):v=v'∧r=r':=by
 obtain⟨t,ht⟩:=h;obtain⟨t',ht'⟩:=h';have e:t++v::r=t'++v'::r':=ht.trans ht'.symm
 have zd:t.length=t'.length:=by
  have:=congrArg List.length e
  simp only [List.length_append,List.length_cons] at this
  exact(Nat.le_antisymm (Nl fun hn2=>fk [_,_,_,_] (.e V0 V1 (.e (.a V2 (.s V1)) (.a V3 (.s V0)) (.e (.s V3) V2 K0))) rfl (Es hl) (El this) hn2) (Nl fun hn3=>fk [_,_,_,_] (.e V0 V1 (.e (.a V2 (.s V1)) (.a V3 (.s V0)) (.e (.s V3) V2 K0))) rfl (El hl) (Es this) hn3))
 have:=List.append_inj e zd;exact⟨(List.cons.inj this.2).1,(List.cons.inj this.2).2⟩
noncomputable def Jy(w:World)(A:Around)(s:Shared)(prog:Program)(E:Value→Shared→Prop)(a B stk:Addr)(lvs:List (Addr × Array Value))(gn:Nat)(v:Value)(rem:List Value)(priv:List (Addr × Obj))(Q:Option Value→Shared→Prop):Prop :=
 ∀ (hh:A.handled=none) (hl:s.heap.NoLimit) (zq:A.depth<recursionLimit) (hg:s.heap.IsGen a gn) (G:GenAt prog w A B stk lvs gn (v::rem) priv s.gens) (hp:∀ p∈priv,s.heap.get? p.1=some p.2) (hst:Bu B stk lvs s.heap) (hb:AllBare s.gens) (h:∀ s' priv',GenAt prog w A B stk lvs gn rem priv' s'.gens→(∀ p∈priv',s'.heap.get? p.1=some p.2)→Dv B s.heap s'.heap→s'.os=s.os→AllBare s'.gens→Q (some v) s'),wpAny (model prog w) A (pyNext (.ref a)) Q E s
theorem Vs:∀ {a b c d e f g h i j k l m n},Jy a b c d e f g h i j k l m n:=by
 refine @(Aa (Al neW)<|@(Cp neI<|let_mvar% ?n:=(fun w A s prog E a B stk lvs gn v rem priv Q=>?_:∀ a b c d e f g h i j k l m n,Jy a b c d e f g h i j k l m n);?n _ _ _ _ _ _ _ _ _ _ _ _ _ _))
 intro hh hl zq hg G hp hst hb h;obtain⟨hsuf,hpr,gs,hgs,hbare,hgo⟩:=G
 refine Ps hh hl zq hg hgs (hgo (s.setGen gn .running) hp hst) (fun v' s₁ gs' hb' hY=>?_) (fun s₁ hP=>?_)
 ·obtain⟨⟨rest,zd,hsuf'⟩,hrel,priv',hpr',hin',hgo'⟩:=hY
  have hlen':rest.length=rem.length:=by simpa using zd
  obtain⟨rfl,rfl⟩:=Qo hsuf hsuf' hlen'.symm;have hgens:s₁.gens=s.gens.setIfInBounds gn .running:=hrel.gens
  have hlt:gn<s.gens.size:=by
   rcases Nat.lt_or_ge gn s.gens.size with q | q
   ·exact q
   ·rw [Array.getElem?_eq_none q] at hgs;cases hgs
  refine h (s₁.setGen gn gs') priv' ⟨(List.suffix_cons v rem).trans hsuf,hpr',gs',?_,hb',fun s'' h1 h2=>hgo' s'' h1 h2⟩ hin' hrel.heap hrel.os ?_
  ·show (s₁.gens.setIfInBounds gn gs')[gn]?=some gs'
   rw [Array.getElem?_setIfInBounds_self_of_lt];rw [hgens];simpa using hlt
  ·show AllBare (s₁.gens.setIfInBounds gn gs')
   refine Dj ?_ hb';rw [hgens];exact Dj hb rfl
 ·obtain⟨h0,_⟩:=hP
  cases h0
noncomputable def Me(w:World)(A:Around)(s:Shared)(prog:Program)(E:Value→Shared→Prop)(a B stk:Addr)(lvs:List (Addr × Array Value))(gn:Nat)(priv:List (Addr × Obj))(Q:Option Value→Shared→Prop):Prop :=
 ∀ (hh:A.handled=none) (hl:s.heap.NoLimit) (zq:A.depth<recursionLimit) (hg:s.heap.IsGen a gn) (G:GenAt prog w A B stk lvs gn [] priv s.gens) (hp:∀ p∈priv,s.heap.get? p.1=some p.2) (hst:Bu B stk lvs s.heap) (hb:AllBare s.gens) (h:∀ s',Dv B s.heap s'.heap→s'.os=s.os→AllBare s'.gens→Q none s'),wpAny (model prog w) A (pyNext (.ref a)) Q E s
theorem gen_end:∀ {a b c d e f g h i j k l},Me a b c d e f g h i j k l:=by
 refine @(Aa (Al neW)<|@(Ey neI<|let_mvar% ?n:=(fun w A s prog E a B stk lvs gn priv Q=>?_:∀ a b c d e f g h i j k l,Me a b c d e f g h i j k l);?n _ _ _ _ _ _ _ _ _ _ _ _))
 intro hh hl zq hg G hp hst hb h;obtain⟨hsuf,hpr,gs,hgs,hbare,hgo⟩:=G
 refine Ps hh hl zq hg hgs (hgo (s.setGen gn .running) hp hst) (fun v' s₁ gs' hb' hY=>?_) (fun s₁ hP h' hk=>?_)
 ·obtain⟨_,hrel,priv',_,hin',hgo'⟩:=hY
  exact(hgo' s₁ hin' (hst.same hrel.heap)).elim
 ·obtain⟨_,hrel⟩:=hP
  refine h _ (fun b o e c=>hk b o (hrel.heap b o e c)) hrel.os ?_
  show AllBare (s₁.gens.setIfInBounds gn .finished)
  refine Dj ?_ rfl;rw [hrel.gens];exact Dj hb rfl
noncomputable def Jz(w:World)(A:Around)(s:Shared)(prog:Program)(R:Result→Shared→Prop)(K:Frag)(g:Heap)(name qual:Str)(params:Arguments)(scope:Scope)(dV kV doc pm cdv ct oc:Value)(an od:Option Addr)(osl:Array (Option Value))(f:Addr)(args:Args)(binds:List (Str × Value))(px p1 p2 p3 p4 p5 p6 p7 p8 p9:Pos)(stk:Addr)(lvs:List (Addr × Array Value)):Prop :=
 ∀ (hk:∀ b o,g.get? b=some o→s.heap.get? b=some o) (X:K.In g) (hlim:g.NoLimit) (hb:AllBare s.gens) (hh:A.handled=none) (ho:K.lookup f=some ⟨oc,od,.func (fnOf name qual params [.For (.Name "namespaces" px) (.Call (.Name "_reversed" p6) [.Name "ns_stack" p7] [] p8) [.If (.Name "namespaces" p1) [.Expr (.YieldFrom (.Name "namespaces" p2) p3) p4] [] p5] [] p9] scope dV kV doc pm an cdv ct),osl⟩) (hcd:codeIn K cdv qual=true) (zq:A.depth<recursionLimit) (zg:BindsTo s (fnOf name qual params [.For (.Name "namespaces" px) (.Call (.Name "_reversed" p6) [.Name "ns_stack" p7] [] p8) [.If (.Name "namespaces" p1) [.Expr (.YieldFrom (.Name "namespaces" p2) p3) p4] [] p5] [] p9] scope dV kV doc pm an cdv ct) args binds) (hloc:∀ y∈binds,scope.names.lookup y.1=some .local) (hm1:binds.reverse.lookup (Str.ofString "_reversed")=some (Value.type "reversed")) (hm2:binds.reverse.lookup (Str.ofString "ns_stack")=some (Value.ref stk)) (hst:s.heap.IsList stk (lvs.map fun p=>Value.ref p.1).toArray) (hlv:∀ p∈lvs,s.heap.IsList p.1 p.2∧(p.2.size:Int)<2 ^ 63) (h:∀ h' tk priv,(∀ b o,s.heap.get? b=some o→h'.get? b=some o)→s.heap.objs.size<h'.objs.size→h'.IsGen (s.heap.objs.size+1) s.gens.size→h'.objs.size=s.heap.objs.size+2 →
   ∀ gens',AllBare gens'→GenAt prog w A s.heap.objs.size stk lvs s.gens.size (comes lvs) priv gens'→(∀ p∈priv,h'.get? p.1=some p.2)→(∀ p∈priv,p.1=s.heap.objs.size)→Bu s.heap.objs.size stk lvs h' →
   R (.ok (.ret (.ref (s.heap.objs.size+1)))) { s with heap:=h',gens:=gens',toks:=tk }) (hgen:scope.isGenerator=true) (hco:scope.isCoroutine=false) (hkd:scope.kind=.function) (hl1:(envOf qual scope s.heap.objs.size f cdv).kindOf "namespaces"=some .local) (hl2:(envOf qual scope s.heap.objs.size f cdv).kindOf "_reversed"=some .local) (hl3:(envOf qual scope s.heap.objs.size f cdv).kindOf "ns_stack"=some .local) (hcell:∀ x∈scope.names,x.2≠.cell),codeAny (model prog w) A (.call (.ref f) args) R s
theorem Nn:∀ a b c d e f g h i j k l m n o p q r s t u v w x y z a1 b1 c1 d1 e1 f1 g1 h1 i1 j1,Jz a b c d e f g h i j k l m n o p q r s t u v w x y z a1 b1 c1 d1 e1 f1 g1 h1 i1 j1:=by
 refine Aa (Al neW)<|Aa neI<|Aa neI<|Aa neI<|Ey neI<|let_mvar% ?n:=(fun w A s prog R K g name qual params scope dV kV doc pm cdv ct oc an od osl f args binds px p1 p2 p3 p4 p5 p6 p7 p8 p9 stk lvs=>?_:∀ a b c d e f g h i j k l m n o p q r s t u v w x y z a1 b1 c1 d1 e1 f1 g1 h1 i1 j1,Jz a b c d e f g h i j k l m n o p q r s t u v w x y z a1 b1 c1 d1 e1 f1 g1 h1 i1 j1);?n _ _ _ _ _ _ _ _ _ _ _ _ _ _ _ _ _ _ _ _ _ _ _ _ _ _ _ _ _ _ _ _ _ _ _ _
 intro hk X hlim hb hh ho hcd zq zg hloc hm1 hm2 hst hlv h hgen hco hkd hl1 hl2 hl3 hcell;refine codeAny_call_generator zq ((X.keeps hk) _ _ ho) rfl hco hgen rfl (codeRec_of (X.keeps hk) hcd) (zg _ _ _ _ ?_)
 refine wpAny_newFunctionEnv hcell hloc (fun h₀ hns₀ hsb₀=>⟨(hlim.keeps hk).fresh _ hsb₀,?_⟩) hkd
 have keep₀:∀ b o,s.heap.get? b=some o→h₀.get? b=some o:=fun b o e=>hsb₀.extBut b o (Nat.ne_of_lt (Heap.lt_size e)) (Heap.get?_push_of_some _ e)
 have size₀:h₀.objs.size=s.heap.objs.size+1:=by rw [hsb₀.1,Heap.size_push]
 have keep₁:∀ (o':Obj) b o,s.heap.get? b=some o→(h₀.push o').get? b=some o:=fun o' b o e=>Heap.get?_push_of_some _ (keep₀ b o e)
 have stack₁:∀ o':Obj,Bu s.heap.objs.size stk lvs (h₀.push o'):=fun o'=>by
  have one:∀ a its,s.heap.IsList a its→a≠s.heap.objs.size∧(h₀.push o').IsList a its:=fun a its ⟨o,ho,r⟩=>⟨Nat.ne_of_lt (Heap.lt_size ho),o,keep₁ o' a o ho,r⟩
  exact⟨(one _ _ hst).1,(one _ _ hst).2,fun p hp=>⟨(one _ _ (hlv p hp).1).1,(one _ _ (hlv p hp).1).2,(hlv p hp).2⟩⟩
 obtain⟨oB,esB,epB,hoB,rB⟩:=id hns₀;rw [show h₀.objs.size=s.heap.objs.size+1 from size₀]
 refine h _ _ [(s.heap.objs.size,oB)] (keep₁ _) (by rw [Heap.size_push,size₀];exact(Nt fun hn1=>fk [_] (.e (.a (.s V0) K1) V0 K0) rfl hn1)) ⟨_,_,_,by rw [← size₀];exact Heap.get?_push_size _ rfl,rfl,rfl,rfl⟩ (by rw [Heap.size_push,size₀]) _ ?_ ?_ ?_ ?_ (stack₁ _)
 ·intro y hy
  rcases Array.mem_push.mp hy with q | q
  ·exact hb y q
  ·rw [q];rfl
 ·refine⟨List.suffix_refl _,?_,_,Array.getElem?_push_size ..,rfl,fun s'' hp hS=>⟨rfl,?_⟩⟩
  ·intro p hp
   rcases List.mem_singleton.mp hp with rfl;exact⟨Nat.le_refl _,.inl rfl⟩
  ·have hns'':s''.heap.Ns s.heap.objs.size (fun x=>binds.reverse.lookup x):=Heap.Ns.at_ hns₀ hoB (hp _ (List.mem_singleton.mpr rfl))
   have hpl:((envOf qual scope s.heap.objs.size f cdv).scope.kind == .class || ((envOf qual scope s.heap.objs.size f cdv).scope.kind == .module && (envOf qual scope s.heap.objs.size f cdv).locals != (envOf qual scope s.heap.objs.size f cdv).globals))=false:=by
    show (scope.kind == .class || (scope.kind == .module && _))=false;rw [hkd];rfl
   refine seg_func (seg_execs_cons (seg_For (fun _=>rfl) ?_))
   refine PySem.Call_name1 rfl (wpAny_Name (wpAny_loadName_local hkd hl2 hns'' hm1 (PySem.callWith_type1 (wpAny_Name (wpAny_loadName_local hkd hl3 hns'' hm2 ?_)))));refine call_reversed_list hS.2.1 ?_;refine wpAny_pyIter_revIter ⟨_,Heap.get?_push_size _ rfl,rfl,rfl⟩ ?_;intro k p hk'
   have zd:((List.map (fun p=>Value.ref p.1) lvs).toArray.size:Int) - 1=(lvs.length:Int) - 1:=by simp
   refine Kv (m:=fun x=>binds.reverse.lookup x) rfl hkd hl1 (by show (scope.kind == .module && _)=false;rw [hkd];rfl) hpl hh (Heap.Ns.lt hns'') ⟨Fq _,rfl,rfl⟩ (hS.same (Fq _)) (hns''.push _) ⟨_,Heap.get?_push_size _ rfl,rfl,by rw [zd];rfl⟩ ?_
   intro s₀ s₁ hr;rw [hk'];exact seg_end (.ok (.ret .none)) ⟨rfl,rfl,hr⟩
 ·intro p hp
  rcases List.mem_singleton.mp hp with rfl;exact Heap.get?_push_of_some _ hoB
 ·intro p hp
  rcases List.mem_singleton.mp hp with rfl
  rfl
theorem Vt{R:Result→Shared→Prop}{K:Frag}{g:Heap}{name qual:Str}{params:Arguments}{scope:Scope}{dV kV doc pm cdv ct oc:Value}{an od:Option Addr}{osl:Array (Option Value)}{f:Addr}{args:Args}{binds:List (Str × Value)}
  {px p1 p2 p3 p4 p5 p6 p7 p8 p9:Pos} {stk:Addr} {lvs:List (Addr × Array Value)}
  (hk:∀ b o,g.get? b=some o→s.heap.get? b=some o) (X:K.In g) (hlim:g.NoLimit) (hb:AllBare s.gens) (hh:A.handled=none)
  (ho:K.lookup f=some ⟨oc,od,.func (fnOf name qual params [.For (.Name "namespaces" px) (.Call (.Name "_reversed" p6) [.Name "ns_stack" p7] [] p8) [.If (.Name "namespaces" p1) [.Expr (.YieldFrom (.Name "namespaces" p2) p3) p4] [] p5] [] p9] scope dV kV doc pm an cdv ct),osl⟩) (hcd:codeIn K cdv qual=true) (zq:A.depth<recursionLimit)
  (zg:BindsTo s (fnOf name qual params [.For (.Name "namespaces" px) (.Call (.Name "_reversed" p6) [.Name "ns_stack" p7] [] p8) [.If (.Name "namespaces" p1) [.Expr (.YieldFrom (.Name "namespaces" p2) p3) p4] [] p5] [] p9] scope dV kV doc pm an cdv ct) args binds) (hloc:∀ y∈binds,scope.names.lookup y.1=some .local)
  (hm1:binds.reverse.lookup (Str.ofString "_reversed")=some (Value.type "reversed")) (hm2:binds.reverse.lookup (Str.ofString "ns_stack")=some (Value.ref stk))
  (hst:s.heap.IsList stk (lvs.map fun p=>.ref p.1).toArray) (hlv:∀ p∈lvs,s.heap.IsList p.1 p.2∧(p.2.size:Int)<2 ^ 63)
  (h:∀ h' tk priv,(∀ b o,s.heap.get? b=some o→h'.get? b=some o)→s.heap.objs.size<h'.objs.size→h'.IsGen (s.heap.objs.size+1) s.gens.size→h'.objs.size=s.heap.objs.size+2 →
   ∀ gens',AllBare gens'→GenAt prog w A s.heap.objs.size stk lvs s.gens.size (comes lvs) priv gens'→(∀ p∈priv,h'.get? p.1=some p.2)→(∀ p∈priv,p.1=s.heap.objs.size)→Bu s.heap.objs.size stk lvs h' →
   R (.ok (.ret (.ref (s.heap.objs.size+1)))) { s with heap:=h',gens:=gens',toks:=tk })
  (hgen:scope.isGenerator=true:=by rfl) (hco:scope.isCoroutine=false:=by rfl) (hkd:scope.kind=.function:=by rfl)
  (hl1:(envOf qual scope s.heap.objs.size f cdv).kindOf "namespaces"=some .local:=by rfl) (hl2:(envOf qual scope s.heap.objs.size f cdv).kindOf "_reversed"=some .local:=by rfl) (hl3:(envOf qual scope s.heap.objs.size f cdv).kindOf "ns_stack"=some .local:=by rfl)
  (hcell:∀ x∈scope.names,x.2≠.cell:=by decide):codeAny (model prog w) A (.call (.ref f) args) R s:=Nn w A s prog R K g name qual params scope dV kV doc pm cdv ct oc an od osl f args binds px p1 p2 p3 p4 p5 p6 p7 p8 p9 stk lvs hk X hlim hb hh ho hcd zq zg hloc hm1 hm2 hst hlv h hgen hco hkd hl1 hl2 hl3 hcell
end
end Mine
namespace Mine
open PySem.Calls
noncomputable abbrev wd(hs:Nat→Int)(tk:Nat→Tok)(c2 c3 c4 c5 c6 c7 c8 c13:Value)(wr da de ns pm pr:Addr)(rs rd:Bool)(ig:Int):List DictEntry :=
 [⟨hs 0,.str "_write" (tk 0),.ref wr⟩,⟨hs 1,.str "_data" (tk 1),.ref da⟩,⟨hs 2,.str "_with_comments" (tk 2),c2⟩,⟨hs 3,.str "_strip_text" (tk 3),c3⟩,
  ⟨hs 4,.str "_exclude_attrs" (tk 4),c4⟩,⟨hs 5,.str "_exclude_tags" (tk 5),c5⟩,⟨hs 6,.str "_rewrite_prefixes" (tk 6),c6⟩,⟨hs 7,.str "_qname_aware_tags" (tk 7),c7⟩,
  ⟨hs 8,.str "_find_qname_aware_attrs" (tk 8),c8⟩,⟨hs 9,.str "_declared_ns_stack" (tk 9),.ref de⟩,⟨hs 10,.str "_ns_stack" (tk 10),.ref ns⟩,⟨hs 11,.str "_prefix_map" (tk 11),.ref pm⟩,
  ⟨hs 12,.str "_preserve_space" (tk 12),.ref pr⟩,⟨hs 13,.str "_pending_start" (tk 13),c13⟩,⟨hs 14,.str "_root_seen" (tk 14),.bool rs⟩,⟨hs 15,.str "_root_done" (tk 15),.bool rd⟩,
  ⟨hs 16,.str "_ignored_depth" (tk 16),.int ig (tk 17)⟩]
noncomputable abbrev Ad(its:Array Value):Obj:={ cls:=.type "tuple",data:=.seq its }
end Mine
namespace Mine
open PySem.Calls
open PySem.Builtin PySem.Builtin.Str PySem.Builtin.Int
section
variable{prog:Program}{w:World}{A:Around}{E:Value→Shared→Prop}{s:Shared}{h₀:Heap}{L:Addr}{m:Str→Option Value}{news:List (Addr × Obj)}
theorem Qa(x y:Str)(t u k:Tok):∃ raising:Sem Fin,«str.rsplit» ⟨[.str x t,.str y u,.int 1 k],[]⟩ =
  (if (decide (x.length<y.length) || decide (strKind x<strKind y))=true then(do rule "str.rsplit.sep-cannot-occur";ret (← newList [.str x t])) else
   if (y.length == 0)=true then raising else
   if (true && (occurrencesFromRight x y 1).isEmpty)=true then(do rule "str.rsplit.same-object";ret (← newList [.str x t])) else
   (do ret (← newList (← (partsBetween x (occurrencesFromRight x y 1) y.length).mapM mkStr)))):=⟨_,rfl⟩
noncomputable def cutR(x y a b:Str):Bool:=!(decide (x.length<y.length) || decide (strKind x<strKind y)) && !(y.length == 0) && !(occurrencesFromRight x y 1).isEmpty && partsBetween x (occurrencesFromRight x y 1) y.length == [a,b]
noncomputable def Mp(w:World)(A:Around)(s:Shared)(prog:Program)(E:Value→Shared→Prop)(h₀:Heap)(L:Addr)(m:Str→Option Value)(news:List (Addr × Obj))(x y a b:Str)(t u k:Tok)(Q:Value→Shared→Prop):Prop :=
 ∀ (hF:Fr h₀ L s.heap m) (N:News h₀ L s.heap news) (hc:cutR x y a b=true) (hsz:x.length≤sizeLine) (h:∀ h' t1 t2 tk,Fr h₀ L h' m→News h₀ L h' ((s.heap.objs.size,listOf #[.str a t1,.str b t2] 0)::news)→Q (.ref s.heap.objs.size) { s with heap:=h',toks:=tk }),wpAny (model prog w) A (call (.builtin "str.rsplit") [.str x t,.str y u,.int 1 k]) Q E s
theorem Sx:∀ {a b c d e f g h i j k l m n o p q},Mp a b c d e f g h i j k l m n o p q:=by
 refine @(Aa (Al neW)<|@(Aa neI<|@(Bg neI<|let_mvar% ?n:=(fun w A s prog E h₀ L m news x y a b t u k Q=>?_:∀ a b c d e f g h i j k l m n o p q,Mp a b c d e f g h i j k l m n o p q);?n _ _ _ _ _ _ _ _ _ _ _ _ _ _ _ _ _)))
 intro hF N hc hsz h;unfold cutR at hc
 simp only [Bool.and_eq_true,Bool.not_eq_true',beq_iff_eq] at hc
 obtain⟨⟨⟨h1,h2⟩,h3⟩,h4⟩:=hc;obtain⟨raising,htree⟩:=Qa x y t u k;refine wpAny_call_entry F.slot_str_rsplit (typeIs_str _ _ _) F.entry_str_rsplit ?_ (F.args_str_rsplit_3 _ _ _);rw [htree,h1,h2,h3,h4]
 show wpAny _ _ (do ret (← newList (← [a,b].mapM mkStr))) _ _ s
 have hab:∀ p∈[a,b],p.length≤sizeLine:=fun p hp=>by
  rw [← h4] at hp
  simp only [partsBetween,List.mem_map] at hp
  obtain⟨⟨i,j⟩,_,rfl⟩:=hp;exact Nat.le_trans (strSub_length_le ..) hsz
 refine Wb (wpAny_mapM_mkStr _ _ _ hab (Wb (wpAny_newList (Wp ⟨_,rfl,?_⟩) (by show 2≤sizeLine;decide))))
 exact h _ _ _ _ (Fr.pushS hF _) (News.push hF N _)
noncomputable def Bi(prog:Program)(w:World)(o:Obj)(S:Str→Bool)(n:Nat):Prop :=
 ∃ es ep t,o.ExactSet∧o.data=.set es ep t∧ElemsOf (strKind prog w) es.toList∧(∀ k,S k=true↔∃ e∈es.toList,(strKind prog w).is k e.2=true)∧es.size<scanBound∧t.fits es.size=true∧es.size=n
theorem Bi.at{h:Heap}{a:Addr}{o:Obj}{S:Str→Bool}{n:Nat}(x:Bi prog w o S n)(ho:h.get? a=some o):h.SetOf (strKind prog w) a S n :=
 x.elim fun es x=>x.elim fun ep x=>x.elim fun t x=>⟨o,es,ep,t,ho,x⟩
theorem Bi.of{h:Heap}{a:Addr}{S:Str→Bool}{n:Nat}(x:h.SetOf (strKind prog w) a S n):∃ o,h.get? a=some o∧Bi prog w o S n :=
 x.elim fun o x=>x.elim fun es x=>x.elim fun ep x=>x.elim fun t x=>⟨o,x.1,es,ep,t,x.2⟩
theorem Mt{a:Addr}{o:Obj}{S:Str→Bool}{n:Nat}{y:Str}{ty:Tok}{Q:Value→Shared→Prop}(N:News h₀ L s.heap news)(hm:(a,o)∈news)(hS:Bi prog w o S n)
  (h:Q (.bool (!S y)) { s with toks:=s.toks+1 }):wpAny (model prog w) A (compareOp .NotIn (.str y ty) (.ref a)) Q E s :=
 wpAny_notInSet_of (knd:=strKind prog w) (k:=y) (by simp [PySem.strKind,Value.isStrOf]) rfl (hS.at (N _ hm).1) h
noncomputable def Ms(w:World)(A:Around)(s:Shared)(prog:Program)(E:Value→Shared→Prop)(h₀:Heap)(L:Addr)(m:Str→Option Value)(news:List (Addr × Obj))(a:Addr)(o:Obj)(S:Str→Bool)(n:Nat)(y:Str)(ty:Tok)(news':Obj→List (Addr × Obj))(Q:Value→Shared→Prop):Prop :=
 ∀ (hF:Fr h₀ L s.heap m) (N:News h₀ L s.heap news) (hm:(a,o)∈news) (hS:Bi prog w o S n) (hn:n<4000) (hU:∀ o',Upd a o o' news (news' o')) (h:∀ h' o',Fr h₀ L h' m→News h₀ L h' (news' o')→Bi prog w o' (fun k=>S k || decide (k=y)) (if S y then n else n+1)→Q .none { s with heap:=h',toks:=s.toks+1 }),wpAny (model prog w) A (call (.builtin "set.add") [.ref a,.str y ty]) Q E s
theorem Sz:∀ {a b c d e f g h i j k l m n o p q},Ms a b c d e f g h i j k l m n o p q:=by
 refine @(Aa (Al neW)<|@(Aa neI<|@(Bg neI<|let_mvar% ?n:=(fun w A s prog E h₀ L m news a o S n y ty news' Q=>?_:∀ a b c d e f g h i j k l m n o p q,Ms a b c d e f g h i j k l m n o p q);?n _ _ _ _ _ _ _ _ _ _ _ _ _ _ _ _ _)))
 intro hF N hm hS hn hU h
 refine call_set_add (knd:=strKind prog w) (k:=y) (by simp [PySem.strKind,Value.isStrOf]) rfl (hS.at (N _ hm).1) (by unfold scanBound;exact(Nt fun hn1=>fk [_] (.e (.s V0) (.k 4000) (.e (.k 4096) (.s V0) K0)) rfl hn hn1)) fun h' hsb hS'=>?_
 obtain⟨o',ho',hO'⟩:=Bi.of hS';obtain⟨pre,post,e1,e2,n1,n2⟩:=(hU o').split;refine h h' o' (Fr.change hF hsb (N _ hm).2.1 (N _ hm).2.2) ?_ hO';rw [e2];rw [e1] at N;intro p hp
 rcases List.mem_append.mp hp with q | q
 ·have P:=N p (Ml _ q);exact⟨(hsb.2 _ (n1 p q)).trans P.1,P.2⟩
 ·rcases List.mem_cons.mp q with rfl | q
  ·exact⟨ho',(N (a,o) (by simp)).2⟩
  ·have P:=N p (Mr _ (.tail _ q));exact⟨(hsb.2 _ (n2 p q)).trans P.1,P.2⟩
end
end Mine
namespace Mine
open PySem.Calls
section
variable{prog:Program}{w:World}{A:Around}{E:Value→Shared→Prop}{s:Shared}{h₀:Heap}{L:Addr}{m:Str→Option Value}{news:List (Addr × Obj)}
theorem News.ext{h h':Heap}(N:News h₀ L h news)(he:Heap.ExtBut h.objs.size h h'):News h₀ L h' news :=
 fun p hp=>⟨he _ _ (Nat.ne_of_lt (Heap.lt_size (N p hp).1)) (N p hp).1,(N p hp).2⟩
theorem Hz{name:Str}{scope:Scope}{a:Addr}{cd:Value}{x1 x2:Str}{p1 p2 pos:Pos}{k:Nat}{t:Addr}{v1 v2:Value}{Q:Unit→Shared→Prop}(hF:Fr h₀ L s.heap m)(N:News h₀ L s.heap news)(ht:IsTup s.heap t #[v1,v2])(hh:A.handled=none)
  (h:∀ h' tk,Fr h₀ L h' (fun y=>if y=x2 then some v2 else if y=x1 then some v1 else m y)→News h₀ L h' news→Q () { s with heap:=h',toks:=tk })
  (hk:scope.kind=.function:=by rfl) (hl1:(envOf name scope L a cd).kindOf x1=some .local:=by rfl) (hl2:(envOf name scope L a cd).kindOf x2=some .local:=by rfl) :
  wpAny (model prog w) A (assign (.Tuple [.Name x1 p1,.Name x2 p2] k pos) (envOf name scope L a cd) (.ref t)) Q E s:=by
 rw [arm_assign_Tuple];refine Wb (wpAny_standAt ?_)
 show wpAny _ _ (unpack (.ref t) [(false,assign (.Name x1 p1) (envOf name scope L a cd)),(false,assign (.Name x2 p2) (envOf name scope L a cd))]) _ _ _
 unfold unpack;refine Wb (wpAny_holding ?_)
 refine unpackItems_tuple (items:=#[v1,v2]) hh ht fun h' he=>?_
 have hF':Fr h₀ L h' m:=Fr.extBut hF he (Nat.le_refl _);have N':News h₀ L h' news:=News.ext N he
 show wpAny _ _ (do holding [v2] (assign (.Name x1 p1) (envOf name scope L a cd) v1);do holding [] (assign (.Name x2 p2) (envOf name scope L a cd) v2);pure ()) _ _ _
 refine Wb (wpAny_holding (PyProof.Rows.assign_Name (stN hF' N' (fun h2 F2 N2=>?_) hk hl1)))
 refine Wb (wpAny_holding (PyProof.Rows.assign_Name (stN F2 N2 (fun h3 F3 N3=>?_) hk hl2)))
 exact Wp (h h3 _ F3 N3)
theorem Ud{elts:List Expr}{k:Nat}{pos:Pos}{a b:Addr}{gn:Nat}{Q:Unit→Shared→Prop}(hg:s.heap.IsGen a gn)(h:Q () s):wpAny (model prog w) A (letOwnedTupleGo (.Tuple elts k pos) (.ref a) (.ref b)) Q E s:=by
 obtain⟨o,nm,qn,ho,hc,hd,_⟩:=hg;unfold letOwnedTupleGo;refine Wb (wpAny_load ho ?_);rw [hc,hd];exact Wp h
inductive All2 {α β:Type} (P:α→β→Prop):List α→List β→Prop
 | nil:All2 P [] []
 | cons {a:α} {b:β} {l:List α} {r:List β}:P a b→All2 P l r→All2 P (a::l) (b::r)
theorem All2.length{α β:Type}{P:α→β→Prop}{l:List α}{r:List β}(h:All2 P l r):l.length=r.length:=by
 induction h with
 | nil=>rfl
 | cons _ _ ih=>simp [ih]
theorem All2.mono{α β:Type}{P P':α→β→Prop}(hP:∀ a b,P a b→P' a b){l:List α}{r:List β}(h:All2 P l r):All2 P' l r:=by
 induction h with
 | nil=>exact .nil
 | cons x _ ih=>exact .cons (hP _ _ x) ih
theorem All2.append{α β:Type}{P:α→β→Prop}{l l':List α}{r r':List β}(h:All2 P l r)(h':All2 P l' r'):All2 P (l++l') (r++r'):=by
 induction h with
 | nil=>exact h'
 | cons x _ ih=>exact .cons x ih
def As(h:Heap)(v:Value)(q:Str × Str):Prop:=∃ t t1 t2,v=.ref t∧IsTup h t #[.str q.1 t1,.str q.2 t2]
theorem As.keeps{h h':Heap}(hk:∀ b o,h.get? b=some o→h'.get? b=some o){v:Value}{q:Str × Str}(x:As h v q):As h' v q :=
 x.imp fun _ x=>x.imp fun _ x=>x.imp fun _ x=>x.imp_right fun x=>x.imp fun _ x=>x.imp_left (hk _ _)
def Jn(o:Obj)(gn:Nat):Prop:=∃ nm qn,o.cls=.type "generator"∧o.data=.fields #[.int gn 0,nm,qn]∧o.slots=#[]
theorem Jn.at{h:Heap}{a gn:Nat}{o:Obj}(x:Jn o gn)(ho:h.get? a=some o):h.IsGen a gn:=let ⟨nm,qn,h1,h2,h3⟩:=x;⟨o,nm,qn,ho,h1,h2,h3⟩
theorem Rj{R:Result→Shared→Prop}{K:Frag}{os:OsState}{name qual:Str}{params:Arguments}{scope:Scope}{dV kV doc pm cdv ct oc:Value}{an od:Option Addr}{osl:Array (Option Value)}{f:Addr}{args:Args}{binds:List (Str × Value)}
  {px p1 p2 p3 p4 p5 p6 p7 p8 p9:Pos} {stk:Addr} {lvs:List (Addr × Array Value)}
  (hF:Fr h₀ L s.heap m) (N:News h₀ L s.heap news) (X:K.In h₀) (hlim:h₀.NoLimit) (hos:s.os=os) (hb:AllBare s.gens) (hh:A.handled=none)
  (ho:K.lookup f=some ⟨oc,od,.func (fnOf name qual params [.For (.Name "namespaces" px) (.Call (.Name "_reversed" p6) [.Name "ns_stack" p7] [] p8) [.If (.Name "namespaces" p1) [.Expr (.YieldFrom (.Name "namespaces" p2) p3) p4] [] p5] [] p9] scope dV kV doc pm an cdv ct),osl⟩) (hcd:codeIn K cdv qual=true) (zq:A.depth<recursionLimit)
  (zg:BindsTo s (fnOf name qual params [.For (.Name "namespaces" px) (.Call (.Name "_reversed" p6) [.Name "ns_stack" p7] [] p8) [.If (.Name "namespaces" p1) [.Expr (.YieldFrom (.Name "namespaces" p2) p3) p4] [] p5] [] p9] scope dV kV doc pm an cdv ct) args binds) (hloc:∀ y∈binds,scope.names.lookup y.1=some .local)
  (hm1:binds.reverse.lookup (Str.ofString "_reversed")=some (Value.type "reversed")) (hm2:binds.reverse.lookup (Str.ofString "ns_stack")=some (Value.ref stk))
  (hst:s.heap.IsList stk (lvs.map fun p=>.ref p.1).toArray) (hlv:∀ p∈lvs,s.heap.IsList p.1 p.2∧(p.2.size:Int)<2 ^ 63)
  (h:∀ (s':Shared) B ga gn oG priv,Fr h₀ L s'.heap m→News h₀ L s'.heap ((ga,oG)::(news++priv))→Jn oG gn→s'.os=os→AllBare s'.gens→GenAt prog w A B stk lvs gn (comes lvs) priv s'.gens→stk≠B→(∀ p∈lvs,p.1≠B) →
   (∀ p∈news,p.1<B)→L<B→ga=B+1→(∀ p∈priv,p.1=B)→R (.ok (.ret (.ref ga))) s')
  (hgen:scope.isGenerator=true) (hco:scope.isCoroutine=false) (hkd:scope.kind=.function)
  (hl1:(envOf qual scope s.heap.objs.size f cdv).kindOf "namespaces"=some .local) (hl2:(envOf qual scope s.heap.objs.size f cdv).kindOf "_reversed"=some .local) (hl3:(envOf qual scope s.heap.objs.size f cdv).kindOf "ns_stack"=some .local)
  (hcell:∀ x∈scope.names,x.2≠.cell):codeAny (model prog w) A (.call (.ref f) args) R s:=by
 refine Vt (g:=h₀) hF.keep X hlim hb hh ho hcd zq zg hloc hm1 hm2 hst hlv (fun h' tk priv hk hlt hg hsz gens' hb' G hp hpB hS=>?_) hgen hco hkd hl1 hl2 hl3 hcell
 obtain⟨oL,esL,epL,hL,rL⟩:=hF.ns;have hLB:L<s.heap.objs.size:=Heap.lt_size hL;obtain⟨oG,nm,qn,hoG,g1,g2,g3⟩:=hg
 have hnew:∀ a,s.heap.objs.size≤a→h₀.get? a=none:=fun a ha=>by
  cases e:h₀.get? a with
  | none=>rfl
  | some o=>exact absurd (Nat.lt_of_lt_of_le (Heap.lt_size (hF.keep _ _ e)) ha) (Nat.lt_irrefl _)
 refine h { s with heap:=h',gens:=gens',toks:=tk } s.heap.objs.size (s.heap.objs.size+1) s.gens.size oG priv ⟨⟨oL,esL,epL,hk _ _ hL,rL⟩,fun b o e=>hk _ _ (hF.keep b o e),hF.above⟩ ?_ ⟨nm,qn,g1,g2,g3⟩ hos hb' G hS.1 (fun p hp=>(hS.2.2 p hp).1) (fun p hp=>Heap.lt_size (N p hp).1) hLB rfl hpB
 ·intro p hp'
  rcases List.mem_cons.mp hp' with rfl | hp'
  ·exact⟨hoG,Nat.ne_of_gt (Nat.lt_succ_of_lt hLB),hnew _ (Nat.le_succ _)⟩
  ·rcases List.mem_append.mp hp' with q | q
   ·exact⟨hk _ _ (N p q).1,(N p q).2⟩
   ·exact⟨hp p q,by rw [hpB p q];exact Nat.ne_of_gt hLB,hnew _ (Nat.le_of_eq (hpB p q).symm)⟩
end
end Mine
namespace Mine
open PySem.Calls
noncomputable abbrev Pr:=Str × Str
noncomputable def scan(uri:Str):List Pr→List Str→Option Str × List Str
 | [],seen=>(none,seen)
 | q::r,seen=>if q.1=uri∧q.2∉seen then(some q.2,seen) else scan uri r (q.2::seen)
noncomputable def find(uri:Str):List Pr→Option Str
 | []=>none
 | q::r=>if q.1=uri then some q.2 else find uri r
noncomputable def full(p tag:Str):Str:=if p=Str.empty then tag else p++":"++tag
noncomputable def qn(decl ns:List Pr)(uri tag:Str):Option (Str × Option Pr) :=
 match scan uri decl [] with
 | (some p,_)=>some (full p tag,none)
 | (none,seen)=>if uri=Str.empty∧Str.empty∉seen then some (tag,none) else match find uri ns with
  | some p=>some (full p tag,some (uri,p))
  | none=>if uri=Str.empty then some (tag,none) else none
noncomputable def Ek(q uri tag:Str):Bool :=
 match Txt.slice q none (some 1) == "{" with
 | true=>cutR (Txt.slice q (some 1) none) "}" uri tag
 | false=>uri == Str.empty && tag == q
end Mine
namespace Mine
open PySem.Calls
section
variable{prog:Program}{w:World}{A:Around}{E:Value→Shared→Prop}{s:Shared}{h₀:Heap}{L:Addr}{m:Str→Option Value}{news:List (Addr × Obj)}
noncomputable def Fk(w:World)(A:Around)(s:Shared)(prog:Program)(E:Value→Shared→Prop)(l:Addr)(v1 v2:Value)(Q:List Value→Shared→Prop):Prop :=
 ∀ (hh:A.handled=none) (hl:s.heap.IsList l #[v1,v2]) (hQ:∀ h',Heap.ExtBut s.heap.objs.size s.heap h'→Q [v1,v2] { s with heap:=h' }),wpAny (model prog w) A (unpackItems (.ref l) 2 none) Q E s
theorem Oh:∀ {a b c d e f g h i},Fk a b c d e f g h i:=by
 refine @(Aa (Al neW)<|@(Bg neI<|let_mvar% ?n:=(fun w A s prog E l v1 v2 Q=>?_:∀ a b c d e f g h i,Fk a b c d e f g h i);?n _ _ _ _ _ _ _ _ _))
 intro hh hl hQ
 have hlt:l≠s.heap.objs.size:=by obtain⟨o,ho,_⟩:=hl;exact Nat.ne_of_lt (Heap.lt_size ho)
 unfold unpackItems;refine Wb ?_;unfold notIterableAtAll;refine Wb (wpAny_specialOf hl.typeIs slot_list_iter.lookup (Wp ?_))
 simp only [Bool.false_eq_true,if_false]
 refine Wb (wpAny_holding (wpAny_pyIter_list hl ?_));have hl0:=hl.push { cls:=.type "list_iterator",data:=.fields #[.ref l,.int 0 0] };refine Wb (wpAny_holding ?_)
 show wpAny _ _ (pyNext _ >>= _) _ _ _
 refine Wb (wpAny_pyNext_list_item (i:=0) ⟨_,Heap.get?_push_size _ rfl,rfl,rfl⟩ hl0 (x:=v1) rfl fun h₁ it₁ sb₁=>?_)
 have hl1:h₁.IsList l #[v1,v2]:=hl0.extBut sb₁.extBut hlt;refine Wb (wpAny_holding ?_)
 show wpAny _ _ (pyNext _ >>= _) _ _ _
 refine Wb (wpAny_pyNext_list_item it₁ hl1 (x:=v2) rfl fun h₂ it₂ sb₂=>?_)
 have hl2:h₂.IsList l #[v1,v2]:=hl1.extBut sb₂.extBut hlt;refine Wb (wpAny_holding (Wp (Wp (Wp ?_))));rw [if_neg (show ¬ ([v1,v2].length<2) from Nat.lt_irrefl 2)]
 refine Wb (wpAny_holding (wpAny_pyNext_list_end hh it₂ hl2 rfl fun h₃ he₃=>?_))
 simp only [Option.isSome_none,Bool.false_eq_true,if_false]
 exact Wp (hQ h₃ fun b o hb e=>he₃ b o hb (sb₂.extBut b o hb (sb₁.extBut b o hb (Heap.get?_push_of_some _ e))))
theorem Dx{name:Str}{scope:Scope}{a:Addr}{cd:Value}{x1 x2:Str}{p1 p2 pos:Pos}{k:Nat}{t:Addr}{v1 v2:Value}{Q:Unit→Shared→Prop}(hF:Fr h₀ L s.heap m)(N:News h₀ L s.heap news)(ht:s.heap.IsList t #[v1,v2])(hh:A.handled=none)
  (h:∀ h' tk,Fr h₀ L h' (fun y=>if y=x2 then some v2 else if y=x1 then some v1 else m y)→News h₀ L h' news→Q () { s with heap:=h',toks:=tk })
  (hk:scope.kind=.function:=by rfl) (hl1:(envOf name scope L a cd).kindOf x1=some .local:=by rfl) (hl2:(envOf name scope L a cd).kindOf x2=some .local:=by rfl) :
  wpAny (model prog w) A (assign (.Tuple [.Name x1 p1,.Name x2 p2] k pos) (envOf name scope L a cd) (.ref t)) Q E s:=by
 rw [arm_assign_Tuple];refine Wb (wpAny_standAt ?_)
 show wpAny _ _ (unpack (.ref t) [(false,assign (.Name x1 p1) (envOf name scope L a cd)),(false,assign (.Name x2 p2) (envOf name scope L a cd))]) _ _ _
 unfold unpack;refine Wb (wpAny_holding ?_)
 refine Oh hh ht fun h' he=>?_
 have hF':Fr h₀ L h' m:=Fr.extBut hF he (Nat.le_refl _);have N':News h₀ L h' news:=News.ext N he
 show wpAny _ _ (do holding [v2] (assign (.Name x1 p1) (envOf name scope L a cd) v1);do holding [] (assign (.Name x2 p2) (envOf name scope L a cd) v2);pure ()) _ _ _
 refine Wb (wpAny_holding (PyProof.Rows.assign_Name (stN hF' N' (fun h2 F2 N2=>?_) hk hl1)))
 refine Wb (wpAny_holding (PyProof.Rows.assign_Name (stN F2 N2 (fun h3 F3 N3=>?_) hk hl2)))
 exact Wp (h h3 _ F3 N3)
theorem News.sub{h:Heap}{news':List (Addr × Obj)}(N:News h₀ L h news)(hs:∀ p∈news',p∈news):News h₀ L h news':=fun p hp=>N p (hs p hp)
theorem m2_eq{a b:Str}{v1 v2 p q:Option Value}{m0:Str→Option Value}:(fun y=>if y=a then v2 else if y=b then v1 else if y=a then p else if y=b then q else m0 y)=(fun y=>if y=a then v2 else if y=b then v1 else m0 y):=by
 funext y
 by_cases h1:y=a
 ·simp [h1]
 ·by_cases h2:y=b<;>simp [h1,h2]
theorem So{a b:Str}{m0:Str→Option Value}(ha:m0 a=none)(hb:m0 b=none):m0=(fun y=>if y=a then none else if y=b then none else m0 y):=by
 funext y
 by_cases h1:y=a
 ·simp [h1,ha]
 ·by_cases h2:y=b
  ·simp [h2,hb]
  ·simp [h1,h2]
theorem Ob{led:Bool}:Bi prog w { cls:=.type "set",data:=.set #[] 0 (.fresh 0 0 led) } (fun _=>false) 0 :=
 ⟨#[],0,_,⟨rfl,rfl,rfl⟩,rfl,fun e he=>by simp at he,fun k=>by simp,by decide,by rfl,rfl⟩
theorem Bi.congr{o:Obj}{S S':Str→Bool}{n:Nat}(x:Bi prog w o S n)(h:∀ k,S k=S' k):Bi prog w o S' n:=(funext h:S=S') ▸ x
theorem Ae{h h':Heap}(hk:∀ b o,h.get? b=some o→h'.get? b=some o){a:Addr}{its:Array Value}(x:h.IsList a its):h'.IsList a its:=let ⟨o,ho,r⟩:=x;⟨o,hk _ _ ho,r⟩
theorem News.same{B:Addr}{h h':Heap}(N:News h₀ L h news)(hs:Dv B h h')(hn:∀ p∈news,p.1<B∨(p.1≠B∧Fg p.2=false)):News h₀ L h' news:=fun p hp=>⟨hs _ _ (N p hp).1 (hn p hp),(N p hp).2⟩
theorem Fr.same{B:Addr}{h h':Heap}(hF:Fr h₀ L h m)(hs:Dv B h h')(hB:L<B):Fr h₀ L h' m:=by
 obtain⟨oL,es,ep,hL,r⟩:=hF.ns
 exact⟨⟨oL,es,ep,hs _ _ hL (.inl hB),r⟩,fun b o e=>hs _ _ (hF.keep b o e) (.inl (Nat.lt_of_lt_of_le (Heap.lt_size e) (Nat.le_trans hF.above (Nat.le_of_lt hB)))),hF.above⟩
theorem News.priv{B:Addr}{h:Heap}{priv:List (Addr × Obj)}(hF:Fr h₀ L h m)(hB:L<B)(hP:Priv B priv)(hp:∀ p∈priv,h.get? p.1=some p.2):News h₀ L h priv:=fun p q=>by
 have hb:=(hP p q).1;refine⟨hp p q,Nat.ne_of_gt (Nat.lt_of_lt_of_le hB hb),?_⟩
 cases e:h₀.get? p.1 with
 | none=>rfl
 | some o=>exact absurd (Nat.lt_of_lt_of_le (Heap.lt_size e) (Nat.le_trans hF.above (Nat.le_trans (Nat.le_of_lt hB) hb))) (Nat.lt_irrefl _)
theorem News.app{h:Heap}{a b:List (Addr × Obj)}(x:News h₀ L h a)(y:News h₀ L h b):News h₀ L h (a++b):=fun p hp=>(List.mem_append.mp hp).elim (x p) (y p)
end
end Mine
namespace Mine
open PySem.Calls
noncomputable abbrev mm(x1 x2:Str)(m0:Str→Option Value)(p u:Option Value):Str→Option Value:=fun y=>if y=x2 then p else if y=x1 then u else m0 y
theorem News.drop2{h₀ h:Heap}{L:Addr}{a b c d e:Addr × Obj}{rest:List (Addr × Obj)}(N:News h₀ L h (a::b::c::d::e::rest)):News h₀ L h [a,c,d,e]:=News.sub N (Fc (.head _) (Fc (.tail _ (.tail _ (.head _))) (Fc (.tail _ (.tail _ (.tail _ (.head _)))) (Fc (.tail _ (.tail _ (.tail _ (.tail _ (.head _))))) (List.forall_mem_nil _)))))
theorem News.drop3{h₀ h:Heap}{L:Addr}{a b c d e f:Addr × Obj}{rest:List (Addr × Obj)}(N:News h₀ L h (a::b::c::d::e::f::rest)):News h₀ L h [a,b,d,e,f]:=News.sub N (Fc (.head _) (Fc (.tail _ (.head _)) (Fc (.tail _ (.tail _ (.tail _ (.head _)))) (Fc (.tail _ (.tail _ (.tail _ (.tail _ (.head _))))) (Fc (.tail _ (.tail _ (.tail _ (.tail _ (.tail _ (.head _)))))) (List.forall_mem_nil _))))))
theorem Kp{decl ns:List Pr}{uri tag p:Str}{seen:List Str}(h:scan uri decl []=(some p,seen)):qn decl ns uri tag=some (full p tag,none):=by unfold qn;rw [h]
theorem Wq{decl ns:List Pr}{uri tag:Str}{seen:List Str}(h:scan uri decl []=(none,seen))(hu:uri=Str.empty∧Str.empty∉seen):qn decl ns uri tag=some (tag,none):=by unfold qn;rw [h];exact if_pos hu
theorem Sw{decl ns:List Pr}{uri tag p:Str}{seen:List Str}(h:scan uri decl []=(none,seen))(hu:¬ (uri=Str.empty∧Str.empty∉seen))(hf:find uri ns=some p):qn decl ns uri tag=some (full p tag,some (uri,p)):=by unfold qn;rw [h];simp only [if_neg hu,hf]
theorem qn_none{decl ns:List Pr}{uri tag:Str}{seen:List Str}(h:scan uri decl []=(none,seen))(hu:¬ (uri=Str.empty∧Str.empty∉seen))(hf:find uri ns=none):qn decl ns uri tag=if uri=Str.empty then some (tag,none) else none:=by unfold qn;rw [h];simp only [if_neg hu,hf]
theorem Cj{p:Str}(h:(p.length:Int)=0):p=Str.empty:=by
 have h':p.cps.size=0:=by have:(p.cps.size:Int)=0:=h;lia
 have:p.cps=#[]:=Array.eq_empty_of_size_eq_zero h'
 cases p;simp only at this;rw [this];rfl
theorem Pe{p tag:Str}(h:(p.length:Int)=0):full p tag=tag:=by unfold full;rw [if_pos (Cj h)]
theorem Pf{p tag:Str}(h:(p.length:Int)≠0):full p tag=Str.empty++p++":"++tag:=by
 unfold full;rw [if_neg (fun e=>h (by rw [e];rfl)),Str.empty_append]
section
variable{prog:Program}{w:World}{A:Around}{E:Value→Shared→Prop}{s:Shared}
theorem Cu{value slice:Expr}{l:Addr}{vs:List Value}{v:Value}{t:Tok}{Q:Value→Shared→Prop}(hl:s.heap.IsList l (vs++[v]).toArray)(h:Q v s)
  (hs:subscripted slice false (.ref l) (.int (-1) t)=operate [.ref l,.int (-1) t] (getItem (.ref l) (.int (-1) t)):=by with_unfolding_all rfl) :
  wpAny (model prog w) A (subscriptTail value slice (.ref l) (.int (-1) t)) Q E s:=by
 refine tail_any hl.typeIs slot_list_getitem.lookup (wpAny_getItem_list_neg hl (by decide) ?_ (by decide) ?_ h) hs
 ·simp only [List.size_toArray,List.length_append,List.length_cons,List.length_nil];lia
 ·have e:(-1+((vs++[v]).toArray.size:Int)).toNat=vs.length:=by simp only [List.size_toArray,List.length_append,List.length_cons,List.length_nil];lia
  rw [e,List.getElem?_toArray,List.getElem?_append_right (Nat.le_refl _)]
  simp
end
section
variable{prog:Program}{w:World}{A:Around}{s:Shared}{g:Heap}{L:Addr}{os:OsState}
noncomputable def Md(w:World)(A:Around)(s:Shared)(prog:Program)(g:Heap)(L:Addr)(os:OsState)(name:Str)(scope:Scope)(a:Addr)(cd:Value)(x1 x2:Str)(q1 q2 pos:Pos)(kk:Nat)(body:List Stmt)(R:Result→Shared→Prop)(m0:Str→Option Value)(B stk ga:Addr)(gn:Nat)(lvs:List (Addr × Array Value))(oG:Obj)(ps:List Pr)(own priv:List (Addr × Obj))(rem:List Value)(p' u':Option Value):Prop :=
 ∀ (J:List Pr→List (Addr × Obj)→Prop) (hh:A.handled=none) (zq:A.depth<recursionLimit) (hlim:g.NoLimit) (hG:Jn oG gn) (hga:ga=B+1) (hLB:L<B) (hstack:∀ (h:Heap) ps own,(∀ b o,g.get? b=some o→h.get? b=some o)→News g L h own→J ps own→Bu B stk lvs h) (hown:∀ ps own,J ps own→∀ p∈own,p.1<B∨(p.1≠B∧Fg p.2=false)) (step:∀ (s1:Shared) (q:Pr) t1 t2 ps own rest,J (q::ps) own→Fr g L s1.heap (mm x1 x2 m0 (some (.str q.2 t2)) (some (.str q.1 t1)))→News g L s1.heap (own++rest)→(∀ p∈rest,B≤p.1)→s1.os=os→AllBare s1.gens →
   wpAny (model prog w) A (execs body (envOf name scope L a cd)) (fun f s3=>match f with
    | .next | .cont=>∃ own' p' u',J ps own'∧Fr g L s3.heap (mm x1 x2 m0 p' u')∧News g L s3.heap (own'++rest)∧s3.os=os∧s3.gens=s1.gens
    | .brk=>R (.ok .next) s3
    | .ret v=>R (.ok (.ret v)) s3) (notedBy (model prog w) A (envOf name scope L a cd) fun e s'=>R (.error e) s') s1) (done:∀ (s1:Shared) own p' u',J [] own→Fr g L s1.heap (mm x1 x2 m0 p' u')→News g L s1.heap own→s1.os=os→AllBare s1.gens→R (.ok .next) s1) (hJ:J ps own) (hF:Fr g L s.heap (mm x1 x2 m0 p' u')) (N:News g L s.heap ((ga,oG)::(own++priv))) (hps:All2 (As g) rem ps) (G:GenAt prog w A B stk lvs gn rem priv s.gens) (hos:s.os=os) (hb:AllBare s.gens) (hk:scope.kind=.function) (hl1:(envOf name scope L a cd).kindOf x1=some .local) (hl2:(envOf name scope L a cd).kindOf x2=some .local),codeAny (model prog w) A (.forLoop (.Tuple [.Name x1 q1,.Name x2 q2] kk pos) (.ref ga) body [] (envOf name scope L a cd)) R s
theorem Pb:∀ a b c d e f g h i j k l m n o p q r s t u v w x y z a1 b1 c1 d1 e1 f1,Md a b c d e f g h i j k l m n o p q r s t u v w x y z a1 b1 c1 d1 e1 f1:=by
 refine Aa (Al neW)<|Aa neI<|Aa neI<|Aa neI<|let_mvar% ?n:=(fun w A s prog g L os name scope a cd x1 x2 q1 q2 pos kk body R m0 B stk ga gn lvs oG ps own priv rem p' u'=>?_:∀ a b c d e f g h i j k l m n o p q r s t u v w x y z a1 b1 c1 d1 e1 f1,Md a b c d e f g h i j k l m n o p q r s t u v w x y z a1 b1 c1 d1 e1 f1);?n _ _ _ _ _ _ _ _ _ _ _ _ _ _ _ _ _ _ _ _ _ _ _ _ _ _ _ _ _ _ _ _
 intro J hh zq hlim hG hga hLB hstack hown step done hJ hF N hps G hos hb hk hl1 hl2
 refine codeAny_forLoop_any (fun k s1=>∃ rem ps own priv p' u',k=rem.length∧J ps own∧Fr g L s1.heap (mm x1 x2 m0 p' u')∧News g L s1.heap ((ga,oG)::(own++priv))∧All2 (As g) rem ps∧GenAt prog w A B stk lvs gn rem priv s1.gens∧s1.os=os∧AllBare s1.gens) ?_ rem.length ⟨rem,ps,own,priv,p',u',rfl,hJ,hF,N,hps,G,hos,hb⟩
 rintro k s1 ⟨rem,ps,own,priv,p',u',rfl,hJ,hF,N,hps,G,hos,hb⟩
 have Nown:News g L s1.heap own:=News.sub N fun p hp=>.tail _ (Ml _ hp)
 have hgen:s1.heap.IsGen ga gn:=hG.at (N _ (.head _)).1
 have hpriv:∀ p∈priv,s1.heap.get? p.1=some p.2:=fun p hp=>(N p (.tail _ (Mr _ hp))).1
 have hst:Bu B stk lvs s1.heap:=hstack _ _ _ hF.keep Nown hJ
 have hgaB:ga<B∨(ga≠B∧Fg oG=false):=.inr ⟨by rw [hga];exact Nat.succ_ne_self B,by obtain⟨_,_,hc,_⟩:=hG;unfold Fg;rw [hc];rfl⟩
 cases hps with
 | nil =>
  refine gen_end hh (hlim.keeps hF.keep) zq hgen G hpriv hst hb fun s2 hs hos2 hb2=>?_
  dsimp only;refine Wp ?_;exact done s2 own p' u' hJ (Fr.same hF hs hLB) (News.same Nown hs (hown _ _ hJ)) (hos2.trans hos) hb2
 | @cons v q rem ps hv hps =>
  refine Vs hh (hlim.keeps hF.keep) zq hgen G hpriv hst hb fun s2 priv2 G2 hp2 hs hos2 hb2=>?_
  dsimp only;have F2:=Fr.same hF hs hLB
  have N2:News g L s2.heap ((ga,oG)::(own++priv2)):=fun p hp=>by
   rcases List.mem_cons.mp hp with rfl | hp
   ·exact News.same (News.sub N (news':=[(ga,oG)]) fun p hp=>by rw [List.mem_singleton.mp hp];exact .head _) hs (fun p hp=>by rw [List.mem_singleton.mp hp];exact hgaB) _ (.head _)
   ·exact News.app (News.same Nown hs (hown _ _ hJ)) (News.priv F2 hLB G2.2.1 hp2) p hp
  obtain⟨t,t1,t2,rfl,ht⟩:=hv;refine Ud (hG.at (N2 _ (.head _)).1) ?_;have ht2:IsTup s2.heap t #[.str q.1 t1,.str q.2 t2]:=let ⟨o,ho,r⟩:=ht;⟨o,F2.keep _ _ ho,r⟩
  refine Hz F2 N2 ht2 hh (fun h3 tk3 F3 N3=>?_) hk hl1 hl2
  rw [m2_eq] at F3
  have N3':News g L h3 (own++((ga,oG)::priv2)):=News.sub N3 fun p hp=>by
   rcases List.mem_append.mp hp with z | z
   ·exact .tail _ (Ml _ z)
   ·rcases List.mem_cons.mp z with rfl | z
    ·exact .head _
    ·exact .tail _ (Mr _ z)
  refine wpAny_mono (step { s2 with heap:=h3,toks:=tk3 } q t1 t2 ps own ((ga,oG)::priv2) hJ F3 N3' ?_ (hos2.trans hos) hb2) (fun f s4 h4=>?_) fun _ _ z=>z
  ·intro p hp
   rcases List.mem_cons.mp hp with rfl | hp
   ·rw [hga];exact Nat.le_succ _
   ·exact(G2.2.1 p hp).1
  ·cases f with
   | brk=>exact h4
   | ret v=>exact h4
   | _ =>
    obtain⟨own',p'',u'',hJ',F4,N4,hos4,hg4⟩:=h4;refine⟨rem.length,Nat.lt_succ_self _,rem,ps,own',priv2,p'',u'',rfl,hJ',F4,?_,hps,?_,hos4,?_⟩
    ·exact News.sub N4 fun p hp=>by
      rcases List.mem_cons.mp hp with rfl | hp
      ·exact Mr _ (.head _)
      ·rcases List.mem_append.mp hp with z | z
       ·exact Ml _ z
       ·exact Mr _ (.tail _ z)
    ·rw [hg4];exact G2
    ·rw [hg4];exact hb2
theorem Nh{name:Str}{scope:Scope}{a:Addr}{cd:Value}{x1 x2:Str}{q1 q2 pos:Pos}{kk:Nat}{body:List Stmt}{R:Result→Shared→Prop}{m0:Str→Option Value}
  {B stk ga:Addr} {gn:Nat} {lvs:List (Addr × Array Value)} {oG:Obj} (J:List Pr→List (Addr × Obj)→Prop)
  (hh:A.handled=none) (zq:A.depth<recursionLimit) (hlim:g.NoLimit) (hG:Jn oG gn) (hga:ga=B+1) (hLB:L<B)
  (hstack:∀ (h:Heap) ps own,(∀ b o,g.get? b=some o→h.get? b=some o)→News g L h own→J ps own→Bu B stk lvs h)
  (hown:∀ ps own,J ps own→∀ p∈own,p.1<B∨(p.1≠B∧Fg p.2=false))
  (step:∀ (s1:Shared) (q:Pr) t1 t2 ps own rest,J (q::ps) own→Fr g L s1.heap (mm x1 x2 m0 (some (.str q.2 t2)) (some (.str q.1 t1)))→News g L s1.heap (own++rest)→(∀ p∈rest,B≤p.1)→s1.os=os→AllBare s1.gens →
   wpAny (model prog w) A (execs body (envOf name scope L a cd)) (fun f s3=>match f with
    | .next | .cont=>∃ own' p' u',J ps own'∧Fr g L s3.heap (mm x1 x2 m0 p' u')∧News g L s3.heap (own'++rest)∧s3.os=os∧s3.gens=s1.gens
    | .brk=>R (.ok .next) s3
    | .ret v=>R (.ok (.ret v)) s3) (notedBy (model prog w) A (envOf name scope L a cd) fun e s'=>R (.error e) s') s1)
  (done:∀ (s1:Shared) own p' u',J [] own→Fr g L s1.heap (mm x1 x2 m0 p' u')→News g L s1.heap own→s1.os=os→AllBare s1.gens→R (.ok .next) s1)
  {ps:List Pr} {own priv:List (Addr × Obj)} {rem:List Value} {p' u':Option Value} (hJ:J ps own) (hF:Fr g L s.heap (mm x1 x2 m0 p' u')) (N:News g L s.heap ((ga,oG)::(own++priv))) (hps:All2 (As g) rem ps) (G:GenAt prog w A B stk lvs gn rem priv s.gens) (hos:s.os=os) (hb:AllBare s.gens)
  (hk:scope.kind=.function:=by rfl) (hl1:(envOf name scope L a cd).kindOf x1=some .local:=by rfl) (hl2:(envOf name scope L a cd).kindOf x2=some .local:=by rfl) :
  codeAny (model prog w) A (.forLoop (.Tuple [.Name x1 q1,.Name x2 q2] kk pos) (.ref ga) body [] (envOf name scope L a cd)) R s:=Pb w A s prog g L os name scope a cd x1 x2 q1 q2 pos kk body R m0 B stk ga gn lvs oG ps own priv rem p' u' J hh zq hlim hG hga hLB hstack hown step done hJ hF N hps G hos hb hk hl1 hl2
end
end Mine
namespace Mine
open PySem.Calls
noncomputable def Bv(c r x:Str):Str:=if (Builtin.Str.occurrences x c 0 x.length 1).isEmpty=true then x else Txt.replace x c r
theorem Mh(k:Str)(v:Value)(l:List (Str × Value)):(fun y=>List.lookup y ((k,v)::l))=(fun y=>if y=k then some v else List.lookup y l):=by
 funext y
 rw [List.lookup_cons]
 by_cases q:y=k
 ·subst q;simp
 ·rw [if_neg q]
  have:(y == k)=false:=by simpa using q
  rw [this]
theorem m1_eq{a:Str}{v p:Option Value}{m0:Str→Option Value}:(fun y=>if y=a then v else if y=a then p else m0 y)=(fun y=>if y=a then v else m0 y):=by
 funext y
 by_cases h1:y=a<;>simp [h1]
theorem Dk{c r x:Str}{n k:Nat}(hx:x.length≤n)(hr:r.length≤k):(Bv c r x).length≤n+(n+1) * k:=by
 unfold Bv
 have h1:(x.length+1) * r.length≤(n+1) * k:=Nat.mul_le_mul (by exact(Nl fun hn1=>fk [_,_] (.e V0 V1 (.e (.a (.s V1) K1) (.s V0) K0)) rfl hx hn1)) hr
 split
 ·exact(Nl fun hn1=>fk [_,_,_] (.e V0 V1 (.e (.a (.a V1 V2) K1) V0 K0)) rfl hx hn1)
 ·unfold Txt.replace
  split
  ·exact(Nl fun hn1=>fk [_,_,_] (.e V0 V1 (.e (.a (.a V1 V2) K1) V0 K0)) rfl hx hn1)
  ·have g1:=StrLaws.occ_length_le x c 0 x.length (x.length+1)
   have gy:(Builtin.Str.glued c (Builtin.Str.partsBetween x (Builtin.Str.occurrences x c 0 x.length (x.length+1)) c.length)).length=x.length:=by rw [StrLaws.glued_between_self]
   rw [size_glued,length_partsBetween,Nat.add_sub_cancel] at gy;rw [size_glued,length_partsBetween,Nat.add_sub_cancel];have g2:(Builtin.Str.occurrences x c 0 x.length (x.length+1)).length * r.length≤(x.length+1) * r.length:=Nat.mul_le_mul_right _ g1
   exact(Nl fun hn1=>fk [_,_,_,_,_,_,_] (.e V0 V1 (.e V2 V3 (.e (.a V4 V5) V0 (.e V6 V2 (.e (.a (.a V1 V3) K1) (.a V4 V6) K0))))) rfl hx h1 (El gy) g2 hn1)
section
variable{prog:Program}{w:World}{A:Around}{E:Value→Shared→Prop}{s:Shared}{h₀:Heap}{L:Addr}{m0:Str→Option Value}{news:List (Addr × Obj)}
theorem Cb{name:Str}{scope:Scope}{a:Addr}{cd:Value}{c r x:Str}{t:Tok}{k1 k2 k3:Nat}{p1 p2 p3 p4 p5 p6 p7 p8 p9 p10 p11:Pos}{Q:Flow→Shared→Prop}
  (hF:Fr h₀ L s.heap (fun y=>if y="text" then some (.str x t) else m0 y)) (N:News h₀ L s.heap news) (htk:0<s.toks) (hx:x.length≤1048576) (hr:r.length≤14) (hcr:(c == r)=false)
  (h:∀ h' t' k,Fr h₀ L h' (fun y=>if y="text" then some (.str (Bv c r x) t') else m0 y)→News h₀ L h' news→Q .next { s with heap:=h',toks:=k+1 })
  (hbase:attributeBase (.Name "text" p5) "replace" (envOf name scope L a cd) (eval (.Name "text" p5) (envOf name scope L a cd))=eval (.Name "text" p5) (envOf name scope L a cd):=by rfl) (hline:(p6.endLine == p9.line)=true:=by rfl)
  (hk:scope.kind=.function:=by rfl) (hl:(envOf name scope L a cd).kindOf "text"=some .local:=by rfl) :
  wpAny (model prog w) A (exec (.If (.Compare (.Constant (.str c) k1 p1) [.In] [.Name "text" p2] p3) [.Assign [.Name "text" p4] (.Call (.Attribute (.Name "text" p5) "replace" p6) [.Constant (.str c) k2 p7,.Constant (.str r) k3 p8] [] p9) p10] [] p11) (envOf name scope L a cd)) Q E s:=by
 refine wpAny_If (wpAny_isTrue_Compare1 (Calls.Constant_str (ld hF rfl (in_str (wpAny_truthy_bool ?_)) hk hl)));unfold Bv at h
 cases hc:(Builtin.Str.occurrences x c 0 x.length 1).isEmpty with
 | true =>
  rw [hc] at h;exact Wp (h s.heap t s.toks hF N)
 | false =>
  rw [hc] at h;rw [if_pos (show (!false)=true from rfl)];refine wpAny_execs_cons (wpAny_Assign_Name ?_)
  refine Call_method2 hbase rfl hline (ld hF rfl ⟨"str","str.replace",F.plainAttrs_str,F.slot_str_replace,F.type_str_replace,typeIs_str _ _ _,(fun _ e=>nomatch e),?_⟩ hk hl)
  refine Calls.callWith_builtin rfl (Calls.evalArgs_plain (Calls.spliced_cons (Calls.Constant_str (Calls.spliced_cons (Calls.Constant_str (Calls.spliced_nil ?_))))))
  refine SC.replaceW (by show s.toks+1≠0;exact(fun hn1=>fk [_] (.e (.s V0) K0 K0) rfl (El hn1))) (by show s.toks+1+1≠0;exact(fun hn1=>fk [_] (.e (.a (.s V0) K1) K0 K0) rfl (El hn1))) (by show s.toks+1≠s.toks+1+1;exact(fun hn1=>fk [_] (.e (.a (.s V0) K1) (.s V0) K0) rfl (Es hn1))) hcr hx hr fun t' k=>?_
  refine stN hF N (fun h' F' N'=>?_) hk hl
  rw [m1_eq] at F';exact Wp (h h' t' k F' N')
end
end Mine
namespace Mine
open PySem.Calls
noncomputable abbrev Ai(out:Addr):Obj:={ cls:=.type "builtin_function_or_method",data:=.fields #[.builtin "list.append",.ref out] }
theorem Sa:Manifest.signature? "list.append"=some ⟨.oneArg,"list.append","append",.self,[⟨"object",.posOnly,true⟩]⟩:=by kernel_rfl
theorem Fh:builtinKind "list.append"=some .method:=by kernel_rfl
theorem Pm:Bind.lastOf "list.append"="append":=by decide +kernel
theorem Lr:Manifest.varargsMethods.contains "list.append"=false:=by decide +kernel
theorem Jh:isSubtype (.type "list") (.type "module")=pure false:=by rw [isSubtype_type];kernel_rfl
theorem Pc:(toString (Bind.lastOf "list")++toString "."++toString "append":String)="list.append":=by decide +kernel
theorem On(a v:Value):Bind.checkArgs "list.append" ⟨.oneArg,"list.append","append",.self,[⟨"object",.posOnly,true⟩]⟩ ⟨[a,v],[]⟩=pure ():=by kernel_rfl
theorem Wx:Manifest.signature? "str.join"=some ⟨.oneArg,"str.join","join",.self,[⟨"iterable",.posOnly,true⟩]⟩:=by kernel_rfl
theorem Tv:builtinKind "str.join"=some .method:=by kernel_rfl
theorem Tx:Bind.lastOf "str.join"="join":=by decide +kernel
theorem Qq:Manifest.varargsMethods.contains "str.join"=false:=by decide +kernel
theorem Lf:isSubtype (.type "str") (.type "module")=pure false:=by rw [isSubtype_type];kernel_rfl
theorem Tr:(toString (Bind.lastOf "str")++toString "."++toString "join":String)="str.join":=by decide +kernel
theorem Te(a v:Value):Bind.checkArgs "str.join" ⟨.oneArg,"str.join","join",.self,[⟨"iterable",.posOnly,true⟩]⟩ ⟨[a,v],[]⟩=pure ():=by kernel_rfl
section
variable{prog:Program}{w:World}{A:Around}{E:Value→Shared→Prop}{s:Shared}{h₀:Heap}{L:Addr}{m:Str→Option Value}{news news':List (Addr × Obj)}
noncomputable def Fx(w:World)(A:Around)(s:Shared)(prog:Program)(E:Value→Shared→Prop)(l:Addr)(its:Array Value)(v:Value)(Q:Unit→Shared→Prop):Prop :=
 ∀ (hl:s.heap.IsList l its) (h:Q () s),wpAny (model prog w) A (checkBoundCall "list.append" ⟨[.ref l,v],[]⟩) Q E s
theorem Ot:∀ {a b c d e f g h i},Fx a b c d e f g h i:=by
 refine @(Aa (Al neW)<|@(Bg neI<|let_mvar% ?n:=(fun w A s prog E l its v Q=>?_:∀ a b c d e f g h i,Fx a b c d e f g h i);?n _ _ _ _ _ _ _ _ _))
 intro hl h;unfold checkBoundCall;rw [Sa,Fh];dsimp only
 rw [if_neg (by decide)]
 refine Wb (wpAny_isInstance hl.typeIs Jh ?_);rw [Lr,Pm]
 rw [if_neg (by decide)]
 obtain⟨o,ho,hc,n,hd⟩:=hl;refine Wb ?_;unfold isType;refine Wb (wpAny_loadPart ho ?_);rw [hd];refine Wp ?_;dsimp only
 rw [if_neg (by decide)]
 refine Wb (wpAny_typeOf (T:="list") ⟨o,ho,hc⟩ ?_);dsimp only;rw [Pc,On];exact Wp h
theorem Os{wr out:Addr}{its:Array Value}{n:Nat}{v:Value}{Q:Value→Shared→Prop}(hw:s.heap.get? wr=some (Ai out))(ho:s.heap.get? out=some (listOf its n))(hsz:its.size≤sizeLine)
  (h:∀ h',Heap.SameBut out s.heap h'→h'.get? out=some (listOf (its.push v) (n+1))→Q .none { s with heap:=h' }) :
  wpAny (model prog w) A (call (.ref wr) [v]) Q E s:=by
 refine wpAny_call (codeAny_of_tree ?_)
 show wpAny _ _ (callAny (.ref wr) ⟨[v],[]⟩) _ _ _
 delta callAny;dsimp only
 refine Wb (wpAny_load hw ?_)
 show wpAny _ _ (checkBoundCall "list.append" ⟨[.ref out,v],[]⟩ >>= fun _=>again (.builtin "list.append" ⟨[.ref out,v],[]⟩)) _ _ _
 refine Wb (Ot ⟨_,ho,rfl,_,rfl⟩ (Wp ⟨Code.quiet_builtin _ (by decide +kernel),?_⟩))
 refine codeAny_builtin entry_list_append ?_
 show wpAny _ _ (updateSeq out (·.push v) >>= fun _=>ret .none) _ _ s
 refine Wb ?_;refine wpAny_updateSeq ho rfl (Wp (h _ (Heap.SameBut.update ..) ?_))
 rw [Heap.get?_update_self _ ho (by rw [mapSeq_push];rfl),mapSeq_push]
theorem Hg{wr out:Addr}{its:Array Value}{n:Nat}{v:Value}{Q:Value→Shared→Prop}(hF:Fr h₀ L s.heap m)(N:News h₀ L s.heap news)(hw:(wr,Ai out)∈news)(U:Upd out (listOf its n) (listOf (its.push v) (n+1)) news news')(hsz:its.size≤sizeLine)
  (h:∀ h',Fr h₀ L h' m→News h₀ L h' news'→Q .none { s with heap:=h' }):wpAny (model prog w) A (call (.ref wr) [v]) Q E s:=by
 obtain⟨pre,post,rfl,rfl,a,b⟩:=U.split;have z:=N (out,listOf its n) (List.mem_append.mpr (.inr (.head _)))
 exact Os (N _ hw).1 z.1 hsz fun h' hs ho'=>h h' (hF.change hs z.2.1 z.2.2) (news_set N a b hs ho')
noncomputable def Dg(w:World)(A:Around)(s:Shared)(prog:Program)(E:Value→Shared→Prop)(x:Str)(t:Tok)(v:Value)(Q:Unit→Shared→Prop):Prop :=
 ∀ (h:Q () s),wpAny (model prog w) A (checkBoundCall "str.join" ⟨[.str x t,v],[]⟩) Q E s
theorem Hl:∀ {a b c d e f g h i},Dg a b c d e f g h i:=by
 refine @(Aa (Al neW)<|@(Bg neI<|let_mvar% ?n:=(fun w A s prog E x t v Q=>?_:∀ a b c d e f g h i,Dg a b c d e f g h i);?n _ _ _ _ _ _ _ _ _))
 intro h;unfold checkBoundCall;rw [Wx,Tv];dsimp only
 rw [if_neg (by decide)]
 refine Wb (wpAny_isInstance (typeIs_str _ _ _) Lf ?_);rw [Qq,Tx]
 rw [if_neg (by decide)]
 refine Wb ?_;unfold isType;refine Wb (Wp (Wp ?_))
 rw [if_neg (by decide)]
 refine Wb (wpAny_typeOf (T:="str") (typeIs_str _ _ _) ?_);dsimp only;rw [Tr,Te];exact Wp h
theorem Tg{b l:Addr}{x:Str}{t:Tok}{ds:List (Str × Tok)}{Q:Value→Shared→Prop}(hb:s.heap.get? b=some { cls:=.type "builtin_function_or_method",data:=.fields #[.builtin "str.join",.str x t] })
  (hl:s.heap.IsList l (strValues ds).toArray) (hok:JoinOk x (ds.map (·.1))=true) (h:∀ t' k,Q (.str (Txt.join x (ds.map (·.1))) t') { s with toks:=k }) :
  wpAny (model prog w) A (call (.ref b) [.ref l]) Q E s:=by
 unfold JoinOk at hok;rw [Bool.not_eq_true'] at hok;refine wpAny_call (codeAny_of_tree ?_)
 show wpAny _ _ (callAny (.ref b) ⟨[.ref l],[]⟩) _ _ _
 unfold callAny;dsimp only;refine Wb (wpAny_load hb ?_)
 show wpAny _ _ (checkBoundCall "str.join" ⟨[.str x t,.ref l],[]⟩ >>= fun _=>again (.builtin "str.join" ⟨[.str x t,.ref l],[]⟩)) _ _ _
 refine Wb (Hl (Wp ⟨Code.quiet_builtin _ (by decide +kernel),?_⟩))
 refine codeAny_builtin F.entry_str_join ?_
 rw [Around.under_plainId (by decide +kernel)]
 refine meets_str_join_list x t l ds hok prog w A (wants Q E) s ⟨hl,post_join ds ⟨joinFit_length hok,?_⟩⟩;exact h
end
end Mine
namespace Mine
open PySem.Calls PySem.Builtin PySem.Builtin.List
theorem Bo{c:Prop}[Decidable c]{a b:Prop}(h1:c→a)(h2:¬ c→b):if c then a else b:=by
 by_cases h:c
 ·rw [if_pos h];exact h1 h
 ·rw [if_neg h];exact h2 h
noncomputable abbrev Qg:Obj:={ cls:=.type "slice",data:=.fields #[.none,.none,.none] }
theorem Ea:typeLookup (.type "slice") "__index__"=pure none:=by rw [typeLookup_type,builtinLookup_eq_fast];kernel_rfl
section
variable{prog:Program}{w:World}{A:Around}{E:Value→Shared→Prop}{s:Shared}{h₀:Heap}{L:Addr}{m:Str→Option Value}{news:List (Addr × Obj)}
theorem Wc{M:Model}{l:List Value}{Q:Unit→Shared→Prop}(h:Q () s):wpAny M A (letGo l) Q E s:=by
 induction l with
 | nil=>exact Wp h
 | cons a r ih=>unfold letGo;exact Wb (wpAny_holding (wpAny_point ih))
theorem Uu{M:Model}{l:Addr}{its:Array Value}{n:Nat}{f:Array Value→Array Value}{Q:Unit→Shared→Prop}(hl:s.heap.get? l=some (listOf its n))(hz:its.size≤sizeLine)(hf:f its=#[])
  (h:∀ h' n',Heap.SameBut l s.heap h'→h'.get? l=some (listOf #[] n')→Q () { s with heap:=h' }):wpAny M A (updateSeq l f) Q E s:=by
 have e:Obj.mapSeq f (listOf its n)=listOf #[] (if (f its).size == its.size then n else n+1):=by unfold Obj.mapSeq;simp only [hf]
 refine wpAny_updateSeq hl rfl (h _ (if (f its).size == its.size then n else n+1) (Heap.SameBut.update ..) ?_) hz (by rw [hf];exact Nat.zero_le _)
 rw [Heap.get?_update_self _ hl (by rw [e];rfl),e]
noncomputable def Ly(w:World)(A:Around)(s:Shared)(prog:Program)(E:Value→Shared→Prop)(l sl:Addr)(its:Array Value)(n:Nat)(Q:Unit→Shared→Prop):Prop :=
 ∀ (hl:s.heap.get? l=some (listOf its n)) (hs:s.heap.get? sl=some Qg) (hz:its.size≤sizeLine) (h:∀ h' n',Heap.SameBut l s.heap h'→h'.get? l=some (listOf #[] n')→Q () { s with heap:=h' }),wpAny (model prog w) A (delItem (.ref l) (.ref sl)) Q E s
theorem del_all:∀ {a b c d e f g h i j},Ly a b c d e f g h i j:=by
 refine @(Aa (Al neW)<|@(Ee neI<|let_mvar% ?n:=(fun w A s prog E l sl its n Q=>?_:∀ a b c d e f g h i j,Ly a b c d e f g h i j);?n _ _ _ _ _ _ _ _ _ _))
 intro hl hs hz h
 refine wpAny_delItem_slot ⟨_,hl,rfl⟩ (by decide) F.slot_list_delitem ?_
 refine wpAny_call_entry F.slot_list_delitem ⟨_,hl,rfl⟩ F.entry_list_delitem ?_ (F.args_list_delitem_2 _ _);unfold Builtin.«list.__delitem__»;refine Wb (wpAny_of_eq (a:=(.ref l,[.ref sl])) rfl ?_);dsimp only;refine Wb ?_;unfold listSubscript?;refine Wb (wpAny_specialOf (T:="slice") ⟨_,hs,rfl⟩ Ea ?_);refine Wp ?_;dsimp only;refine Wb (wpAny_typeOf (T:="slice") ⟨_,hs,rfl⟩ ?_)
 rw [if_neg (by decide +kernel)]
 refine Wb ?_;unfold listSliceParts;dsimp only;refine Wb (wpAny_field hs rfl (x:=.none) rfl ?_)
 rw [if_pos (by decide)]
 refine Wb (Wp ?_)
 rw [if_neg (by decide)]
 refine Wb (wpAny_field hs rfl (x:=.none) rfl ?_);refine Wb (Wp ?_);refine Wb (wpAny_field hs rfl (x:=.none) rfl ?_);refine Wb (Wp (Wp ?_));refine Wb (m:=listItems _) (Wb (wpAny_seqItems hl rfl (Wp ?_)));refine Wb (wpAny_of_eq (a:=((0:Int),(its.size:Int),(1:Int))) rfl ?_);refine Wb (wpAny_rule (Wb ?_))
 refine Uu hl hz (congrArg List.toArray (List.filterMap_eq_nil_iff.mpr fun x hx=>if_pos ?_)) fun h' n' hsb ho=>?_
 ·have hlt:x.2<its.toList.length:=by
   obtain⟨a,i⟩:=x;have:=List.mem_zipIdx hx
   exact(Nt fun hn1=>fk [_,_] (.e (.s V0) (.a K0 V1) (.e V1 V0 K0)) rfl this.2.1 hn1)
  show (if (1:Int) > 0 then decide ((0:Int)≤(x.2:Int)) && decide ((x.2:Int)<(its.size:Int)) && (((x.2:Int) - 0) % 1 == 0) else _)=true
  rw [if_pos (by decide)]
  have:(x.2:Int)<(its.size:Int):=by
   rw [Array.length_toList] at hlt
   omega
  simp [this,Int.emod_one]
 ·exact Wb (Wc (Wp ⟨_,rfl,h h' n' hsb ho⟩))
noncomputable def Ic(w:World)(A:Around)(s:Shared)(prog:Program)(E:Value→Shared→Prop)(h₀:Heap)(L:Addr)(m:Str→Option Value)(news:List (Addr × Obj))(l:Addr)(its:Array Value)(n:Nat)(news':Nat→List (Addr × Obj))(Q:Unit→Shared→Prop):Prop :=
 ∀ (hF:Fr h₀ L s.heap m) (N:News h₀ L s.heap news) (U:∀ n',Upd l (listOf its n) (listOf #[] n') news (news' n')) (hz:its.size≤sizeLine) (h:∀ h' n',Fr h₀ L h' m→News h₀ L h' (news' n')→Q () { s with heap:=h' }),wpAny (model prog w) A (delItem (.ref l) (.ref s.heap.objs.size)) Q E { s with heap:=s.heap.push Qg }
theorem Tl:∀ {w A s prog E h₀ L m news l its n news' Q},Ic w A s prog E h₀ L m news l its n news' Q:=by
 refine @(Aa (Al neW)<|@(Cp neI<|let_mvar% ?n:=(fun w A s prog E h₀ L m news l its n news' Q=>?_:∀ a b c d e f g h i j k l m n,Ic a b c d e f g h i j k l m n);?n _ _ _ _ _ _ _ _ _ _ _ _ _ _))
 intro hF N U hz h;obtain⟨pre,post,e1,_,_,_⟩:=(U 0).split
 have z:=N (l,listOf its n) (by rw [e1];exact List.mem_append.mpr (.inr (.head _)))
 refine del_all (Heap.get?_push_of_some _ z.1) (Heap.get?_push_size _ rfl) hz fun h' n' hsb ho'=>?_
 obtain⟨pre,post,e1,e2,a,b⟩:=(U n').split;refine h h' n' (Fr.change (Fr.pushS hF _) hsb z.2.1 z.2.2) ?_;rw [e2];rw [e1] at N
 exact news_set (fun p hp=>⟨Heap.get?_push_of_some _ (N p hp).1,(N p hp).2⟩) a b hsb ho'
def BmP(q:Addr)(h:Heap):Prop:=∃ id self,h.get? q=some { cls:=.type "builtin_function_or_method",data:=.fields #[.builtin id,self] }
theorem Ce{M:Model}{env:Env}{pos:Pos}{first:List Value}{Q:Value→Shared→Prop}{q:Addr}{e:Expr}{rest:List Expr}(h:wpAny M A (spliced (backTo pos (starEach (e::rest) env))) (fun vs s₁=>BmP q s₁.heap∧wpAny M A (call (.ref q) (first++vs)) Q E s₁) E s)
  (he:starEach (e::rest) env=(false,eval e env)::starEach rest env:=by rfl) (hplain:(backTo pos (starEach rest env)).any (·.1)=false:=by rfl) :
  wpAny M A (callWith pos (.ref q) first (backTo pos (starEach (e::rest) env)) []) Q E s:=by
 rw [he] at h ⊢
 refine callWith_of (P:=BmP q) (by show ((false || (backTo pos (starEach rest env)).any (·.1)) || false)=false;rw [hplain];rfl) (fun h X=>?_) (evalArgs_plain h)
 obtain⟨id,self,ho⟩:=X;exact⟨.machine,.inr (.inl rfl),(Looks.ld (part:=none) ho).andThen .now⟩
end
end Mine
namespace Mine
open PySem.Calls
theorem nnt:¬ (!true)=true:=by decide
theorem Fr.to{g:Heap}{L:Addr}{h:Heap}{m m':Str→Option Value}(F:Fr g L h m)(e:m=m'):Fr g L h m':=e ▸ F
theorem m1_over{a:Str}{v v':Option Value}{m0:Str→Option Value}:(fun y=>if y=a then v else if y=a then v' else m0 y)=(fun y=>if y=a then v else m0 y):=by
 funext y
 by_cases h1:y=a
 ·simp [h1]
 ·simp [h1]
noncomputable def Bq(pv:Bool)(x:Str):Str:=match pv with | true=>x | false=>Txt.strip x
theorem Se(pv:Bool)(x:Str):(Bq pv x).length≤x.length:=by
 cases pv with
 | true=>exact Nat.le_refl _
 | false =>
  show (Txt.strip x).length≤x.length
  unfold Txt.strip Txt.stripBy
  split
  ·exact Nat.le_refl _
  ·exact le_strSub _ _ _
end Mine
namespace Mine
open PySem.Calls
theorem Ca{M:Model}{A:Around}{f:Value}{args:List Value}{Q:Value→Shared→Prop}{E:Value→Shared→Prop}{g:Heap}{L:Addr}{m:Str→Option Value}{news:List (Addr × Obj)}{s:Shared}{os:OsState}(own rest:List (Addr × Obj))(F:Fr g L s.heap m)(N:News g L s.heap news)(hos:s.os=os)(hb:AllBare s.gens)
  (h1:∀ p∈own,p∈news) (h2:∀ p∈rest,p∈news) (h3:∀ p∈rest,p.1∉own.map (·.1))
  (h:∀ g₂,Ok g₂ os own s→(∀ b o,g.get? b=some o→g₂.get? b=some o)→(∀ p∈rest,g₂.get? p.1=some p.2)→(∀ s' own',Ok g₂ os own' s'→Fr g L s'.heap m∧News g L s'.heap (own'++rest)∧s'.os=os∧AllBare s'.gens) →
   codeAny M A (.call f ⟨args,[]⟩) (fun r s'=>match r with | .ok (.ret v)=>Q v s' | .ok _=>False | .error e=>E e s') s):wpAny M A (call f args) Q E s:=by
 obtain⟨a,b,c,d⟩:=Eb (own:=own) (rest:=rest) F N hos hb h1 h2 h3;exact wpAny_call (h _ a b c d)
theorem Fn{x:Str}(h:((x.length:Int) != 0)=true):x≠Str.empty:=fun e=>by rw [e] at h;revert h;decide
theorem Fl{x:Str}(h:¬ ((x.length:Int) != 0)=true):x=Str.empty:=Cj (by simpa using h)
noncomputable def Lm(x:Str):Str:=Bv "\r" "&#xD;" (Bv ">" "&gt;" (Bv "<" "&lt;" (Bv "&" "&amp;" x)))
noncomputable def Di(x:Str):Str:=Bv "\r" "&#xD;" (Bv "\n" "&#xA;" (Bv "\t" "&#x9;" (Bv "\"" "&quot;" (Bv "<" "&lt;" (Bv "&" "&amp;" x)))))
noncomputable def Bn(rs:Bool)(D:Str):List Str:=if rs=true∧D≠Str.empty then [Lm D] else []
theorem Jx{rs:Bool}{D:Str}(h:D=Str.empty∨rs=false):Bn rs D=[]:=by
 unfold Bn;refine if_neg fun z=>?_
 rcases h with h | h
 ·exact z.2 h
 ·rw [h] at z;exact Bool.false_ne_true z.1
theorem Pa{rs:Bool}{D:Str}(h:D≠Str.empty)(hr:rs=true):Bn rs D=[Lm D]:=if_pos ⟨hr,h⟩
theorem Cf{rs pv:Bool}:Bn rs (Bq pv (Txt.join Str.empty (([]:List (Str × Tok)).map (·.1))))=[]:=by
 refine Jx (.inl ?_)
 cases pv with
 | true=>rfl
 | false=>exact(by decide +kernel:Txt.strip (Txt.join Str.empty [])=Str.empty)
theorem Fd{n:Nat}(h:n≤sizeLine):(n:Int)<2 ^ 63:=by
 rw [sizeLine_eq] at h
 have:(2:Int) ^ 63=9223372036854775808:=by decide
 lia
theorem Ff(rs:Bool)(D:Str):(Bn rs D).length≤1:=by
 unfold Bn;split
 ·exact Nat.le_refl _
 ·exact Nat.zero_le _
theorem oz_of{ol ol2:List (Str × Tok)}{l:List Str}(e:ol2.map (·.1)=ol.map (·.1)++l)(hl:l.length≤9)(ho:ol.length≤5000):(strValues ol2).toArray.size≤sizeLine:=by
 have h:=congrArg List.length e
 simp only [List.length_map,List.length_append] at h
 rw [sizeLine_eq]
 simp only [strValues,List.size_toArray,List.length_map]
 exact(Nl fun hn1=>fk [_,_,_] (.e V0 (.k 9) (.e V1 (.k 5000) (.e V2 (.a V1 V0) (.e (.s (.k 16777216)) V2 K0)))) rfl hl ho (El h) hn1)
theorem Pl(p:List Value)(y:Value):kl_last (p++[y])=some (p,y):=by
 induction p with
 | nil=>rfl
 | cons a p ih =>
  cases p with
  | nil=>rfl
  | cons b p=>simp only [List.cons_append,kl_last] at ih ⊢;rw [ih]
theorem Pw{prog:Program}{w:World}{A:Around}{E:Value→Shared→Prop}{s:Shared}{h₀:Heap}{L D:Addr}{m:Str→Option Value}{news news':List (Addr × Obj)}{p:List Value}{y:Value}{n:Nat}{Q:Value→Shared→Prop}(F:Fr h₀ L s.heap m)(N:News h₀ L s.heap news)(U:Upd D (listOf (p++[y]).toArray n) (listOf p.toArray (n+1)) news news')
  (hz:p.length+1≤sizeLine) (h:∀ h',Fr h₀ L h' m→News h₀ L h' news'→Q y { s with heap:=h' }):wpAny (model prog w) A (call (.builtin "list.pop") [.ref D]) Q E s :=
 kl_pop F N (Pl p y) U (by simp only [List.length_append,List.length_cons,List.length_nil];exact hz) h
theorem Ku{uri p:Str}:∀ {l:List Pr} {seen seen':List Str},scan uri l seen=(some p,seen')→(uri,p)∈l
 | [],_,_,h=>by simp [scan] at h
 | q::r,seen,_,h=>by
  unfold scan at h
  split at h
  ·rename_i c
   injection h with h1 h2
   injection h1 with h1
   rw [← h1,← c.1];exact .head _
  ·exact .tail _ (Ku h)
theorem Fb{uri p:Str}:∀ {l:List Pr},find uri l=some p→(uri,p)∈l
 | [],h=>by simp [find] at h
 | q::r,h=>by
  unfold find at h
  split at h
  ·rename_i c
   injection h with h1
   rw [← h1,← c];exact .head _
  ·exact .tail _ (Fb h)
theorem Pd{p tag:Str}(hp:p.length≤200)(ht:tag.length≤200):(full p tag).length≤500:=by
 unfold full
 split
 ·exact(Nl fun hn1=>fk [_] (.e V0 (.k 200) (.e (.s (.k 500)) V0 K0)) rfl ht hn1)
 ·rw [size_cat,size_cat];have:(Str.ofString ":").length=1:=rfl;exact(Nl fun hn1=>fk [_,_,_] (.e V0 (.k 200) (.e V1 (.k 200) (.e V2 K1 (.e (.s (.k 500)) (.a (.a V0 V2) V1) K0)))) rfl hp ht (El this) hn1)
noncomputable def Px(decl ns:List Pr)(uri tag txt:Str)(o:Option Pr):Prop :=
 ∀ (h:qn decl ns uri tag=some (txt,o)) (hd:∀ q∈decl,q.2.length≤200) (hn:∀ q∈ns,q.2.length≤200) (ht:tag.length≤200),txt.length≤500
theorem Wn:∀ {a b c d e f},Px a b c d e f:=by
 refine @(Cp neI<|let_mvar% ?n:=(fun decl ns uri tag txt o=>?_:∀ a b c d e f,Px a b c d e f);?n _ _ _ _ _ _)
 intro h hd hn ht;unfold qn at h
 split at h
 ·rename_i p _ e
  injection h with h;injection h with h _
  rw [← h];exact Pd (hd _ (Ku e)) ht
 ·split at h
  ·injection h with h;injection h with h _;rw [← h];exact(Nl fun hn1=>fk [_] (.e V0 (.k 200) (.e (.s (.k 500)) V0 K0)) rfl ht hn1)
  ·split at h
   ·rename_i p e
    injection h with h;injection h with h _
    rw [← h];exact Pd (hn _ (Fb e)) ht
   ·split at h
    ·injection h with h;injection h with h _;rw [← h];exact(Nl fun hn1=>fk [_] (.e V0 (.k 200) (.e (.s (.k 500)) V0 K0)) rfl ht hn1)
    ·cases h
theorem Bw(ol:List (Str × Tok))(x:Str)(t:Tok):(strValues (ol++[(x,t)])).toArray=(strValues ol).toArray.push (.str x t):=by
 unfold strValues;simp
end Mine
namespace Mine
open PySem.Calls
theorem Gl{g:Heap}{os:OsState}{own rest:List (Addr × Obj)}{s:Shared}(H:Ok g os own s)(r:∀ p∈rest,g.get? p.1=some p.2){a b:Addr}{o o':Obj}(ha:(a,o)∈own)(hb:(b,o')∈rest):a≠b:=fun e=>by
 have h1:=(H.own _ ha).2;have h2:=r _ hb;rw [e] at h1;rw [h1] at h2
 cases h2
section
variable{hs:Nat→Int}{tk:Nat→Tok}{c2 c3 c4 c5 c6 c7 c8 c13:Value}{wr da de ns pm pr:Addr}{rs rd:Bool}{ig:Int}{n:Nat}{h:Int}{k:Value}{b:Bool}
theorem put_rd:(putL "_root_done" h k (.bool b) (wd hs tk c2 c3 c4 c5 c6 c7 c8 c13 wr da de ns pm pr rs rd ig),putN "_root_done" (wd hs tk c2 c3 c4 c5 c6 c7 c8 c13 wr da de ns pm pr rs rd ig) n)=(wd hs tk c2 c3 c4 c5 c6 c7 c8 c13 wr da de ns pm pr rs b ig,n):=rfl
theorem put_rs:(putL "_root_seen" h k (.bool b) (wd hs tk c2 c3 c4 c5 c6 c7 c8 c13 wr da de ns pm pr rs rd ig),putN "_root_seen" (wd hs tk c2 c3 c4 c5 c6 c7 c8 c13 wr da de ns pm pr rs rd ig) n)=(wd hs tk c2 c3 c4 c5 c6 c7 c8 c13 wr da de ns pm pr b rd ig,n):=rfl
end
end Mine
namespace Mine
open PySem.Calls
section
variable{prog:Program}{w:World}{A:Around}{E:Value→Shared→Prop}{s:Shared}
theorem if_not'{α:Type}{M:Model}{c:Bool}{a b:Sem α}{Q:α→Shared→Prop}(hc:c=false)(h:wpAny M A b Q E s):wpAny M A (if c=true then a else b) Q E s:=by
 subst hc;exact h
theorem Po:typeLookup (.type "list") "append"=pure (some (.builtin "list.append")):=by rw [typeLookup_type,builtinLookup_eq_fast];kernel_rfl
theorem We:typeLookup (.type "method_descriptor") "__get__"=pure (some (.builtin "method_descriptor.__get__")):=by rw [typeLookup_type,builtinLookup_eq_fast];kernel_rfl
theorem Wf:typeLookup (.type "method_descriptor") "__set__"=pure none:=by rw [typeLookup_type,builtinLookup_eq_fast];kernel_rfl
theorem Wd:typeLookup (.type "method_descriptor") "__delete__"=pure none:=by rw [typeLookup_type,builtinLookup_eq_fast];kernel_rfl
theorem Ul:Slot "method_descriptor" "__get__" "method_descriptor.__get__" :=
 .of (owner:="method_descriptor") (n:="__get__") (by rw [typeLookup_type,builtinLookup_eq_fast];kernel_rfl) (by decide +kernel) (by decide +kernel) (by decide +kernel)
  (by first | exact .inl (by decide +kernel) | exact .inr (by decide +kernel)) (by rw [isSubtype_type];kernel_rfl)
theorem Rh:entryFor table "method_descriptor.__get__"=some Builtin.«method_descriptor.__get__»:=entryFor_of_tree (by kernel_rfl)
theorem Tf(a b c:Value):argsOk "method_descriptor.__get__" ⟨[a,b,c],[]⟩:=by unfold argsOk;kernel_rfl
theorem Qp:typeOf (.builtin "list.append")=pure (.type "method_descriptor"):=by show builtinType _=_;rw [builtinType_eq_fast];kernel_rfl
theorem sub_list_list:isSubtype (.type "list") (.type "list")=pure true:=by rw [isSubtype_type];kernel_rfl
theorem Ws{l:Addr}{P:PySem.Fin→Shared→Prop}(hT:s.TypeIs (.ref l) "list")(h:P (.done (.ret (.ref s.heap.objs.size))) { s with heap:=s.heap.push (Ai l) }) :
  wpAny (model prog w) A (Builtin.«method_descriptor.__get__» ⟨[.builtin "list.append",.ref l,.type "list"],[]⟩) P E s:=by
 unfold Builtin.«method_descriptor.__get__»
 refine Wb (wpAny_of_eq (a:=(.builtin "list.append",some (.ref l),some (.type "list"))) (by first | rfl | kernel_rfl) ?_)
 dsimp only
 rw [if_neg (by decide +kernel)]
 refine Wb ?_;refine Wb ?_
 refine wpAny_of_eq (a:=(Str.ofString "append",.type "list")) (by first | rfl | kernel_rfl) ?_
 dsimp only;refine Wb (wpAny_isInstance hT sub_list_list ?_);refine if_not' rfl ?_;exact Wp (Wb (wpAny_newObj_type (Wp h)))
noncomputable def Fv(w:World)(A:Around)(s:Shared)(prog:Program)(E:Value→Shared→Prop)(l:Addr)(its:Array Value)(n:Nat)(Q:Value→Shared→Prop):Prop :=
 ∀ (ho:s.heap.get? l=some (listOf its n)) (h:∀ tk,Q (.ref s.heap.objs.size) { s with heap:=s.heap.push (Ai l),toks:=tk }),wpAny (model prog w) A (getAttr (.ref l) "append" true) Q E s
theorem Oq:∀ {a b c d e f g h i},Fv a b c d e f g h i:=by
 refine @(Aa (Al neW)<|@(Bg neI<|let_mvar% ?n:=(fun w A s prog E l its n Q=>?_:∀ a b c d e f g h i,Fv a b c d e f g h i);?n _ _ _ _ _ _ _ _ _))
 intro ho h;obtain⟨hp,g,d,tk,os⟩:=s
 have hT:∀ tk',(⟨hp,g,d,tk',os⟩:Shared).TypeIs (.ref l) "list":=fun _=>⟨_,ho,rfl⟩
 have f3:=F.slot_list_getattribute.lookup;have f4:=F.slot_list_getattribute.bind (.ref l);have f5:=am_list_getattr_none;have f6:=Po;unfold getAttr getAttrBy
 repeat (any_goals (first | assumption | exact hT _ | ((with_reducible show wpAny _ _ (call (.builtin "list.__getattribute__") _ _) _ _ _);refine wpAny_call_entry F.slot_list_getattribute (hT _) am_entry_list_getattribute ?_ (F.args_list_getattribute_2 _ _)) | wp_step))
 rw [Fh];have f7:=We;have f8:=Wf;have f9:=Wd
 repeat (any_goals (first | assumption | exact hT _ | ((with_reducible show wpAny _ _ (call (.builtin "method_descriptor.__get__") _ _) _ _ _);refine wpAny_call_entry Ul Qp Rh (Ws (hT _) ⟨_,rfl,?_⟩) (Tf _ _ _)) | wp_step | rw [Fh]))
 refine⟨_,rfl,?_⟩
 repeat (any_goals (first | assumption | exact h _ | wp_step))
theorem Li{h₀:Heap}{L:Addr}{m:Str→Option Value}{news:List (Addr × Obj)}{l:Addr}{its:Array Value}{n:Nat}{Q:Value→Shared→Prop}(F:Fr h₀ L s.heap m)(N:News h₀ L s.heap news)(hm:(l,listOf its n)∈news)
  (h:∀ x h' tk,Fr h₀ L h' m→News h₀ L h' ((x,Ai l)::news)→(∀ p∈news,p.1<x)→Q (.ref x) { s with heap:=h',toks:=tk }):wpAny (model prog w) A (getAttr (.ref l) "append" true) Q E s :=
 Oq (N _ hm).1 fun tk=>h _ _ tk (Fr.pushS F _) (News.push F N _) fun p hp=>Heap.lt_size (N p hp).1
end
end Mine
namespace Mine
open PySem.Calls
noncomputable abbrev Bb(P:Params)(l:List ((Str × Tok) × (Str × Tok))):List DictEntry:=l.map fun p=>⟨PyData.keyHash P p.1.1,.str p.1.1 p.1.2,.str p.2.1 p.2.2⟩
noncomputable abbrev Dn(l:List ((Str × Tok) × (Str × Tok))):List (Str × Value):=l.map fun p=>(p.1.1,.str p.2.1 p.2.2)
section
variable{prog:Program}{w:World}{A:Around}{E:Value→Shared→Prop}{s:Shared}{h₀:Heap}{L:Addr}{m:Str→Option Value}{news:List (Addr × Obj)}
theorem Qj:∀ l:List ((Str × Tok) × (Str × Tok)),Pairs (strKind prog w) (Bb w.params l) (Dn l)
 | []=>.nil
 | p::l=>.cons (strKind_is _ _ _ _) rfl (Qj l)
theorem Hc{l:List ((Str × Tok) × (Str × Tok))}{n:Nat}(hn:(l.map (·.1.1)).Nodup):(dictOf (Bb w.params l) n).IsDictOf (strKind prog w) (Dn l):=by
 refine⟨_,n,⟨rfl,rfl,rfl⟩,rfl,?_,Qj l,?_⟩
 ·intro e he
  simp only [List.mem_toArray,List.mem_map] at he
  obtain⟨p,_,rfl⟩:=he;exact⟨p.1.1,strKind_is _ _ _ _,rfl⟩
 ·rw [List.map_map];exact hn
theorem Hd{d:Addr}{l:List ((Str × Tok) × (Str × Tok))}{n:Nat}{pl:Sem Bool}{Q:Value × List Value→Shared→Prop}(hd:s.heap.get? d=some (dictOf (Bb w.params l) n))(h:Q (.builtin "dict.items",[.ref d]) s) :
  wpAny (model prog w) A (getMethod (.ref d) "items" pl) Q E s :=
 getMethod_builtin ⟨_,hd,rfl⟩ PySem.F.plainAttrs_dict PySem.F.slot_dict_items PySem.F.type_dict_items (fun a e=>by cases e;exact⟨_,hd,rfl⟩) h
theorem Qi{d:Addr}{l:List ((Str × Tok) × (Str × Tok))}{n:Nat}{Q:Value→Shared→Prop}(F:Fr h₀ L s.heap m)(N:News h₀ L s.heap news)(hd:s.heap.get? d=some (dictOf (Bb w.params l) n))(hn:(l.map (·.1.1)).Nodup)(lo:(d == sysModules)=false)
  (h:∀ (D:Addr) h',Fr h₀ L h' m→News h₀ L h' ((D,{ cls:=.type "dict_items",data:=.fields #[.ref d] })::news)→(∀ q∈news,q.1<D)→(∀ b o,s.heap.get? b=some o→h'.get? b=some o)→Q (.ref D) { s with heap:=h' }) :
  wpAny (model prog w) A (call (.builtin "dict.items") [.ref d]) Q E s:=by
 have hD:s.heap.DictOf (strKind prog w) d (Dn l):=Heap.dictOf_iff.mpr ⟨_,hd,Hc hn⟩
 exact call_meetsIn PySem.F.slot_dict_items hD.typeIs PySem.F.entry_dict_items (PySem.F.args_dict_items_1 _) (meets_dict_items (strKind prog w) d lo) ⟨⟨_,hD⟩,h _ _ (F.push _) (News.push F N _) (fun q hq=>Heap.lt_size (N q hq).1) (fun b o e=>Heap.get?_push_of_some _ e)⟩
theorem Tc{k:Str}{v:Value}(h:(strKind prog w).is k v=true):∃ t,v=.str k t:=by
 cases v<;>simp [PySem.strKind,Value.isStrOf] at h
 exact⟨_,by rw [h]⟩
abbrev Lu(q:Addr × Obj)(p:(Str × Tok) × (Str × Tok)):Prop:=∃ t,q.2=Ad #[.str p.1.1 t,.str p.2.1 p.2.2]
theorem tl_of{h:Heap}:∀ (as:List Addr) (l:List ((Str × Tok) × (Str × Tok))),as.length=l.length →
  (∀ (j:Nat) (a:Addr),as[j]?=some a→∃ key k x,(Dn l)[j]?=some (k,x)∧(strKind prog w).is k key=true∧h.get? a=some { cls:=.type "tuple",data:=.seq #[key,x] }) →
  ∃ tl:List (Addr × Obj),tl.map (·.1)=as∧All2 Lu tl l∧∀ q∈tl,h.get? q.1=some q.2
 | [],[],_,_=>⟨[],rfl,.nil,fun _ hq=>nomatch hq⟩
 | [],_::_,hl,_=>by simp at hl
 | _::_,[],hl,_=>by simp at hl
 | a::as,p::l,hl,hp=>by
  obtain⟨key,k,x,e1,e2,e3⟩:=hp 0 a rfl
  obtain⟨tl,f1,f2,f3⟩:=tl_of as l (by simpa using hl) fun j b hj=>by
   obtain⟨key',k',x',g1,g2,g3⟩:=hp (j+1) b (by simpa using hj)
   exact⟨key',k',x',by simpa using g1,g2,g3⟩
  obtain⟨t,rfl⟩:=Tc e2
  simp only [Dn,List.map_cons,List.getElem?_cons_zero,Option.some.injEq,Prod.mk.injEq] at e1
  obtain⟨rfl,rfl⟩:=e1
  exact⟨(a,_)::tl,by rw [List.map_cons,f1],.cons ⟨t,rfl⟩ f2,fun q hq=>by
   rcases List.mem_cons.mp hq with rfl | hq
   ·exact e3
   ·exact f3 q hq⟩
theorem ss_list{v d:Addr}{l:List ((Str × Tok) × (Str × Tok))}{n:Nat}{Q:Value→Shared→Prop}(hh:A.handled=none)(F:Fr h₀ L s.heap m)(N:News h₀ L s.heap news)(hd:s.heap.get? d=some (dictOf (Bb w.params l) n))(hn:(l.map (·.1.1)).Nodup)(hz:l.length≤sizeLine)
  (hv:(v,{ cls:=.type "dict_items",data:=.fields #[.ref d] })∈news)
  (h:∀ (B:Addr) tl c h' tk,All2 Lu tl l→(tl.map (·.1)).Pairwise (·<·)→(∀ q∈tl,B<q.1)→(∀ q∈news,q.1<B)→Fr h₀ L h' m→News h₀ L h' (tl++(B,listOf (tl.map fun q=>.ref q.1).toArray c)::news)→Q (.ref B) { s with heap:=h',toks:=tk }) :
  wpAny (model prog w) A (call (.type "list") [.ref v]) Q E s:=by
 obtain⟨ep,hat⟩:=KdkAt.of (Hc (prog:=prog) (w:=w) (n:=n) hn)
 refine kdx_call (knd:=strKind prog w) (kvs:=Dn l) (ep:=ep) hh ⟨_,(N _ hv).1,rfl,rfl⟩ (hat.dictAt hd) (by rw [List.length_map];exact hz) fun h' tk acc c as hk hS hl hG hacc=>?_
 obtain⟨tl,rfl,f2,f3⟩:=tl_of (h:=h') as l (by rw [hl,List.length_map]) hG.pairs
 have ea:acc=(tl.map fun q=>.ref q.1).toArray:=by rw [← Array.toArray_toList (xs:=acc),hacc,List.map_map];rfl
 subst ea
 refine h _ tl c h' tk f2 hG.rise (fun q hq=>hG.above _ (List.mem_map_of_mem hq)) (fun q hq=>Heap.lt_size (N q hq).1) (F.keeps hk) fun q hq=>?_
 rcases List.mem_append.mp hq with hq | hq
 ·exact⟨f3 q hq,kdx_fresh F (Nat.le_of_lt (hG.above _ (List.mem_map_of_mem hq)))⟩
 ·rcases List.mem_cons.mp hq with rfl | hq
  ·exact⟨hS,kdx_fresh F (Nat.le_refl _)⟩
  ·exact⟨hk _ _ (N q hq).1,(N q hq).2⟩
theorem All2.uncons{α β:Type}{P:α→β→Prop}{l:List α}{b:β}{r:List β}(h:All2 P l (b::r)):∃ a l',l=a::l'∧P a b∧All2 P l' r:=by
 cases h with | cons p q=>exact⟨_,_,rfl,p,q⟩
theorem All2.unnil{α β:Type}{P:α→β→Prop}{l:List α}(h:All2 P l ([]:List β)):l=[]:=by
 cases h;rfl
end
end Mine
namespace Mine
open PySem.Calls
theorem Rn(t:SetTable)(es:Array (Int × Value))(h:Int)(x:Value):(layNew t es h x).2.1.led=t.led:=by
 unfold layNew
 split
 ·dsimp only
  unfold SetTable.orStandIn
  split<;>rfl
 ·rfl
noncomputable def Gz(t t':SetTable)(hs:Array Int)(n:Nat)(od:Array Nat):Prop :=
 ∀ (h:t.relaid hs n=some (t',od)),t'.led=t.led∧t'.plain=t.plain
theorem Kr:∀ {a b c d e},Gz a b c d e:=by
 refine @(Eg neI<|let_mvar% ?n:=(fun t t' hs n od=>?_:∀ a b c d e,Gz a b c d e);?n _ _ _ _ _)
 intro h;unfold SetTable.relaid SetTable.laid at h
 cases e:SetTable.layClean (SetTable.sizeAbove n - 1) hs with
 | none=>rw [e] at h;cases h
 | some ow=>rw [e] at h;cases h;exact⟨rfl,rfl⟩
theorem Oa(t:SetTable)(es:Array (Int × Value))(n:Nat):(relayAll t es n).2.1.led=t.led∧(t.plain=false→(relayAll t es n).2.1.plain=false):=by
 unfold relayAll
 split
 ·rename_i t' od e
  dsimp only
  split
  ·exact⟨(Kr e).1,fun h=>(Kr e).2.trans h⟩
  ·exact⟨rfl,fun _=>rfl⟩
 ·exact⟨rfl,fun _=>rfl⟩
noncomputable def unS:Value→Str × Tok
 | .str x t=>(x,t)
 | _=>(Str.empty,0)
theorem unS_str(l:List (Str × Tok)):(strValues l).map unS=l:=by
 unfold strValues;rw [List.map_map]
 conv=>rhs;rw [← List.map_id l]
 exact List.map_congr_left fun p _=>rfl
theorem Pv{vs:List Value}{l:List (Str × Tok)}(h:vs.Perm (strValues l)):∃ l1,vs=strValues l1∧l1.Perm l:=by
 refine⟨vs.map unS,?_,?_⟩
 ·unfold strValues;rw [List.map_map]
  conv=>lhs;rw [← List.map_id vs]
  refine List.map_congr_left fun v hv=>?_
  obtain⟨p,_,rfl⟩:=List.mem_map.mp (show v∈l.map fun p=>.str p.1 p.2 from h.mem_iff.mp hv)
  rfl
 ·have:=h.map unS
  rwa [unS_str] at this
theorem has_nil(j:Nat):SetTable.has #[] j=false:=by unfold SetTable.has;simp
def Hx(t:SetTable):Prop:=7≤t.mask∧t.dummies=#[]
theorem Nu(t:SetTable)(es:Array (Int × Value))(h:Int)(x:Value)(c:Hx t):Hx (layNew t es h x).2.1:=by
 unfold layNew
 split
 ·dsimp only
  unfold SetTable.orStandIn
  split
  ·refine⟨c.1,?_⟩
   show (if SetTable.has t.dummies _ then _ else t.dummies)=#[]
   rw [c.2,has_nil];rfl
  ·refine⟨?_,rfl⟩
   show 7≤4 * _+4
   unfold SetTable.insertAt
   simp only [Array.size_append,Array.size_push]
   exact(Nl fun hn1=>fk [_,_] (.e (.a (.a (.m 4 (.a (.s V0) V1)) (.k 4)) K1) (.k 7) K0) rfl hn1)
 ·refine⟨?_,rfl⟩
  show 7≤4 * _+4
  exact(Nl fun hn1=>fk [_] (.e (.a (.a (.m 4 (.s V0)) (.k 4)) K1) (.k 7) K0) rfl hn1)
theorem Od(n:Nat):8≤SetTable.sizeAbove n:=by
 have go:∀ f k,8≤k→8≤SetTable.sizeAbove.go n f k:=by
  intro f
  induction f with
  | zero=>intro k hk;exact hk
  | succ f ih =>
   intro k hk;unfold SetTable.sizeAbove.go
   split
   ·exact ih _ (by exact(Nl fun hn1=>fk [_] (.c 2 (.k 8) V0 (.e (.a (.w V0 2) K1) (.k 8) K0)) rfl hk hn1))
   ·exact hk
 exact go 64 8 (Nat.le_refl _)
theorem Nz{t t':SetTable}{hs:Array Int}{n:Nat}{od:Array Nat}(h:t.relaid hs n=some (t',od)):Hx t':=by
 unfold SetTable.relaid SetTable.laid at h;have:=Od n
 cases e:SetTable.layClean (SetTable.sizeAbove n - 1) hs with
 | none=>rw [e] at h;cases h
 | some ow=>rw [e] at h;cases h;exact⟨by show 7≤SetTable.sizeAbove n - 1;exact(Nl fun hn1=>fk [_,_] (.e (.k 8) V0 (.e (.s V1) (.k 7) (.e V0 (.s V1) K0))) rfl this hn1 Ln.sba),rfl⟩
theorem Ks(t:SetTable)(es:Array (Int × Value))(n:Nat)(hz:0<es.size):Hx (relayAll t es n).2.1:=by
 unfold relayAll
 split
 ·rename_i t' od e
  dsimp only
  split
  ·exact Nz e
  ·exact⟨by show 7≤4 * _+4;exact(Nl fun hn1=>fk [_] (.c 4 (.s K0) V0 (.e (.a (.a (.m 4 V0) (.k 4)) K1) (.k 7) K0)) rfl hz hn1),rfl⟩
 ·exact⟨by show 7≤4 * _+4;exact(Nl fun hn1=>fk [_] (.c 4 (.s K0) V0 (.e (.a (.a (.m 4 V0) (.k 4)) K1) (.k 7) K0)) rfl hz hn1),rfl⟩
def Df(prog:Program)(w:World)(o:Obj)(ks:List Str):Prop:=∃ es ep t l,o.ExactSet∧o.data=.set es ep t∧ElemsOf (strKind prog w) es.toList∧es.toList.map (·.2)=strValues l∧(l.map (·.1)).Perm ks∧t.fits es.size=true ∧
 t.led=(!w.params.followText "set-order")∧(ks≠[]→t.plain=false)∧Hx t
section
variable{prog:Program}{w:World}{A:Around}{E:Value→Shared→Prop}{s:Shared}{h₀:Heap}{L:Addr}{m:Str→Option Value}{news:List (Addr × Obj)}
theorem Df.size{es:Array (Int × Value)}{l:List (Str × Tok)}{ks:List Str}(h1:es.toList.map (·.2)=strValues l)(h2:(l.map (·.1)).Perm ks):es.size=ks.length:=by
 have:=congrArg List.length h1;rw [List.length_map,Array.length_toList] at this;rw [this];unfold strValues;rw [List.length_map,← h2.length_eq,List.length_map]
theorem Xd(led:Bool)(h:led=(!w.params.followText "set-order")):Df prog w { cls:=.type "set",dict:=none,data:=.set #[] 0 (.fresh 0 0 led) } [] :=
 ⟨#[],0,_,[],⟨rfl,rfl,rfl⟩,rfl,fun e he=>by simp at he,rfl,.rfl,by rfl,h,fun z=>absurd rfl z,Nat.le_refl _,rfl⟩
theorem Ld{a:Addr}{o:Obj}{es es':Array (Int × Value)}{ep:Nat}{t t':SetTable}{Q:Unit→Shared→Prop}(ho:s.heap.get? a=some o)(hd:o.data=.set es ep t)(hz:es'.size<scanBound)
  (h:∀ h',Heap.SameBut a s.heap h'→h'.get? a=some { o with data:=.set es' (ep+1) t' }→Q () { s with heap:=h' }):wpAny (model prog w) A (storeSet a es' t') Q E s:=by
 refine wpAny_storeSet_of ho hd (h _ (Heap.SameBut.update ..) ?_) (fits_of_scanBound hz)
 have:=Heap.get?_update_self (Obj.putSet es' t') ho (by rw [putSet_of es' t' hd];rfl)
 rw [putSet_of es' t' hd] at this;exact this
noncomputable def Iw(w:World)(A:Around)(s:Shared)(prog:Program)(E:Value→Shared→Prop)(a:Addr)(o:Obj)(ks:List Str)(y:Str)(ty:Tok)(Q:Bool→Shared→Prop):Prop :=
 ∀ (ho:s.heap.get? a=some o) (hT:Df prog w o ks) (hy:y∉ks) (hz:ks.length<100) (h:∀ h' o',Heap.SameBut a s.heap h'→h'.get? a=some o'→Df prog w o' (y::ks)→Q true { s with heap:=h' }),wpAny (model prog w) A (setAddHashed a (.str y ty) ((strKind prog w).hash y)) Q E s
theorem Mx:∀ {w A s prog E a o ks y ty Q},Iw w A s prog E a o ks y ty Q:=by
 refine @(Aa (Al neW)<|@(Ef neI<|let_mvar% ?n:=(fun w A s prog E a o ks y ty Q=>?_:∀ a b c d e f g h i j k,Iw a b c d e f g h i j k);?n _ _ _ _ _ _ _ _ _ _ _))
 intro ho hT hy hz h;obtain⟨es,ep,t,l,hex,hd,hel,hl,hp,hf,hled,hpl,hcl⟩:=hT;have hsz:es.size=ks.length:=Df.size hl hp;have hsb:scanBound=4096:=rfl
 have hb:es.size<scanBound:=by exact(Nt fun hn1=>fk [_,_,_] (.e (.s V0) (.k 100) (.e V1 V0 (.e (.k 4096) V2 (.e V2 V1 K0)))) rfl hz (El hsz) (Es hsb) hn1)
 have hkey:(strKind prog w).is y (.str y ty)=true:=by simp [PySem.strKind,Value.isStrOf]
 unfold setAddHashed setAddHashedIn;refine wpAny_holding (Wb (wpAny_setState_of ho hd hf ?_));dsimp only;rw [byScan_of (knd:=strKind prog w) rfl hb hel]
 simp only [↓reduceIte]
 unfold setAddByScan;refine Wb ?_;refine Wb (wpAny_rule ?_);refine Wb (wpAny_setScan_of hkey ho hd hf hel ?_)
 have hnf:List.findIdx? (fun e=>(strKind prog w).is y e.2) es.toList=none:=by
  refine List.findIdx?_eq_none_iff.mpr fun e he=>?_
  have hm:e.2∈strValues l:=by rw [← hl];exact List.mem_map_of_mem he
  obtain⟨p,hpm,e2⟩:=List.mem_map.mp hm
  have hne:p.1≠y:=fun z=>hy (hp.mem_iff.mp (z ▸ List.mem_map_of_mem hpm))
  rw [← e2]
  cases hc:(strKind prog w).is y (.str p.1 p.2) with
  | false=>rfl
  | true=>exact absurd ((strKind prog w).inj _ p.1 y (by simp [PySem.strKind,Value.isStrOf]) hc) hne
 rw [hnf];dsimp only;have hperm:=layNew_perm t es ((strKind prog w).hash y) (.str y ty);have hfits:=layNew_fits t es ((strKind prog w).hash y) (.str y ty);have hl1:=Rn t es ((strKind prog w).hash y) (.str y ty);have hc1:=Nu t es ((strKind prog w).hash y) (.str y ty) hcl
 generalize hL:layNew t es ((strKind prog w).hash y) (.str y ty)=LL at hperm hfits hl1 hc1 ⊢
 obtain⟨es1,t1,wasDummy,gave⟩:=LL;dsimp only at hperm hfits hl1 hc1 ⊢;rw [Array.toList_push] at hperm
 have hgw:∀ (b:Bool) {s₁:Shared} {Q':Unit→Shared→Prop},Q' () s₁→wpAny (model prog w) A (match b with | true=>rule "set.scan.the-table-gave-way" | false=>pure ()) Q' E s₁ :=
  fun b s₁ Q' hq=>by cases b<;>first | exact Wp hq | exact wpAny_rule hq
 have hel1:ElemsOf (strKind prog w) es1.toList:=(hel.push hkey rfl).perm hperm
 have hp1:(es1.toList.map (·.2)).Perm (strValues (l++[(y,ty)])):=by
  have:=hperm.map (·.2);rw [List.map_append,hl] at this;unfold strValues at this ⊢;rw [List.map_append];exact this
 have hsz1:es1.size=ks.length+1:=by rw [← Array.length_toList,hperm.length_eq,List.length_append,Array.length_toList,hsz];rfl
 have fin:∀ (es2:Array (Int × Value)) (t2:SetTable) (e2:Nat),es2.toList.Perm es1.toList→t2.fits es2.size=true→t2.led=t.led→t2.plain=false→Hx t2→Df prog w { o with data:=.set es2 e2 t2 } (y::ks):=by
  intro es2 t2 e2 hp2 hf2 hl2 hpl2 hc2;obtain⟨l2,hl2a,hl2b⟩:=Pv ((hp2.map (·.2)).trans hp1)
  refine⟨es2,e2,t2,l2,hex,rfl,hel1.perm hp2,hl2a,?_,hf2,hl2.trans hled,fun _=>hpl2,hc2⟩
  have:=hl2b.map (·.1);rw [List.map_append] at this;refine this.trans ?_;refine(List.perm_append_comm).trans ?_;exact hp.cons y
 have tail:∀ (t2:SetTable),t2.fits es1.size=true→t2.led=t.led→t2.plain=false→Hx t2→wpAny (model prog w) A (do
    storeSet a es1 t2
    if (!wasDummy && t2.tooFull)=true then do
      (match (relayAll t2 es1 (SetTable.grown es1.size)).2.2 with | true=>rule "set.scan.the-table-gave-way" | false=>pure ())
      storeSet a (relayAll t2 es1 (SetTable.grown es1.size)).1 (relayAll t2 es1 (SetTable.grown es1.size)).2.1
      pure (some true)
     else pure (some true)) (fun r s'=>wpAny (model prog w) A (match r with | some added=>pure added | none=>setAddHashedIn a (.str y ty) ((strKind prog w).hash y) 99999) Q E s') E s:=by
  intro t2 hf2 hl2 hpl2 hc2
  refine Wb (Ld ho hd (by exact(Nt fun hn1=>fk [_,_,_] (.e (.s V0) (.k 100) (.e (.k 4096) V1 (.e V2 (.s V0) (.e V1 V2 K0)))) rfl hz (Es hsb) (El hsz1) hn1)) fun h1 hs1 ho1=>?_)
  split
  ·have hp2:=relayAll_perm t2 es1 (SetTable.grown es1.size)
   have hfr:=relayAll_fits t2 es1 (SetTable.grown es1.size);have hlr:=Oa t2 es1 (SetTable.grown es1.size);refine Wb (hgw _ ?_)
   have hsz2:(relayAll t2 es1 (SetTable.grown es1.size)).1.size=es1.size:=by rw [← Array.length_toList,hp2.length_eq,Array.length_toList]
   refine Wb (Ld ho1 rfl (by rw [hsz2];exact(Nt fun hn1=>fk [_,_,_] (.e (.s V0) (.k 100) (.e (.k 4096) V1 (.e V2 (.s V0) (.e V1 V2 K0)))) rfl hz (Es hsb) (El hsz1) hn1)) fun h2 hs2 ho2=>?_)
   exact Wp (Wp (h h2 _ (hs1.trans hs2) ho2 (fin _ _ _ hp2 hfr (hlr.1.trans hl2) (hlr.2 hpl2) (Ks _ _ _ (by exact(Nt fun hn1=>fk [_,_] (.e (.s V0) V1 (.e V1 K0 K0)) rfl (Es hsz1) hn1))))))
  ·exact Wp (Wp (h h1 _ hs1 ho1 (fin _ _ _ .rfl hf2 hl2 hpl2 hc2)))
 refine Wb (hgw _ ?_);have hby:=hashByValue_scannable (x:=.str y ty) 8 rfl
 split
 ·rw [hby]
  refine Wb (Wp ?_);exact tail { t1 with plain:=false } (SetTable.fits_plain_off hfits) hl1 rfl hc1
 ·rename_i hpf
  refine Wb (Wp ?_)
  exact tail t1 hfits hl1 (by simpa using hpf) hc1
end
end Mine
namespace Mine
open PySem.Calls
section
variable{prog:Program}{w:World}{A:Around}{E:Value→Shared→Prop}{s:Shared}{h₀:Heap}{L:Addr}{m:Str→Option Value}{news:List (Addr × Obj)}
theorem sub_dict_set:isSubtype (.type "dict") (.type "set")=pure false:=by rw [isSubtype_type];kernel_rfl
theorem Jg:isSubtype (.type "dict") (.type "frozenset")=pure false:=by rw [isSubtype_type];kernel_rfl
theorem Tn:entryFor table "set.update.loop"=some Builtin.«set.update.loop»:=entryFor_of_tree (by kernel_rfl)
theorem Ui{t:SetTable}{n k:Nat}(c:Hx t)(hf:t.fits n=true)(hn:n≤1)(hk:k≤3):t.roomFor k=none:=by
 unfold SetTable.fits at hf
 simp only [Bool.and_eq_true,beq_iff_eq] at hf
 unfold SetTable.roomFor SetTable.fill;rw [c.2];have:=c.1
 simp only [Array.size_empty,Nat.add_zero]
 rw [if_neg]
 exact(fun hn1=>fk [_,_,_,_] (.c 5 V0 K1 (.c 5 V1 (.k 3) (.c 5 V2 V0 (.c 3 (.k 7) V3 (.e (.w V3 3) (.w (.a V2 V1) 5) K0))))) rfl hn hk (El hf.1) this hn1)
theorem My{a:Addr}{o:Obj}{ks:List Str}{y:Str}{ty:Tok}{Q:Bool→Shared→Prop}(ho:s.heap.get? a=some o)(hT:Df prog w o ks)(hy:y∉ks)(hz:ks.length<100)
  (h:∀ h' o' tk,Heap.SameBut a s.heap h'→h'.get? a=some o'→Df prog w o' (y::ks)→Q true { s with heap:=h',toks:=tk }) :
  wpAny (model prog w) A (setAdd a (.str y ty)) Q E s:=by
 unfold setAdd;refine wpAny_holding (Wb (wpAny_pyHash_str ?_))
 exact Mx (s:={ s with toks:=s.toks+1 }) ho hT hy hz fun h' o' a1 a2 a3=>h h' o' _ a1 a2 a3
theorem Tb{a d:Addr}{l:List ((Str × Tok) × (Str × Tok))}{n:Nat}{R:PUnit→Shared→Prop}(hne:a≠d)(hnd:(l.map (·.1.1)).Nodup)(ks0:List Str)(hdis:∀ p∈l,p.1.1∉ks0)(hz:ks0.length+l.length<100)
  (body:Nat→PUnit→Sem (ForInStep PUnit))
  (hb:∀ (i:Nat) (p:(Str × Tok) × (Str × Tok)) (s:Shared) (R':ForInStep PUnit→Shared→Prop),s.heap.get? d=some (dictOf (Bb w.params l) n)→l[i]?=some p →
   wpAny (model prog w) A (setAddHashed a (.str p.1.1 p.1.2) ((strKind prog w).hash p.1.1)) (fun _ s'=>s'.heap.get? d=some (dictOf (Bb w.params l) n)∧R' (.yield ⟨⟩) s') E s→wpAny (model prog w) A (body i ⟨⟩) R' E s) :
  ∀ (k i:Nat) (s:Shared) (o:Obj) (ks:List Str),i+k=l.length→s.heap.get? a=some o→Df prog w o ks→ks=((l.take i).map (·.1.1)).reverse++ks0→s.heap.get? d=some (dictOf (Bb w.params l) n) →
   (∀ h' o',Heap.SameBut a s.heap h'→h'.get? a=some o'→Df prog w o' ((l.map (·.1.1)).reverse++ks0)→R ⟨⟩ { s with heap:=h' }) →
   wpAny (model prog w) A (forIn (List.range' i k) PUnit.unit body) R E s
 | 0,i,s,o,ks,hk,ho,hT,e,hd,h=>by
  rw [List.range'_zero,List.forIn_nil];refine Wp ?_;subst e
  have:l.take i=l:=List.take_of_length_le (by exact(Nl fun hn1=>fk [_,_] (.e V0 (.a V1 K0) (.e (.s V1) V0 K0)) rfl (Es hk) hn1))
  rw [this] at hT
  have:=h s.heap o ⟨rfl,fun _ _=>rfl⟩ ho hT
  exact this
 | k+1,i,s,o,ks,hk,ho,hT,e,hd,h=>by
  rw [List.range'_succ,List.forIn_cons]
  have hi:i<l.length:=by exact(Nt fun hn1=>fk [_,_,_] (.e (.a V0 (.s V1)) V2 (.e V2 V0 K0)) rfl (El hk) hn1)
  have hp:l[i]?=some l[i]:=List.getElem?_eq_getElem hi
  have hnot:l[i].1.1∉ks:=by
   subst e;intro hm
   rcases List.mem_append.mp hm with hm | hm
   ·rw [List.mem_reverse] at hm
    obtain⟨q,hq,eq⟩:=List.mem_map.mp hm;obtain⟨j,hj,ej⟩:=List.mem_take_iff_getElem.mp hq
    have h1:(l.map (·.1.1))[j]'(by rw [List.length_map];exact(Nt fun hn1=>fk [_,_,_,_] (.e (.s V0) V1 (.e (.s V2) V3 (.e V3 V0 (.e V1 V2 K0)))) rfl hi hj (Nat.min_le_left _ _) hn1))=(l.map (·.1.1))[i]'(by rw [List.length_map];exact hi):=by
     rw [List.getElem_map,List.getElem_map,ej];exact eq
    have:=(List.getElem_inj hnd).mp h1;exact fk [_,_,_] (.e (.s V0) V1 (.e V2 V0 (.e V1 V2 K0))) rfl hj (Es this) (Nat.min_le_left _ _)
   ·exact hdis _ (List.getElem_mem hi) hm
  refine Wb (hb i l[i] s _ hd hp ?_)
  refine Mx ho hT hnot ?_ fun h' o' hs ho' hT'=>⟨?_,?_⟩
  ·subst e;simp only [List.length_append,List.length_reverse,List.length_map,List.length_take];exact(Nt fun hn1=>fk [_,_,_,_] (.e (.a (.a V0 V1) K1) (.k 100) (.e (.s V2) V1 (.e V3 V2 (.e (.k 100) (.a V3 V0) K0)))) rfl hz hi (Nat.min_le_left _ _) hn1)
  ·exact(hs.2 d (Ne.symm hne)).trans hd
  ·refine Tb hne hnd ks0 hdis hz body hb k (i+1) _ o' (l[i].1.1::ks) (by exact(Nat.le_antisymm (Nl fun hn2=>fk [_,_,_] (.e (.a V0 (.s V1)) V2 (.e (.s V2) (.a (.s V0) V1) K0)) rfl (El hk) hn2) (Nl fun hn3=>fk [_,_,_] (.e V0 (.a V1 (.s V2)) (.e (.a (.a (.s V1) V2) K1) V0 K0)) rfl (Es hk) hn3))) ho' hT' ?_ ((hs.2 d (Ne.symm hne)).trans hd) fun h2 o2 hs2 ho2 hT2=>?_
   ·subst e
    rw [List.take_add_one,hp,Option.toList_some,List.map_append,List.reverse_append]
    rfl
   ·exact h h2 o2 (hs.trans hs2) ho2 hT2
noncomputable def Iu(w:World)(A:Around)(s:Shared)(prog:Program)(E:Value→Shared→Prop)(a d:Addr)(o:Obj)(ks:List Str)(l:List ((Str × Tok) × (Str × Tok)))(n:Nat)(Q:Unit→Shared→Prop):Prop :=
 ∀ (hh:A.handled=none) (ho:s.heap.get? a=some o) (hT:Df prog w o ks) (hd:s.heap.get? d=some (dictOf (Bb w.params l) n)) (hne:a≠d) (hnd:(l.map (·.1.1)).Nodup) (hdis:∀ p∈l,p.1.1∉ks) (hk1:ks.length≤1) (hl:l.length≤3) (hsys:(d == sysModules)=false) (h:∀ h' o' tk,Heap.ExtBut a s.heap h'→h'.get? a=some o'→Df prog w o' ((l.map (·.1.1)).reverse++ks)→Q () { s with heap:=h',toks:=tk }),wpAny (model prog w) A (setDisplayStar a (.ref d)) Q E s
theorem Uo:∀ {w A s prog E a d o ks l n Q},Iu w A s prog E a d o ks l n Q:=by
 refine @(Aa (Al neW)<|@(Ey neI<|let_mvar% ?n:=(fun w A s prog E a d o ks l n Q=>?_:∀ a b c d e f g h i j k l,Iu a b c d e f g h i j k l);?n _ _ _ _ _ _ _ _ _ _ _ _))
 intro hh ho hT hd hne hnd hdis hk1 hl hsys h;have hTd:s.TypeIs (.ref d) "dict":=⟨_,hd,rfl⟩;unfold setDisplayStar;refine Wb (wpAny_isInstance hTd sub_dict_set ?_);dsimp only;rw [if_neg Bool.false_ne_true];refine Wb (wpAny_isInstance hTd Jg ?_);refine Wb (wpAny_askSetting ?_);dsimp only;have hb:(model prog w).w.params.followText "set-display-star-reads-storage"=w.params.followText "set-display-star-reads-storage":=rfl;rw [hb]
 cases hby:w.params.followText "set-display-star-reads-storage" with
 | false =>
  rw [if_neg Bool.false_ne_true];dsimp only;rw [if_neg Bool.false_ne_true];refine Wb (wpAny_typeOf hTd ?_)
  rw [if_pos (by decide)]
  refine Wb (wpAny_rule ?_)
  rw [if_neg (by rw [hsys];decide)]
  refine Wb (wpAny_dictEpoch hd rfl ?_);refine Wb (wpAny_dictEntries hd rfl ?_);obtain⟨es,ep,t,lv,hex,hdt,hel,hlv,hp,hf,hled,hpl,hcl⟩:=id hT;have hsz:es.size=ks.length:=Df.size hlv hp;refine Wb ?_;unfold setRoomFor;refine Wb (wpAny_setState_of ho hdt hf ?_);dsimp only
  rw [Ui hcl (hsz ▸ hf) hk1 (by simpa using hl)]
  refine Wp ?_;refine Wb ?_;rw [Std.Legacy.Range.forIn_eq_forIn_range']
  have hrs:([:(List.toArray (Bb w.params l)).size]:Std.Legacy.Range).size=l.length:=by simp [Std.Legacy.Range.size]
  rw [hrs]
  refine Tb (n:=n) hne hnd ks hdis (by exact(Nt fun hn1=>fk [_,_] (.e V0 K1 (.e V1 (.k 3) (.e (.k 100) (.a V0 V1) K0))) rfl hk1 hl hn1)) _ (fun i p s' R' hd' hi hb'=>?_) l.length 0 s o ks (by exact(Nat.le_antisymm (Nl fun hn2=>fk [_] (.e (.s V0) (.a K0 V0) K0) rfl hn2) (Nl fun hn3=>fk [_] (.e (.a (.a K0 V0) K1) V0 K0) rfl hn3))) ho hT rfl hd fun h' o' hs ho' hT'=>Wp (h h' o' s.toks hs.extBut ho' hT')
  refine Wb (wpAny_dictEntries hd' rfl ?_)
  have he:(List.toArray (Bb w.params l))[i]?=some ⟨PyData.keyHash w.params p.1.1,.str p.1.1 p.1.2,.str p.2.1 p.2.2⟩:=by
   rw [List.getElem?_toArray,List.getElem?_map,hi];rfl
  rw [he];dsimp only
  refine Wb (wpAny_holding (Wb (wpAny_mono hb' (fun _ s'' h''=>Wp ?_) fun _ _ z=>z)))
  refine Wb (wpAny_dictEpoch h''.1 rfl ?_)
  rw [if_neg (by simp)]
  exact Wp h''.2
 | true =>
  rw [if_pos rfl];dsimp only
  have hzz3:=KdkAt.of (Hc (prog:=prog) (w:=w) (n:=n) hnd);revert hzz3;refine exi ?_;with_reducible refine let_mvar% ?zz1:=(fun ep=>?_:Fa _);Aw neI (tie:Tie _ (type_of% ?zz1)) (?zz1 _);intro hat
  have hD:=hat.dictAt hd;refine Wb (wpAny_pyIter_dict hsys hD ?_);have hI:s.heap.objs.size≠a:=Nat.ne_of_gt (Heap.lt_size ho);have hId:s.heap.objs.size≠d:=Nat.ne_of_gt (Heap.lt_size hd)
  refine Wb (wpAny_mono (Q:=fun v s'=>∃ h' o' tk,s'={ s with heap:=h',toks:=tk }∧Heap.ExtBut a s.heap h'∧h'.get? a=some o'∧Df prog w o' ((l.map (·.1.1)).reverse++ks)) (wpAny_runValue ?_) (fun v s' hv=>?_) fun _ _ z=>z)
  rotate_left
  ·revert hv;refine Nd ?_;with_reducible refine let_mvar% ?zz2:=(fun h' o' tk=>?_:Fa3 _);Au neI (Cv:Tie _ (type_of% ?zz2)) (?zz2 _ _ _);rintro⟨rfl,h1,h2,h3⟩
   exact Wp (h h' o' tk h1 h2 h3)
  refine codeAny_loop (Code.quiet_builtin _ (by decide +kernel)) (fun k s'=>∃ h' o' tk i,s'={ s with heap:=h',toks:=tk }∧i+k=l.length∧Heap.ExtBut a s.heap h'∧h'.get? a=some o'∧Df prog w o' (((l.take i).map (·.1.1)).reverse++ks) ∧
   h'.IsKeyIter s.heap.objs.size d i (Dn l).length ep) ?_ l.length ⟨_,o,s.toks,0,rfl,by exact(Nat.le_antisymm (Nl fun hn2=>fk [_] (.e (.s V0) (.a K0 V0) K0) rfl hn2) (Nl fun hn3=>fk [_] (.e (.a (.a K0 V0) K1) V0 K0) rfl hn3)),fun b o' _ e=>Heap.get?_push_of_some _ e,Heap.get?_push_of_some _ ho,hT,⟨_,Heap.get?_push_size _ rfl,rfl,rfl⟩⟩
  with_reducible refine let_mvar% ?zz3:=(fun k s'=>?_:Fa2 _);Ah ⟨(default,{})⟩ (Ar:Tie _ (type_of% ?zz3)) (?zz3 _ _);rintro⟨h',o',tk,i,rfl,hik,hx,ho',hT',hit⟩
  rw [Vd Tn,Around.under_plainId (by decide +kernel)]
  have hd':h'.get? d=some (dictOf (Bb w.params l) n):=hx d _ (Ne.symm hne) hd;have hD':=hat.dictAt hd'
  show wpAny _ _ (pyNext (.ref s.heap.objs.size) >>= _) _ _ _
  cases k with
  | zero =>
   refine Wb (wpAny_pyNext_dict_end hh hit hD' ?_ fun h2 hx2=>?_)
   ·rw [List.getElem?_eq_none];rw [List.length_map];exact(Nl fun hn1=>fk [_,_] (.e V0 (.a V1 K0) (.e (.s V1) V0 K0)) rfl (Es hik) hn1)
   ·refine Wp ⟨h2,o',tk,rfl,fun b ob hb e=>?_,hx2 _ _ (Ne.symm hI) ho',?_⟩
    ·exact hx2 b ob (Nat.ne_of_lt (Heap.lt_size e)) (hx b ob hb e)
    ·have:l.take i=l:=List.take_of_length_le (by exact(Nl fun hn1=>fk [_,_] (.e V0 (.a V1 K0) (.e (.s V1) V0 K0)) rfl (Es hik) hn1))
     rw [this] at hT';exact hT'
  | succ k =>
   have hi:i<l.length:=by exact(Nt fun hn1=>fk [_,_,_] (.e (.a V0 (.s V1)) V2 (.e V2 V0 K0)) rfl (El hik) hn1)
   have hp:l[i]?=some l[i]:=List.getElem?_eq_getElem hi
   refine Wb (wpAny_pyNext_dict_item (k:=l[i].1.1) (v:=.str l[i].2.1 l[i].2.2) hit hD' ?_ fun key h2 hkey hit2 hs2=>?_)
   ·rw [List.getElem?_map,hp];rfl
   ·obtain⟨t,rfl⟩:=Tc hkey
    dsimp only
    have hnot:l[i].1.1∉((l.take i).map (·.1.1)).reverse++ks:=by
     intro hm
     rcases List.mem_append.mp hm with hm | hm
     ·rw [List.mem_reverse] at hm
      obtain⟨q,hq,eq⟩:=List.mem_map.mp hm;obtain⟨j,hj,ej⟩:=List.mem_take_iff_getElem.mp hq
      have h1:(l.map (·.1.1))[j]'(by rw [List.length_map];exact(Nt fun hn1=>fk [_,_,_,_] (.e (.s V0) V1 (.e (.s V2) V3 (.e V3 V0 (.e V1 V2 K0)))) rfl hi hj (Nat.min_le_left _ _) hn1))=(l.map (·.1.1))[i]'(by rw [List.length_map];exact hi):=by
       rw [List.getElem_map,List.getElem_map,ej];exact eq
      have:=(List.getElem_inj hnd).mp h1;exact fk [_,_,_] (.e (.s V0) V1 (.e V2 V0 (.e V1 V2 K0))) rfl hj (Es this) (Nat.min_le_left _ _)
     ·exact hdis _ (List.getElem_mem hi) hm
    refine Wb (wpAny_holding (My (s:={ s with heap:=h2,toks:=tk }) (hs2.extBut _ _ (Ne.symm hI) ho') hT' hnot (by simp only [List.length_append,List.length_reverse,List.length_map,List.length_take];exact(Nt fun hn1=>fk [_,_,_] (.e V0 K1 (.e V1 (.k 3) (.e V2 V1 (.e (.k 100) (.a V2 V0) K0)))) rfl hk1 hl (Nat.min_le_right _ _) hn1)) fun h3 o3 tk3 hs3 ho3 hT3=>?_))
    refine Wp ⟨rfl,k,Nat.lt_succ_self _,h3,o3,tk3,i+1,rfl,by exact(Nat.le_antisymm (Nl fun hn2=>fk [_,_,_] (.e (.a V0 (.s V1)) V2 (.e (.s V2) (.a (.s V0) V1) K0)) rfl (El hik) hn2) (Nl fun hn3=>fk [_,_,_] (.e V0 (.a V1 (.s V2)) (.e (.a (.a (.s V1) V2) K1) V0 K0)) rfl (Es hik) hn3)),fun b ob hb e=>?_,ho3,?_,?_⟩
    ·exact hs3.extBut b ob hb (hs2.extBut b ob (Nat.ne_of_lt (Heap.lt_size e)) (hx b ob hb e))
    ·rw [List.take_add_one,hp,Option.toList_some,List.map_append,List.reverse_append];exact hT3
    ·obtain⟨oi,hoi,r⟩:=hit2
     exact⟨oi,hs3.extBut _ _ hI hoi,r⟩
theorem Wj{Q:Value→Shared→Prop}(h:∀ o,Df prog w o []→Q (.ref s.heap.objs.size) { s with heap:=s.heap.push o }):wpAny (model prog w) A (newSet (.type "set")) Q E s:=by
 unfold newSet setsByText;refine Wb (Wb (wpAny_askSetting (Wp ?_)));dsimp only
 simp only [newObj]
 exact Wb (wpAny_alloc (Wp (h _ (Xd _ rfl))))
theorem Cr{h h':Heap}{a:Addr}(F:Fr h₀ L h m)(hx:Heap.ExtBut a h h')(hL:L≠a)(ha:h₀.get? a=none):Fr h₀ L h' m:=by
 obtain⟨o,es,ep,e,r⟩:=F.ns
 exact⟨⟨o,es,ep,hx _ _ hL e,r⟩,fun b o e=>hx b o (fun q=>by rw [q,ha] at e;cases e) (F.keep b o e),F.above⟩
noncomputable def Kx(w:World)(A:Around)(s:Shared)(prog:Program)(E:Value→Shared→Prop)(h₀:Heap)(L:Addr)(m:Str→Option Value)(news:List (Addr × Obj))(K:Frag)(env:Env)(e1 e2:PySem.Expr)(pos ps:Pos)(d:Addr)(n:Nat)(tag:Str)(tt:Tok)(l:List ((Str × Tok) × (Str × Tok)))(Q:Value→Shared→Prop):Prop :=
 ∀ (hh:A.handled=none) (F:Fr h₀ L s.heap m) (N:News h₀ L s.heap news) (X:K.In h₀) (hc:kdsCode K env.code=true) (he1:∀ (s':Shared) (Q':Value→Shared→Prop),Fr h₀ L s'.heap m→Q' (.str tag tt) s'→wpAny (model prog w) A (eval e1 env) Q' E s') (he2:∀ (s':Shared) (Q':Value→Shared→Prop),Fr h₀ L s'.heap m→Q' (.ref d) s'→wpAny (model prog w) A (eval e2 env) Q' E s') (hd:s.heap.get? d=some (dictOf (Bb w.params l) n)) (hnd:(l.map (·.1.1)).Nodup) (hdis:∀ p∈l,p.1.1≠tag) (hl:l.length≤3) (hsys:(d == sysModules)=false) (h:∀ (D:Addr) o h' tk,Fr h₀ L h' m→News h₀ L h' ((D,o)::news)→(∀ p∈news,p.1<D)→Df prog w o ((l.map (·.1.1)).reverse++[tag])→Q (.ref D) { s with heap:=h',toks:=tk }) (hs1:starEach [e1,.Starred e2 ps] env=[(false,eval e1 env),(true,eval e2 env)]),wpAny (model prog w) A (eval (.Set [e1,.Starred e2 ps] 0 pos) env) Q E s
theorem Oc:∀ a b c d e f g h i j k l m n o p q r s t u,Kx a b c d e f g h i j k l m n o p q r s t u:=by
 refine Aa (Al neW)<|Aa neI<|Eg neI<|let_mvar% ?n:=(fun w A s prog E h₀ L m news K env e1 e2 pos ps d n tag tt l Q=>?_:∀ a b c d e f g h i j k l m n o p q r s t u,Kx a b c d e f g h i j k l m n o p q r s t u);?n _ _ _ _ _ _ _ _ _ _ _ _ _ _ _ _ _ _ _ _ _
 intro hh F N X hc he1 he2 hd hnd hdis hl hsys h hs1;rw [arm_eval_Set];refine Wb (wpAny_standAt ?_)
 refine Wb (kds_main (X.keeps F.keep) hc fun b=>?_)
 rw [hs1];unfold setDisplay;dsimp only;have hrd:displayRoad 0 [e1,.Starred e2 ps]=.oneByOne:=rfl
 rw [hrd,if_neg (by decide)]
 refine Wb (Wj fun o hT=>?_)
 dsimp only
 have hD0:(s.heap.push o).get? s.heap.objs.size=some o:=Heap.get?_push_size _ (by obtain⟨es,ep,t,l0,he,hd0,_⟩:=hT;cases o;simp only at hd0;subst hd0;rfl)
 have F1:=F.push (o:=o);refine Wb (wpAny_holding ?_)
 show wpAny _ _ (evalAll [do let v ← eval e1 env;standAt pos;pure v] >>= _) _ _ _
 unfold evalAll;refine Wb (Wb (Wb (he1 _ _ F1 (Wb (wpAny_standAt (Wp ?_))))));refine Wb (wpAny_holding (Wp (Wp ?_)));refine Wb (wpAny_holding ?_);rw [List.forIn_cons]
 refine Wb (Wb (Wb (My (s:={ s with heap:=s.heap.push o }) hD0 hT (fun z=>nomatch z) (by decide) fun h1 o1 tk1 hs1' ho1 hT1=>?_)))
 refine Wp ?_;dsimp only;rw [List.forIn_nil];refine Wp ?_
 rw [if_neg (by decide)]
 refine Wp ?_
 show wpAny _ _ (forIn [(true,(do let v ← eval e2 env;standAt pos;pure v:Sem Value))] PUnit.unit _ >>= _) _ _ _
 rw [List.forIn_cons];have hLD:L≠s.heap.objs.size:=Nat.ne_of_lt F.ns.lt;have hD₀:h₀.get? s.heap.objs.size=none:=Heap.get?_none_of_le (Nat.le_trans F.above (Nat.le_of_lt F.ns.lt));have F2:=Cr F1 hs1'.extBut hLD hD₀;have hdD:d≠s.heap.objs.size:=Nat.ne_of_lt (Heap.lt_size hd);have hd1:h1.get? d=some (dictOf (Bb w.params l) n):=hs1'.extBut _ _ hdD (Heap.get?_push_of_some _ hd);refine Wb (Wb (Wb (Wb (he2 _ _ F2 (Wb (wpAny_standAt (Wp ?_)))))));dsimp only;rw [if_pos rfl]
 refine Wb (wpAny_holding (Uo (s:={ s with heap:=h1,toks:=tk1 }) hh ho1 hT1 hd1 (Ne.symm hdD) hnd (fun p hp z=>hdis p hp (List.mem_singleton.mp z)) (Nat.le_refl _) hl hsys fun h2 o2 tk2 hx2 ho2 hT2=>?_))
 refine Wp ?_;dsimp only;rw [List.forIn_nil];refine Wp (Wp (Wp ?_))
 refine h _ o2 h2 tk2 (Cr F2 hx2 hLD hD₀) (fun p hp=>?_) (fun p hp=>Heap.lt_size (N p hp).1) hT2
 rcases List.mem_cons.mp hp with rfl | hp
 ·exact⟨ho2,Ne.symm hLD,hD₀⟩
 ·have hlt:=Nat.ne_of_lt (Heap.lt_size (N p hp).1)
  exact⟨hx2 _ _ hlt (hs1'.extBut _ _ hlt (Heap.get?_push_of_some _ (N p hp).1)),(N p hp).2⟩
theorem Wt{K:Frag}{env:Env}{e1 e2:PySem.Expr}{pos ps:Pos}{d:Addr}{n:Nat}{tag:Str}{tt:Tok}{l:List ((Str × Tok) × (Str × Tok))}{Q:Value→Shared→Prop}(hh:A.handled=none)(F:Fr h₀ L s.heap m)(N:News h₀ L s.heap news)(X:K.In h₀)(hc:kdsCode K env.code=true)
  (he1:∀ (s':Shared) (Q':Value→Shared→Prop),Fr h₀ L s'.heap m→Q' (.str tag tt) s'→wpAny (model prog w) A (eval e1 env) Q' E s')
  (he2:∀ (s':Shared) (Q':Value→Shared→Prop),Fr h₀ L s'.heap m→Q' (.ref d) s'→wpAny (model prog w) A (eval e2 env) Q' E s')
  (hd:s.heap.get? d=some (dictOf (Bb w.params l) n)) (hnd:(l.map (·.1.1)).Nodup) (hdis:∀ p∈l,p.1.1≠tag) (hl:l.length≤3) (hsys:(d == sysModules)=false)
  (h:∀ (D:Addr) o h' tk,Fr h₀ L h' m→News h₀ L h' ((D,o)::news)→(∀ p∈news,p.1<D)→Df prog w o ((l.map (·.1.1)).reverse++[tag])→Q (.ref D) { s with heap:=h',toks:=tk })
  (hs1:starEach [e1,.Starred e2 ps] env=[(false,eval e1 env),(true,eval e2 env)]:=by rfl) :
  wpAny (model prog w) A (eval (.Set [e1,.Starred e2 ps] 0 pos) env) Q E s:=Oc w A s prog E h₀ L m news K env e1 e2 pos ps d n tag tt l Q hh F N X hc he1 he2 hd hnd hdis hl hsys h hs1
end
end Mine
namespace Mine
open PySem.Calls
theorem Gi{α:Type}:∀ {l:List α} {i:Nat} (h:i<l.length),(l[i]::l.eraseIdx i).Perm l
 | [],_,h=>absurd h (Nat.not_lt_zero _)
 | x::l,0,_=>.rfl
 | x::l,i+1,h=>by
  have hi:i<l.length:=by simpa using h
  show (l[i]::x::l.eraseIdx i).Perm (x::l)
  exact(List.Perm.swap ..).trans ((Gi hi).cons x)
theorem Su{α:Type}(next:Nat→Nat):∀ (f k:Nat) (left:List α) (out:Array α),left.length=f→(pickOrder.go next f k left out).toList.Perm (out.toList++left)
 | 0,k,left,out,h=>by
  unfold pickOrder.go;rw [List.eq_nil_of_length_eq_zero h,List.append_nil]
 | f+1,k,left,out,h=>by
  unfold pickOrder.go
  have hlt:next k % left.length<left.length:=Nat.mod_lt _ (by exact(Nt fun hn1=>fk [_,_] (.e (.s V0) V1 (.e V1 K0 K0)) rfl (Es h) hn1))
  rw [List.getElem?_eq_getElem hlt];dsimp only
  refine(Su next f (k+1) _ _ (by rw [List.length_eraseIdx_of_lt hlt];exact(Nat.le_antisymm (Nl fun hn2=>fk [_,_,_] (.e V0 (.s V1) (.e (.s V1) V2 (.e (.s V2) V0 K0))) rfl (El h) hn2 (Nat.le_of_eq (Nat.sub_add_cancel (Nl fun hn3=>fk [_,_] (.e (.s V0) V1 (.e (.s V1) K1 K0)) rfl hlt hn3)))) (Nl fun hn4=>fk [_,_,_] (.e (.s V0) V1 (.e (.s V2) V0 (.e V1 (.s V2) K0))) rfl (Es h) hn4 Ln.sba)))).trans ?_
  rw [Array.toList_push,List.append_assoc];refine List.Perm.append_left _ ?_;exact Gi hlt
theorem Ug{α:Type}(next:Nat→Nat)(xs:Array α):(pickOrder next xs).toList.Perm xs.toList:=by
 have:=Su next xs.size 0 xs.toList #[] (by simp)
 simpa [pickOrder] using this
section
variable{prog:Program}{w:World}{A:Around}{E:Value→Shared→Prop}{s:Shared}{h₀:Heap}{L:Addr}{m:Str→Option Value}{news:List (Addr × Obj)}
theorem Ra{M:Model}{src:Source}{n:Nat}{Q:Nat→Shared→Prop}(hn:n≠0)(h:∀ i,i<n→Q i { s with drawn:=s.drawn.bump src }):wpAny M A (choose src n) Q E s :=
 fun Γ p _=>by
  have:Q (M.w.draws src (s.drawn.get src) % n) { s with drawn:=s.drawn.bump src }:=h _ (Nat.mod_lt _ (Nat.pos_of_ne_zero hn));exact⟨hn,this⟩
theorem Ma{M:Model}{α:Type}:∀ (n:Nat) (xs:List α) (s:Shared) (Q:List α→Shared→Prop),xs.length=n→(∀ ys d,ys.Perm xs→Q ys { s with drawn:=d })→wpAny M A (drawOrder n xs) Q E s
 | 0,xs,s,Q,hl,h=>by
  rw [List.eq_nil_of_length_eq_zero hl] at h ⊢;unfold drawOrder;exact Wp (h [] s.drawn .rfl)
 | n+1,[],_,_,hl,_=>by simp at hl
 | n+1,x::xs,s,Q,hl,h=>by
  unfold drawOrder
  refine Wb (Ra (by simp) fun i hi=>?_)
  rw [List.getElem?_eq_getElem hi];dsimp only
  refine Wb (Ma n _ _ _ (by rw [List.length_eraseIdx_of_lt hi];simp at hl ⊢;exact(Nat.le_antisymm (El hl) (Es hl))) fun ys d hp=>Wp ?_)
  exact h _ d ((hp.cons _).trans (Gi hi))
theorem Bp:Slot "set_iterator" "__next__" "set_iterator.__next__" :=
 .of (owner:="set_iterator") (n:="__next__") (by rw [typeLookup_type,builtinLookup_eq_fast];kernel_rfl) (by decide +kernel) (by decide +kernel) (by decide +kernel)
  (by first | exact .inl (by decide +kernel) | exact .inr (by decide +kernel)) (by rw [isSubtype_type];kernel_rfl)
theorem Fz:entryFor table "set_iterator.__next__"=some Builtin.«set_iterator.__next__»:=entryFor_of_tree (by kernel_rfl)
theorem Gn(a:Value):argsOk "set_iterator.__next__" ⟨[a],[]⟩:=by unfold argsOk;kernel_rfl
theorem Ll:entryFor table "set.__iter__"=some Builtin.«frozenset.__iter__» :=
 entryFor_alias (id':="frozenset.__iter__") (by kernel_rfl) rfl (by decide +kernel) (by kernel_rfl)
theorem Na(a:Value):argsOk "set.__iter__" ⟨[a],[]⟩:=by unfold argsOk;kernel_rfl
theorem Qd(a:Addr):setDrawn a=(do let (es,_,t) ← setState a;let byText ← setsByText;return !byText && (!t.plain && decide (es.size > 1))):=rfl
theorem Kw(a:Addr):setWalk a=(do
 let (es,epoch,t) ← setState a
 if ← setsByText then return pickOrder ((← ask).params.setOrder a epoch) es
 if (!t.plain && decide (es.size > 1)) then return (← drawOrder es.size es.toList).toArray
 let _ ← (if !t.led && decide (es.size > 1) then unsupported "set:maker-not-led" else pure ():Sem Unit)
 return es):=rfl
theorem Eo(a:Addr)(slot given epochThen:Nat):setNext a slot given epochThen=(do
 let (es,epoch,t) ← setState a
 if ← setsByText then
  if epoch != epochThen then unsupported "set_iterator.__next__:elements-changed"
  return ((← setWalk a)[given]?).map fun e=>(e.2,slot)
 if (!t.plain && decide (es.size > 1)) then unsupported "set_iterator.__next__:the-table-is-plain-no-more"
 let _ ← (if !t.led && !es.isEmpty then unsupported "set:maker-not-led" else pure ():Sem Unit)
 let i:=SetTable.below t.place slot
 return match es[i]?,t.place[i]? with
  | some (_,x),some j=>some (x,j+1)
  | _,_=>none):=rfl
noncomputable abbrev Ky(f:Value)(i:Nat)(a:Addr)(n ep:Nat):Obj:={ cls:=.type "set_iterator",data:=.fields #[f,.int i 0,.ref a,.int n 0,.int ep 0] }
noncomputable def SIt(w:World)(h:Heap)(it a:Addr)(vs:List Value)(i:Nat):Prop :=
 ∃ o es ep t,h.get? a=some o∧o.data=.set es ep t∧t.fits es.size=true∧it≠a ∧
  ((w.params.followText "set-order"=true∧vs=(pickOrder (w.params.setOrder a ep) es).toList.map (·.2)∧h.get? it=some (Ky (.int 0 0) i a es.size ep)) ∨
  (∃ (tp:Addr) (pl:List Nat),tp≠it∧(∀ p∈pl,p<es.size)∧vs=pl.map (fun p=>(es.getD p (0,.none)).2)∧h.get? tp=some { cls:=.type "tuple",data:=.seq (pl.map fun(i:Nat)=>.int i 0).toArray }∧h.get? it=some (Ky (.ref tp) i a es.size ep)) ∨
  (w.params.followText "set-order"=false∧t.led=true∧∃ e j,es=#[e]∧t.place=#[j]∧vs=[e.2]∧((i=0∧h.get? it=some (Ky (.int 0 0) 0 a es.size ep))∨(i=1∧h.get? it=some (Ky (.int ((j+1:Nat):Int) 0) 1 a es.size ep)))))
theorem SIt.type{it a:Addr}{vs:List Value}{i:Nat}(h:SIt w s.heap it a vs i):s.TypeIs (.ref it) "set_iterator":=by
 obtain⟨o,es,ep,t,_,_,_,_,⟨_,_,h⟩ | ⟨_,_,_,_,_,_,h⟩ | ⟨_,_,_,_,_,_,_,⟨_,h⟩ | ⟨_,h⟩⟩⟩:=h<;>exact⟨_,h,rfl⟩
theorem Bl{b:Bool}{Q:Bool→Shared→Prop}(hb:w.params.followText "set-order"=b)(h:Q b s):wpAny (model prog w) A setsByText Q E s:=by
 unfold setsByText;subst hb;exact Wb (wpAny_askSetting (Wp h))
theorem Qv(j:Nat):SetTable.below #[j] 0=0:=by
 simp [SetTable.below,SetTable.below.go]
theorem Qw(j:Nat):SetTable.below #[j] (j+1)=1:=by
 simp [SetTable.below,SetTable.below.go]
noncomputable def Kz(w:World)(A:Around)(s:Shared)(prog:Program)(E:Value→Shared→Prop)(it a:Addr)(vs:List Value)(i:Nat)(x:Value)(Q:Option Value→Shared→Prop):Prop :=
 ∀ (hit:SIt w s.heap it a vs i) (hx:vs[i]?=some x) (hQ:∀ h',SIt w h' it a vs (i+1)→Heap.SameBut it s.heap h'→Q (some x) { s with heap:=h' }),wpAny (model prog w) A (pyNext (.ref it)) Q E s
theorem Wy:∀ {w A s prog E it a vs i x Q},Kz w A s prog E it a vs i x Q:=by
 refine @(Aa (Al neW)<|@(Ef neI<|let_mvar% ?n:=(fun w A s prog E it a vs i x Q=>?_:∀ a b c d e f g h i j k,Kz a b c d e f g h i j k);?n _ _ _ _ _ _ _ _ _ _ _))
 intro hit hx hQ;have hT:=hit.type;unfold pyNext;refine Wb (wpAny_attempt (wpAny_callSpecial?_slot (name:="__next__") hT Bp (wpAny_call_entry Bp hT Fz ?_ (Gn _))));unfold Builtin.«set_iterator.__next__»;refine Wb (wpAny_of_eq (a:=(.ref it,[])) rfl ?_)
 obtain⟨o,es,ep,t,ho,hd,hf,hne,⟨hby,hvs,hi⟩ | ⟨tp,pl,hnp,hpl,hvs,htp,hi⟩ | ⟨hby,hled,e,j,hes,hpl,hvs,⟨hi0,hi⟩ | ⟨hi0,hi⟩⟩⟩:=hit
 ·refine Wb (wpAny_fieldsOf hi rfl ?_)
  dsimp only;refine Wb (wpAny_setEntries_of ho hd hf ?_)
  rw [if_neg (by simp)]
  try dsimp only
  rw [Eo];refine Wb (Wb (wpAny_setState_of ho hd hf ?_));dsimp only;refine Wb (Bl hby ?_)
  rw [if_pos rfl,if_neg (by simp)]
  rw [Kw];refine Wb (Wb (wpAny_setState_of ho hd hf ?_));dsimp only;refine Wb (Bl hby ?_);rw [if_pos rfl];refine Wb (wpAny_askSetting (Wp (Wp ?_)))
  have hw:((pickOrder ((model prog w).w.params.setOrder a ep) es)[((i:Nat):Int).toNat]?).map (fun e=>(e.2,((0:Int).toNat)))=some (x,0):=by
   have h1:(pickOrder (w.params.setOrder a ep) es).toList[i]?=((pickOrder ((model prog w).w.params.setOrder a ep) es)[((i:Nat):Int).toNat]?):=by
    rw [Int.toNat_natCast,Array.getElem?_toList];rfl
   rw [hvs,List.getElem?_map] at hx;rw [← h1]
   cases hq:(pickOrder (w.params.setOrder a ep) es).toList[i]? with
   | none=>rw [hq] at hx;cases hx
   | some e=>rw [hq] at hx;simp only [Option.map_some,Option.some.injEq] at hx ⊢;rw [hx];rfl
  rw [hw];dsimp only
  refine Wb (wpAny_setField_rec hi (by simp) fun h1 he1 hs1=>?_)
  refine Wb (wpAny_setField_rec (s:={ s with heap:=h1 }) he1 (by simp) fun h2 he2 hs2=>?_)
  refine Wp ⟨_,rfl,Wp (hQ h2 ⟨o,es,ep,t,?_,hd,hf,hne,.inl ⟨hby,hvs,?_⟩⟩ (hs1.trans hs2))⟩
  ·exact(hs2.2 _ (Ne.symm hne)).trans ((hs1.2 _ (Ne.symm hne)).trans ho)
  ·rw [he2];simp [rawInt]
 ·refine Wb (wpAny_fieldsOf hi rfl ?_)
  dsimp only;refine Wb (wpAny_setEntries_of ho hd hf ?_)
  rw [if_neg (by simp)]
  try dsimp only
  refine Wb (wpAny_seqItems htp rfl ?_);dsimp only
  have hp:∃ p,pl[i]?=some p∧(es.getD p (0,.none)).2=x:=by
   rw [hvs,List.getElem?_map] at hx
   cases hq:pl[i]? with
   | none=>rw [hq] at hx;cases hx
   | some p=>rw [hq] at hx;simp only [Option.map_some,Option.some.injEq] at hx;exact⟨p,rfl,hx⟩
  obtain⟨p,hp1,hp2⟩:=hp;have hlt:p<es.size:=hpl p (List.mem_of_getElem? hp1)
  have hpi:((pl.map fun(i:Nat)=>Value.int i 0).toArray)[((i:Nat):Int).toNat]?=some (.int p 0):=by
   rw [Int.toNat_natCast,List.getElem?_toArray,List.getElem?_map,hp1];rfl
  rw [hpi];dsimp only;unfold setNextDrawn;refine Wb (Wb (wpAny_setState_of ho hd hf ?_));dsimp only
  rw [if_neg (by simp)]
  have hes:es[((p:Nat):Int).toNat]?=some (es.getD p (0,.none)):=by
   rw [Int.toNat_natCast];simp [Array.getD,hlt]
  rw [hes];dsimp only;rw [hp2];refine Wp ?_
  refine Wb (wpAny_setField_rec hi (by simp) fun h1 he1 hs1=>?_)
  refine Wp ⟨_,rfl,Wp (hQ h1 ⟨o,es,ep,t,?_,hd,hf,hne,.inr (.inl ⟨tp,pl,hnp,hpl,hvs,?_,?_⟩)⟩ hs1)⟩
  ·exact(hs1.2 _ (Ne.symm hne)).trans ho
  ·exact(hs1.2 _ hnp).trans htp
  ·rw [he1];simp [rawInt]
 ·subst hi0
  refine Wb (wpAny_fieldsOf hi rfl ?_);dsimp only;refine Wb (wpAny_setEntries_of ho hd hf ?_)
  rw [if_neg (by simp)]
  try dsimp only
  rw [Eo];refine Wb (Wb (wpAny_setState_of ho hd hf ?_));dsimp only;refine Wb (Bl hby ?_);rw [if_neg Bool.false_ne_true];rw [hes,hled,hpl]
  rw [if_neg (by simp)]
  refine Wb (Wp ?_);rw [show ((0:Int).toNat)=0 from rfl,Qv];refine Wp ?_
  simp only [List.getElem?_toArray,List.getElem?_cons_zero]
  rw [hvs] at hx
  simp only [List.getElem?_cons_zero,Option.some.injEq] at hx
  rw [hx]
  refine Wb (wpAny_setField_rec hi (by simp) fun h1 he1 hs1=>?_)
  refine Wb (wpAny_setField_rec (s:={ s with heap:=h1 }) he1 (by simp) fun h2 he2 hs2=>?_)
  refine Wp ⟨_,rfl,Wp (hQ h2 ⟨o,es,ep,t,?_,hd,hf,hne,.inr (.inr ⟨hby,hled,e,j,hes,hpl,hvs,.inr ⟨rfl,?_⟩⟩)⟩ (hs1.trans hs2))⟩
  ·exact(hs2.2 _ (Ne.symm hne)).trans ((hs1.2 _ (Ne.symm hne)).trans ho)
  ·rw [he2];simp [rawInt]
 ·subst hi0
  rw [hvs] at hx
  cases hx
noncomputable def Iv(w:World)(A:Around)(s1:Shared)(prog:Program)(E:Value→Shared→Prop)(it:Addr)(Q:Option Value→Shared→Prop):Prop :=
 ∀ (hh:A.handled=none) (hQ:∀ h',(∀ b o,s1.heap.get? b=some o→h'.get? b=some o)→Q none { s1 with heap:=h' }),wpAny (model prog w) A.in1 (newExc (.type "StopIteration") [] >>= fun e=>raiseNew e)
   (fun fin s'=>∃ v,fin=PySem.Fin.done (.ret v)∧wpAny (model prog w) A (pure (some v)) Q E s') (fun e s'=>wpAny (model prog w) A (do if ← isInstance e (.type "StopIteration") then pure none else throw e) Q E s') s1
theorem Hu:∀ {w A s1 prog E it Q},Iv w A s1 prog E it Q:=by
 refine @(Hj (Al neW)<|let_mvar% ?n:=(fun w A s1 prog E it Q=>?_:∀ a b c d e f g,Iv a b c d e f g);?n _ _ _ _ _ _ _)
 intro hh hQ;refine Wb ?_
 simp only [newExc,newTuple]
 refine Wb (wpAny_newObj_type ?_ (by size_fits))
 refine Wb (m:=firstArgMember _ _) (wpAny_of_eq (a:=.none) (by first | rfl | (simp only [firstArgMember];rfl)) ?_)
 refine wpAny_newObj_type ?_ (by size_fits)
 unfold raiseNew;(try dsimp only);refine Wb (wpAny_handled ?_);rw [show A.in1.handled=none from hh];refine Wb (Wp (wpAny_throw ?_));refine Wb (wpAny_isInstance (T:="StopIteration") (b:=true) ⟨_,Heap.get?_push_size _ rfl,rfl⟩ isSubtype_stop ?_)
 exact Wp (hQ _ fun b o e=>Heap.get?_push_of_some _ (Heap.get?_push_of_some _ e))
noncomputable def Mu(w:World)(A:Around)(s:Shared)(prog:Program)(E:Value→Shared→Prop)(it a:Addr)(vs:List Value)(i:Nat)(Q:Option Value→Shared→Prop):Prop :=
 ∀ (hh:A.handled=none) (hit:SIt w s.heap it a vs i) (hx:vs[i]?=none) (hQ:∀ h',Heap.ExtBut it s.heap h'→Q none { s with heap:=h' }),wpAny (model prog w) A (pyNext (.ref it)) Q E s
theorem sit_end:∀ {w A s prog E it a vs i Q},Mu w A s prog E it a vs i Q:=by
 refine @(Aa (Al neW)<|@(Ee neI<|let_mvar% ?n:=(fun w A s prog E it a vs i Q=>?_:∀ a b c d e f g h i j,Mu a b c d e f g h i j);?n _ _ _ _ _ _ _ _ _ _))
 intro hh hit hx hQ;have hT:=hit.type;unfold pyNext;refine Wb (wpAny_attempt (wpAny_callSpecial?_slot (name:="__next__") hT Bp (wpAny_call_entry Bp hT Fz ?_ (Gn _))));unfold Builtin.«set_iterator.__next__»;refine Wb (wpAny_of_eq (a:=(.ref it,[])) rfl ?_)
 obtain⟨o,es,ep,t,ho,hd,hf,hne,⟨hby,hvs,hi⟩ | ⟨tp,pl,hnp,hpl,hvs,htp,hi⟩ | ⟨hby,hled,e,j,hes,hpl,hvs,⟨hi0,hi⟩ | ⟨hi0,hi⟩⟩⟩:=hit
 ·refine Wb (wpAny_fieldsOf hi rfl ?_)
  dsimp only;refine Wb (wpAny_setEntries_of ho hd hf ?_)
  rw [if_neg (by simp)]
  try dsimp only
  rw [Eo];refine Wb (Wb (wpAny_setState_of ho hd hf ?_));dsimp only;refine Wb (Bl hby ?_)
  rw [if_pos rfl,if_neg (by simp)]
  rw [Kw];refine Wb (Wb (wpAny_setState_of ho hd hf ?_));dsimp only;refine Wb (Bl hby ?_);rw [if_pos rfl];refine Wb (wpAny_askSetting (Wp (Wp ?_)))
  have hw:(pickOrder ((model prog w).w.params.setOrder a ep) es)[((i:Nat):Int).toNat]?=none:=by
   have h1:(pickOrder (w.params.setOrder a ep) es).toList[i]?=((pickOrder ((model prog w).w.params.setOrder a ep) es)[((i:Nat):Int).toNat]?):=by
    rw [Int.toNat_natCast,Array.getElem?_toList];rfl
   rw [hvs,List.getElem?_map,Option.map_eq_none_iff] at hx;rw [← h1];exact hx
  rw [hw]
  simp only [Option.map_none]
  refine Wb (wpAny_setField_rec hi (by simp) fun h1 he1 hs1=>?_)
  exact Hu (it:=it) (s1:={ s with heap:=h1 }) hh fun h2 hk=>hQ h2 fun b o hb e=>hk b o (hs1.extBut b o hb e)
 ·refine Wb (wpAny_fieldsOf hi rfl ?_)
  dsimp only;refine Wb (wpAny_setEntries_of ho hd hf ?_)
  rw [if_neg (by simp)]
  try dsimp only
  refine Wb (wpAny_seqItems htp rfl ?_);dsimp only
  have hpi:((pl.map fun(i:Nat)=>Value.int i 0).toArray)[((i:Nat):Int).toNat]?=none:=by
   rw [hvs,List.getElem?_map,Option.map_eq_none_iff] at hx;rw [Int.toNat_natCast,List.getElem?_toArray,List.getElem?_map,hx];rfl
  rw [hpi];dsimp only
  refine Wb (wpAny_setField_rec hi (by simp) fun h1 he1 hs1=>?_)
  refine Wb (wpAny_setField_rec (s:={ s with heap:=h1 }) he1 (by simp) fun h2 he2 hs2=>?_)
  exact Hu (it:=it) (s1:={ s with heap:=h2 }) hh fun h3 hk=>hQ h3 fun b o hb e=>hk b o (hs2.extBut b o hb (hs1.extBut b o hb e))
 ·subst hi0
  rw [hvs] at hx
  cases hx
 ·subst hi0
  refine Wb (wpAny_fieldsOf hi rfl ?_);dsimp only;refine Wb (wpAny_setEntries_of ho hd hf ?_)
  rw [if_neg (by simp)]
  try dsimp only
  rw [Eo];refine Wb (Wb (wpAny_setState_of ho hd hf ?_));dsimp only;refine Wb (Bl hby ?_);rw [if_neg Bool.false_ne_true];rw [hes,hled,hpl]
  rw [if_neg (by simp)]
  refine Wb (Wp ?_);rw [Int.toNat_natCast,Qw];refine Wp ?_
  simp only [List.getElem?_toArray,List.getElem?_cons_succ,List.getElem?_nil]
  refine Wb (wpAny_setField_rec hi (by simp) fun h1 he1 hs1=>?_)
  exact Hu (it:=it) (s1:={ s with heap:=h1 }) hh fun h2 hk=>hQ h2 fun b o hb e=>hk b o (hs1.extBut b o hb e)
end
end Mine
namespace Mine
open PySem.Calls
section
variable{prog:Program}{w:World}{A:Around}{E:Value→Shared→Prop}{s:Shared}{h₀:Heap}{L:Addr}{m:Str→Option Value}{news:List (Addr × Obj)}
theorem Rk{α:Type}(xs:Array α)(d:α):(List.range xs.size).map (fun i=>xs.getD i d)=xs.toList:=by
 refine List.ext_getElem (by simp) fun i h1 h2=>?_
 have:i<xs.size:=by simpa using h1
 simp [Array.getD,this]
noncomputable def Iy(w:World)(prog:Program)(o:Obj)(ks:List Str):Prop :=
 ∀ (hT:Df prog w o ks),∃ es ep t,o.data=.set es ep t∧t.fits es.size=true∧t.led=(!w.params.followText "set-order")∧(ks≠[]→t.plain=false)∧es.size=ks.length ∧
  ∀ vs:List Value,vs.Perm (es.toList.map (·.2))→∃ l,vs=strValues l∧(l.map (·.1)).Perm ks
theorem Ut:∀ {a b c d},Iy a b c d:=by
 refine @(Bg neW<|@(Ef neI<|let_mvar% ?n:=(fun w prog o ks=>?_:∀ a b c d,Iy a b c d);?n _ _ _ _))
 intro hT;obtain⟨es,ep,t,l,hex,hd,hel,hl,hp,hf,hled,hpl,hcl⟩:=hT
 refine⟨es,ep,t,hd,hf,hled,hpl,Df.size hl hp,fun vs hv=>?_⟩
 rw [hl] at hv;obtain⟨l1,e1,p1⟩:=Pv hv;exact⟨l1,e1,(p1.map (·.1)).trans hp⟩
noncomputable def Kd(w:World)(A:Around)(s:Shared)(prog:Program)(E:Value→Shared→Prop)(a:Addr)(o:Obj)(ks:List Str)(Q:Value→Shared→Prop):Prop :=
 ∀ (ho:s.heap.get? a=some o) (hc:o.cls=.type "set") (hT:Df prog w o ks) (hne:ks≠[]) (hz:ks.length<60) (h:∀ (I:Addr) l h' d,(l.map (·.1)).Perm ks→SIt w h' I a (strValues l) 0→s.heap.objs.size≤I→(∀ b o,s.heap.get? b=some o→h'.get? b=some o)→h'.objs.size=I+1→Q (.ref I) { s with heap:=h',drawn:=d }),wpAny (model prog w) A (pyIter (.ref a)) Q E s
theorem Vz:∀ {w A s prog E a o ks Q},Kd w A s prog E a o ks Q:=by
 refine @(Aa (Al neW)<|@(Bg neI<|let_mvar% ?n:=(fun w A s prog E a o ks Q=>?_:∀ a b c d e f g h i,Kd a b c d e f g h i);?n _ _ _ _ _ _ _ _ _))
 intro ho hc hT hne hz h;obtain⟨es,ep,t,hd,hf,hled,hpl,hsz,hperm⟩:=Ut hT;have hTy:s.TypeIs (.ref a) "set":=⟨o,ho,hc⟩;have hlt:=Heap.lt_size ho;refine wpAny_pyIter_slot hTy F.slot_set_iter (wpAny_call_entry F.slot_set_iter hTy Ll ?_ (Na _));unfold Builtin.«frozenset.__iter__»;refine Wb (m:=Builtin.Frozenset.slot0 _ _) (wpAny_of_eq (a:=a) rfl ?_);refine Wb (m:=Builtin.Frozenset.sizeOf _) (Wb (wpAny_setEntries_of ho hd hf (Wp ?_)));rw [Qd];refine Wb (Wb (wpAny_setState_of ho hd hf ?_));dsimp only
 cases hby:w.params.followText "set-order" with
 | true =>
  refine Wb (Bl hby (Wp ?_))
  simp only [Bool.not_true,Bool.false_and,Bool.false_eq_true,if_false]
  refine Wb (Wp ?_);refine Wb (wpAny_setEpoch_of ho hd hf ?_);refine Wb (wpAny_newObj_type (Wp ⟨_,rfl,"set_iterator",_,⟨_,Heap.get?_push_size _ rfl,rfl⟩,Bp.lookup,?_⟩));obtain⟨l,e,p⟩:=hperm _ ((Ug (w.params.setOrder a ep) es).map (·.2))
  refine h _ l _ s.drawn p ⟨o,es,ep,t,Heap.get?_push_of_some _ ho,hd,hf,Nat.ne_of_gt hlt,.inl ⟨hby,e.symm,?_⟩⟩ (Nat.le_refl _) (fun b o e=>Heap.get?_push_of_some _ e) (Heap.size_push ..)
  rw [Heap.get?_push_size _ rfl];simp [rawInt]
 | false =>
  refine Wb (Bl hby (Wp ?_));rw [hpl hne]
  simp only [Bool.not_false,Bool.true_and,decide_eq_true_eq]
  by_cases h1:es.size > 1
  ·rw [if_pos h1]
   refine Wb (Ma es.size (List.range es.size) _ _ List.length_range fun pl d hp=>?_)
   refine Wb (wpAny_newTuple ?_ (by rw [List.length_map,hp.length_eq,List.length_range,sizeLine_eq];exact(Nl fun hn1=>fk [_,_] (.e (.s V0) (.k 60) (.e V1 V0 (.e (.s (.k 16777216)) V1 K0))) rfl hz (El hsz) hn1)))
   refine Wb (wpAny_setEpoch_of (s:={ s with heap:=s.heap.push _,drawn:=d }) (Heap.get?_push_of_some _ ho) hd hf ?_);refine Wb (wpAny_newObj_type (Wp ⟨_,rfl,"set_iterator",_,⟨_,Heap.get?_push_size _ rfl,rfl⟩,Bp.lookup,?_⟩))
   obtain⟨l,e,p⟩:=hperm (pl.map fun p=>(es.getD p (0,.none)).2) (by
    have:=(hp.map fun p=>(es.getD p (0,.none))).map (·.2)
    rw [Rk,List.map_map] at this;exact this)
   refine h _ l _ d p ⟨o,es,ep,t,Heap.get?_push_of_some _ (Heap.get?_push_of_some _ ho),hd,hf,?_,.inr (.inl ⟨s.heap.objs.size,pl,?_,fun q hq=>?_,e.symm,?_,?_⟩)⟩ ?_ (fun b o e=>Heap.get?_push_of_some _ (Heap.get?_push_of_some _ e)) (Heap.size_push ..)
   ·show (s.heap.push _).objs.size≠a
    rw [Heap.size_push];exact Nat.ne_of_gt (Nat.lt_succ_of_lt hlt)
   ·show s.heap.objs.size≠(s.heap.push _).objs.size
    rw [Heap.size_push];exact Nat.ne_of_lt (Nat.lt_succ_self _)
   ·exact List.mem_range.mp (hp.mem_iff.mp hq)
   ·exact Heap.get?_push_of_some _ (by rw [Heap.get?_push_size _ rfl];simp [rawInt])
   ·rw [Heap.get?_push_size _ rfl];simp [rawInt]
   ·rw [Heap.size_push];exact(Nl fun hn1=>fk [_] (.e (.a (.s V0) K1) V0 K0) rfl hn1)
  ·rw [if_neg h1]
   refine Wb (Wp ?_);refine Wb (wpAny_setEpoch_of ho hd hf ?_);refine Wb (wpAny_newObj_type (Wp ⟨_,rfl,"set_iterator",_,⟨_,Heap.get?_push_size _ rfl,rfl⟩,Bp.lookup,?_⟩))
   have hes1:es.size=1:=by
    have:ks.length≠0:=fun z=>hne (List.eq_nil_of_length_eq_zero z)
    lia
   obtain⟨e,he⟩:∃ e,es=#[e]:=Array.size_eq_one_iff.mp hes1
   obtain⟨j,hj⟩:∃ j,t.place=#[j]:=by
    unfold SetTable.fits at hf
    simp only [Bool.and_eq_true,beq_iff_eq] at hf
    have h2:=hf.1;rw [hes1] at h2;exact Array.size_eq_one_iff.mp h2
   obtain⟨l,e',p⟩:=hperm [e.2] (by rw [he];exact .rfl)
   refine h _ l _ s.drawn p ⟨o,es,ep,t,Heap.get?_push_of_some _ ho,hd,hf,Nat.ne_of_gt hlt,.inr (.inr ⟨hby,by rw [hled,hby];rfl,e,j,he,hj,e'.symm,.inl ⟨rfl,?_⟩⟩)⟩ (Nat.le_refl _) (fun b o e=>Heap.get?_push_of_some _ e) (Heap.size_push ..)
   rw [Heap.get?_push_size _ rfl];simp [rawInt]
theorem SIt.but{h h':Heap}{it a c:Addr}{vs:List Value}{i:Nat}{its:Array Value}{n:Nat}(x:SIt w h it a vs i)(hc:h.get? c=some (listOf its n))(hk:Heap.ExtBut c h h'):SIt w h' it a vs i:=by
 obtain⟨o,es,ep,t,ho,hd,hf,hne,r⟩:=x
 have n1:a≠c:=fun q=>by rw [q,hc] at ho;cases ho;cases hd
 have n2:∀ {f k},h.get? it=some (Ky f k a es.size ep)→it≠c:=fun e q=>by rw [q,hc] at e;exact absurd (congrArg Obj.cls (Option.some.inj e)) (by simp)
 refine⟨o,es,ep,t,hk _ _ n1 ho,hd,hf,hne,?_⟩
 rcases r with ⟨hby,hvs,hi⟩ | ⟨tp,pl,hnp,hpl,hvs,htp,hi⟩ | ⟨hby,hled,e,j,hes,hpl,hvs,hi⟩
 ·exact .inl ⟨hby,hvs,hk _ _ (n2 hi) hi⟩
 ·refine .inr (.inl ⟨tp,pl,hnp,hpl,hvs,hk _ _ (fun q=>?_) htp,hk _ _ (n2 hi) hi⟩)
  rw [q,hc] at htp;exact absurd (congrArg Obj.cls (Option.some.inj htp)) (by simp)
 ·exact .inr (.inr ⟨hby,hled,e,j,hes,hpl,hvs,hi.imp (fun z=>⟨z.1,hk _ _ (n2 z.2) z.2⟩) fun z=>⟨z.1,hk _ _ (n2 z.2) z.2⟩⟩)
noncomputable def Ka(w:World)(A:Around)(s:Shared)(prog:Program)(E:Value→Shared→Prop)(a:Addr)(Q:Bool→Shared→Prop):Prop :=
 ∀ (hT:s.TypeIs (.ref a) "set") (h:Q false s),wpAny (model prog w) A (Builtin.List.listLengthHint (.ref a)) Q E s
theorem Vw:∀ {w A s prog E a Q},Ka w A s prog E a Q:=by
 refine @(Hj (Al neW)<|let_mvar% ?n:=(fun w A s prog E a Q=>?_:∀ a b c d e f g,Ka a b c d e f g);?n _ _ _ _ _ _ _)
 intro hT h;unfold Builtin.List.listLengthHint;refine Wb (wpAny_specialOf hT PySem.F.slot_set_len.lookup ?_)
 generalize hid:("set.__len__":String)=id0
 wp_delta
 rw [show splitId id0=some ("set","__len__") from by subst hid;decide +kernel]
 subst hid
 refine Wb (wpAny_isInstance (T:="set") (b:=true) hT (by rw [isSubtype_type];kernel_rfl) ?_)
 refine wpAny_ite_split (fun hab=>absurd hab (by decide)) (fun _=>?_)
 refine wpAny_ite_split (fun _=>?_) (fun hab=>absurd (by decide +kernel) hab)
 refine Wb (wpAny_typeOf hT ?_);exact Wp h
noncomputable def Jv(w:World)(A:Around)(s:Shared)(prog:Program)(S I a:Addr)(vs:List Value)(R:Result→Shared→Prop)(base:Heap):Prop :=
 ∀ (hh:A.handled=none) (hz:vs.length≤60) (hR:∀ s':Shared,(∃ h' tk n,s'={ s with heap:=h',toks:=tk }∧(∀ b o,b≠S→b≠I→base.get? b=some o→h'.get? b=some o)∧h'.get? S=some (listOf vs.toArray n))→R (.ok (.ret (.ref S))) s'),∀ (k i:Nat) (h:Heap) (tk n:Nat),i+k=vs.length→SIt w h I a vs i→h.get? S=some (listOf (vs.take i).toArray n)→(∀ b o,b≠S→b≠I→base.get? b=some o→h.get? b=some o) →
  codeAny (model prog w) A (.builtin "list.extend.loop" ⟨[.ref S,.ref I,.ref S],[]⟩) R { s with heap:=h,toks:=tk }
theorem Vl:∀ {w A s prog S I a vs R base},Jv w A s prog S I a vs R base:=by
 refine @(Aa (Al neW)<|@(Ee neI<|let_mvar% ?n:=(fun w A s prog S I a vs R base=>?_:∀ a b c d e f g h i j,Jv a b c d e f g h i j);?n _ _ _ _ _ _ _ _ _ _))
 intro hh hz hR;intro k
 induction k with
 | zero =>
  intro i h tk n hik hit hS hb;refine codeAny_builtin F.entry_extend_loop ?_;rw [Around.under_plainId F.plain_extend_loop]
  show wpAny _ _ (pyNext (.ref I) >>= _) _ _ _
  have hIS:S≠I:=fun q=>by
   obtain⟨o,es,ep,t,ho,hd,hf,hne,⟨_,_,e⟩ | ⟨_,_,_,_,_,_,e⟩ | ⟨_,_,_,_,_,_,_,⟨_,e⟩ | ⟨_,e⟩⟩⟩:=hit<;>(rw [← q,hS] at e;exact absurd (congrArg Obj.cls (Option.some.inj e)) (by simp))
  refine Wb (sit_end (A:=A.in1) hh hit (List.getElem?_eq_none (by exact(Nl fun hn1=>fk [_,_] (.e V0 (.a V1 K0) (.e (.s V1) V0 K0)) rfl (Es hik) hn1))) fun h2 hx=>?_)
  refine Wp (hR _ ⟨h2,tk,n,rfl,fun b o h1 h3 e=>hx _ _ h3 (hb b o h1 h3 e),?_⟩)
  rw [hx _ _ hIS hS,List.take_of_length_le (by exact(Nl fun hn1=>fk [_,_] (.e V0 (.a V1 K0) (.e (.s V1) V0 K0)) rfl (Es hik) hn1))]
 | succ k ih =>
  intro i h tk n hik hit hS hb;refine codeAny_builtin F.entry_extend_loop ?_;rw [Around.under_plainId F.plain_extend_loop]
  show wpAny _ _ (pyNext (.ref I) >>= _) _ _ _
  have hIS:S≠I:=fun q=>by
   obtain⟨o,es,ep,t,ho,hd,hf,hne,⟨_,_,e⟩ | ⟨_,_,_,_,_,_,e⟩ | ⟨_,_,_,_,_,_,_,⟨_,e⟩ | ⟨_,e⟩⟩⟩:=hit<;>(rw [← q,hS] at e;exact absurd (congrArg Obj.cls (Option.some.inj e)) (by simp))
  have hi:i<vs.length:=by exact(Nt fun hn1=>fk [_,_,_] (.e (.a V0 (.s V1)) V2 (.e V2 V0 K0)) rfl (El hik) hn1)
  refine Wb (Wy (A:=A.in1) hit (List.getElem?_eq_getElem hi) fun h2 hit2 hs2=>?_)
  dsimp only;have hS2:=(hs2.2 _ hIS).trans hS
  refine Wb (listUpdate_at (s:={ s with heap:=h2,toks:=tk }) hS2 rfl ?_ (by rw [List.size_toArray,sizeLine_eq];simp;exact(Nl fun hn1=>fk [_,_] (.e V0 (.k 60) (.e V1 V0 (.e (.s (.k 16777216)) V1 K0))) rfl hz (Nat.min_le_right _ _) hn1)) (by rw [Array.size_push,List.size_toArray,sizeLine_eq];simp;exact(Nl fun hn1=>fk [_,_] (.e V0 (.k 60) (.e V1 V0 (.e (.s (.k 16777216)) V1 K0))) rfl hz (Nat.min_le_right _ _) hn1)))
  refine Wp ⟨plainId_quiet F.plain_extend_loop _,?_⟩
  have e3:(h2.update S (Obj.mapSeq (·.push vs[i]))).get? S=some (listOf (vs.take (i+1)).toArray (n+1)):=by
   rw [Heap.get?_update_self _ hS2 (by rw [mapSeq_push];rfl),mapSeq_push,List.take_add_one,List.getElem?_eq_getElem hi]
   simp
  exact ih (i+1) _ tk (n+1) (by exact(Nat.le_antisymm (Nl fun hn2=>fk [_,_,_] (.e (.a V0 (.s V1)) V2 (.e (.s V2) (.a (.s V0) V1) K0)) rfl (El hik) hn2) (Nl fun hn3=>fk [_,_,_] (.e V0 (.a V1 (.s V2)) (.e (.a (.a (.s V1) V2) K1) V0 K0)) rfl (Es hik) hn3))) (hit2.but hS2 (Heap.SameBut.update ..).extBut) e3 fun b o h1 h3 e=>(Heap.SameBut.update ..).extBut _ _ h1 (hs2.extBut _ _ h3 (hb b o h1 h3 e))
noncomputable def Fy(w:World)(A:Around)(s:Shared)(prog:Program)(E:Value→Shared→Prop)(a:Addr)(o:Obj)(ks:List Str)(Q:List Value→Shared→Prop):Prop :=
 ∀ (hh:A.handled=none) (ho:s.heap.get? a=some o) (hc:o.cls=.type "set") (hT:Df prog w o ks) (hne:ks≠[]) (hz:ks.length<60) (h:∀ l h' d tk,(l.map (·.1)).Perm ks→(∀ b o,s.heap.get? b=some o→h'.get? b=some o)→Q (strValues l) { s with heap:=h',drawn:=d,toks:=tk }),wpAny (model prog w) A (collect (.ref a)) Q E s
theorem Ou:∀ {w A s prog E a o ks Q},Fy w A s prog E a o ks Q:=by
 refine @(Aa (Al neW)<|@(Bg neI<|let_mvar% ?n:=(fun w A s prog E a o ks Q=>?_:∀ a b c d e f g h i,Fy a b c d e f g h i);?n _ _ _ _ _ _ _ _ _))
 intro hh ho hc hT hne hz h;have hlt:=Heap.lt_size ho;unfold collect;refine Wb (wpAny_runValue (codeAny_builtin entry_proto_collect' ?_))
 show wpAny _ _ (do again (.builtin "list.__iadd__" ⟨[← newList [],.ref a],[]⟩)) _ _ s
 refine Wb (wpAny_newList (Wp ⟨Code.quiet_builtin _ (by decide +kernel),codeAny_builtin entry_list_iadd' ?_⟩))
 show wpAny _ _ (Builtin.List.listExtendWith (.ref s.heap.objs.size) (.ref a) (.ref s.heap.objs.size)) _ _ { s with heap:=s.heap.push (seqObj "list" #[] 0) }
 unfold Builtin.List.listExtendWith;have ho':(s.heap.push (seqObj "list" #[] 0)).get? a=some o:=Heap.get?_push_of_some _ ho;refine Wb (wpAny_typeOf (T:="set") ⟨o,ho',hc⟩ ?_)
 have h1:Builtin.List.listSameRef (.ref s.heap.objs.size) (.ref a)=false:=by
  simp only [Builtin.List.listSameRef,beq_eq_false_iff_ne,ne_eq];exact Nat.ne_of_gt hlt
 have h2:(Value.type "set" == Value.type "list")=false:=by decide
 have h3:(Value.type "set" == Value.type "tuple")=false:=by decide
 simp only [h1,h2,h3,Bool.or_false,Bool.false_eq_true,if_false]
 refine Wb (Vz (s:={ s with heap:=s.heap.push (seqObj "list" #[] 0) }) ho' hc hT hne hz fun I l hI d hp hit hge hk hsz=>?_)
 have hS1:hI.get? s.heap.objs.size=some (listOf #[] 0):=hk _ _ (Heap.get?_push_size _ rfl);refine Wb (wpAny_holding (Vw (s:={ s with heap:=hI,drawn:=d }) ⟨o,hk _ _ ho',hc⟩ ?_))
 have hl:(strValues l).length≤60:=by
  unfold strValues;rw [List.length_map,← List.length_map (f:=(·.1)),hp.length_eq];exact(Nl fun hn1=>fk [_] (.e (.s V0) (.k 60) (.e (.s (.k 60)) V0 K0)) rfl hz hn1)
 have hIlt:s.heap.objs.size<I:=by
  have:(s.heap.push (seqObj "list" #[] 0)).objs.size≤I:=hge;rw [Heap.size_push] at this;exact this
 have fin:∀ (h0:Heap) (n:Nat),(∀ b o,b≠s.heap.objs.size→hI.get? b=some o→h0.get? b=some o)→h0.get? s.heap.objs.size=some (listOf #[] n)→SIt w h0 I a (strValues l) 0 →
   codeAny (model prog w) A (.builtin "list.extend.loop" ⟨[.ref s.heap.objs.size,.ref I,.ref s.heap.objs.size],[]⟩)
    (fun r s'=>match r with
     | .ok (.ret v)=>wpAny (model prog w) A (match v with
      | .ref a=>do match (← load a).data with
       | .seq xs _=>pure xs.toList
       | _=>unsupported "internal:collect"
      | _=>unsupported "internal:collect") Q E s'
     | .ok _=>False
     | .error e=>E e s') { s with heap:=h0,drawn:=d }:=by
  intro h0 n hb hS hit0
  refine Vl (s:={ s with drawn:=d }) (base:=s.heap) hh hl (fun s' hs'=>?_) (strValues l).length 0 h0 s.toks n (by exact(Nat.le_antisymm (Nl fun hn2=>fk [_] (.e (.s V0) (.a K0 V0) K0) rfl hn2) (Nl fun hn3=>fk [_] (.e (.a (.a K0 V0) K1) V0 K0) rfl hn3))) hit0 hS fun b o _ _ e=>hb b o (Nat.ne_of_lt (Heap.lt_size e)) (hk _ _ (Heap.get?_push_of_some _ e))
  obtain⟨h',tk,n',rfl,hkk,hS'⟩:=hs';refine Wb (wpAny_load hS' ?_)
  show wpAny _ _ (pure ((strValues l).toArray).toList) Q E _
  refine Wp ?_
  exact h l h' d tk hp fun b o e=>hkk b o (Nat.ne_of_lt (Heap.lt_size e)) (Nat.ne_of_lt (Nat.lt_trans (Heap.lt_size e) hIlt)) e
 refine wpAny_ite_split (fun _=>?_) (fun _=>Wp ⟨plainId_quiet PySem.F.plain_extend_loop _,fin _ 0 (fun b o _ e=>e) hS1 hit⟩)
 refine Wb (wpAny_rule ?_);refine Wb ?_
 show wpAny _ _ (updateSeq s.heap.objs.size (·.push .none) >>= fun _=>updateSeq s.heap.objs.size (·.pop)) _ _ _
 refine Wb (wpAny_updateSeq hS1 rfl ?_);have hS₂:=Heap.get?_update_self (Obj.mapSeq (·.push .none)) hS1 rfl
 refine wpAny_updateSeq (hz:=by seq_fits) hS₂ rfl ?_
 have hS₃:=Heap.get?_update_self (Obj.mapSeq (·.pop)) hS₂ rfl
 refine Wp ⟨plainId_quiet PySem.F.plain_extend_loop _,fin _ _ (fun b o hb e=>?_) hS₃ ?_⟩
 ·exact(Heap.get?_update_other _ _ (Ne.symm hb)).trans ((Heap.get?_update_other _ _ (Ne.symm hb)).trans e)
 ·exact(hit.but hS1 (Heap.SameBut.update ..).extBut).but hS₂ (Heap.SameBut.update ..).extBut
end
end Mine
namespace Mine
open PySem.Calls
noncomputable def Ke(r:Nat→Nat→Bool)(n:Nat)(P:Array Nat→Bool):KasT (Array Nat)→Bool
 | .ret p=>P p
 | .ask i j k=>decide (i<n) && decide (j<n) && Ke r n P (k (r i j))
theorem Pj{r:Nat→Nat→Bool}{n:Nat}{P:Array Nat→Bool}{cmp:Nat→Nat→(Bool→Shared→Prop)→Shared→Prop}{G:Array Nat→Shared→Prop}{I:Shared→Prop}
  (hc:∀ i j C s,i<n→j<n→I s→(∀ s',I s'→C (r i j) s')→cmp i j C s):∀ (t:KasT (Array Nat)) (s:Shared),Ke r n P t=true→I s→(∀ p s',P p=true→I s'→G p s')→t.kasWp cmp G s
 | .ret p,s,ho,hI,hG=>hG p s ho hI
 | .ask i j k,s,ho,hI,hG=>by
  simp only [Ke,Bool.and_eq_true,decide_eq_true_eq] at ho
  exact hc i j _ s ho.1.1 ho.1.2 hI fun s' hI'=>Pj hc (k (r i j)) s' ho.2 hI' hG
noncomputable def okP(f:List Nat)(n:Nat)(p:Array Nat):Bool:=p.toList.isPerm (List.range n) && decide ((p.toList.map fun i=>f.getD i 0).Pairwise (·≤·))
noncomputable def rkOf(f:List Nat)(i j:Nat):Bool:=decide (f.getD i 0<f.getD j 0)
theorem small2:∀ a b:Fin 2,Ke (rkOf [a,b]) 2 (okP [a,b] 2) (kas_sort 2)=true:=by decide +kernel
theorem small3:∀ a b c:Fin 3,Ke (rkOf [a,b,c]) 3 (okP [a,b,c] 3) (kas_sort 3)=true:=by decide +kernel
theorem small4:∀ a b c d:Fin 4,Ke (rkOf [a,b,c,d]) 4 (okP [a,b,c,d] 4) (kas_sort 4)=true:=by decide +kernel
theorem len2{α:Type}{l:List α}(h:l.length=2):∃ a b,l=[a,b]:=by
 cases l with
 | nil=>cases h
 | cons a l =>
  obtain⟨b,e⟩:=List.length_eq_one_iff.mp (Nat.succ.inj h);exact⟨a,b,congrArg _ e⟩
theorem len3{α:Type}{l:List α}(h:l.length=3):∃ a b c,l=[a,b,c]:=by
 cases l with
 | nil=>cases h
 | cons a l =>
  obtain⟨b,c,e⟩:=len2 (Nat.succ.inj h);exact⟨a,b,c,congrArg _ e⟩
theorem small_n{n:Nat}{f:List Nat}(h2:2≤n)(h4:n≤4)(hl:f.length=n)(hf:∀ x∈f,x<n):Ke (rkOf f) n (okP f n) (kas_sort n)=true:=by
 rcases (by lia:n=2∨n=3∨n=4) with rfl | rfl | rfl
 ·obtain⟨a,b,rfl⟩:=len2 hl
  exact small2 ⟨a,hf a (.head _)⟩ ⟨b,hf b (.tail _ (.head _))⟩
 ·obtain⟨a,b,c,rfl⟩:=len3 hl
  exact small3 ⟨a,hf a (.head _)⟩ ⟨b,hf b (.tail _ (.head _))⟩ ⟨c,hf c (.tail _ (.tail _ (.head _)))⟩
 ·cases f with
  | nil=>cases hl
  | cons a f =>
   obtain⟨b,c,d,rfl⟩:=len3 (Nat.succ.inj hl);exact small4 ⟨a,hf a (.head _)⟩ ⟨b,hf b (.tail _ (.head _))⟩ ⟨c,hf c (.tail _ (.tail _ (.head _)))⟩ ⟨d,hf d (.tail _ (.tail _ (.tail _ (.head _))))⟩
structure SLO {α:Type} (lt:α→α→Bool):Prop where
 irr:∀ a,lt a a=false
 tr:∀ a b c,lt a b=true→lt b c=true→lt a c=true
 tri:∀ a b,lt a b=false→lt b a=false→a=b
theorem Hn{α:Type}{p q:α→Bool}(h:∀ z,p z=true→q z=true):∀ l:List α,(l.filter p).length≤(l.filter q).length
 | []=>Nat.le_refl _
 | x::l=>by
  have ih:=Hn h l
  cases hp:p x with
  | true=>rw [List.filter_cons_of_pos hp,List.filter_cons_of_pos (h x hp)];simp only [List.length_cons];exact(Nl fun hn1=>fk [_,_] (.e V0 V1 (.e (.a (.s V1) K1) (.s V0) K0)) rfl ih hn1)
  | false =>
   rw [List.filter_cons_of_neg (by rw [hp];exact Bool.false_ne_true)]
   cases hq:q x with
   | true=>rw [List.filter_cons_of_pos hq];simp only [List.length_cons];exact(Nl fun hn1=>fk [_,_] (.e V0 V1 (.e (.a (.s V1) K1) V0 K0)) rfl ih hn1)
   | false=>rw [List.filter_cons_of_neg (by rw [hq];exact Bool.false_ne_true)];exact ih
theorem Ho{α:Type}{p q:α→Bool}(h:∀ z,p z=true→q z=true):∀ {l:List α} {x:α},x∈l→p x=false→q x=true→(l.filter p).length<(l.filter q).length
 | y::l,x,hx,h1,h2=>by
  rcases List.mem_cons.mp hx with rfl | hx
  ·rw [List.filter_cons_of_neg (by rw [h1];exact Bool.false_ne_true),List.filter_cons_of_pos h2]
   have:=Hn h l
   simp only [List.length_cons];exact(Nt fun hn1=>fk [_,_] (.e V0 V1 (.e (.s V1) V0 K0)) rfl this hn1)
  ·have ih:=Ho h hx h1 h2
   cases hp:p y with
   | true=>rw [List.filter_cons_of_pos hp,List.filter_cons_of_pos (h y hp)];simp only [List.length_cons];exact(Nt fun hn1=>fk [_,_] (.e (.s V0) V1 (.e (.s V1) (.s V0) K0)) rfl ih hn1)
   | false =>
    rw [List.filter_cons_of_neg (by rw [hp];exact Bool.false_ne_true)]
    cases hq:q y with
    | true=>rw [List.filter_cons_of_pos hq];simp only [List.length_cons];exact(Nt fun hn1=>fk [_,_] (.e (.s V0) V1 (.e (.s V1) V0 K0)) rfl ih hn1)
    | false=>rw [List.filter_cons_of_neg (by rw [hq];exact Bool.false_ne_true)];exact ih
noncomputable def rank{α:Type}(lt:α→α→Bool)(l:List α)(x:α):Nat:=(l.filter fun y=>lt y x).length
theorem Py{α:Type}{lt:α→α→Bool}(S:SLO lt){l:List α}{x y:α}(hx:x∈l):decide (rank lt l x<rank lt l y)=lt x y:=by
 cases h:lt x y with
 | true =>
  rw [decide_eq_true_eq]
  exact Ho (fun z hz=>S.tr z x y hz h) hx (S.irr x) h
 | false =>
  rw [decide_eq_false_iff_not]
  refine Nat.not_lt.mpr (Hn (fun z hz=>?_) l)
  cases h':lt y x with
  | true=>exact S.tr z y x hz h'
  | false=>rw [S.tri x y h h'];exact hz
theorem rank_lt{α:Type}{lt:α→α→Bool}(S:SLO lt){l:List α}{x:α}(hx:x∈l):rank lt l x<l.length:=by
 have:=Ho (p:=fun y=>lt y x) (q:=fun _=>true) (fun _ _=>rfl) hx (S.irr x) rfl
 rw [List.filter_eq_self.mpr (fun _ _=>rfl)] at this
 exact this
theorem Hb{α:Type}{lt:α→α→Bool}(S:SLO lt){l:List α}(h2:2≤l.length)(h4:l.length≤4){cmp:Nat→Nat→(Bool→Shared→Prop)→Shared→Prop}{G:Array Nat→Shared→Prop}{I:Shared→Prop}{s:Shared}
  (hc:∀ i j a b C s,l[i]?=some a→l[j]?=some b→I s→(∀ s',I s'→C (lt a b) s')→cmp i j C s) (hI:I s)
  (hG:∀ (p:Array Nat) s',p.toList.Perm (List.range l.length)→(∀ (out:List α),out=p.toList.filterMap (fun i=>l[i]?)→out.Perm l∧out.Pairwise (fun a b=>lt b a=false))→I s'→G p s'):(kas_sort l.length).kasWp cmp G s:=by
 have hf:∀ x∈l.map (rank lt l),x<l.length:=fun x hx=>by
  obtain⟨a,ha,rfl⟩:=List.mem_map.mp hx;exact rank_lt S ha
 have hget:∀ i a,l[i]?=some a→(l.map (rank lt l)).getD i 0=rank lt l a:=fun i a h=>by
  rw [List.getD_eq_getElem?_getD,List.getElem?_map,h];rfl
 refine Pj (r:=rkOf (l.map (rank lt l))) (fun i j C s hi hj hI' hC=>?_) _ s (small_n (f:=l.map (rank lt l)) h2 h4 (List.length_map ..) hf) hI fun p s' hp hI'=>?_
 ·have ei:=List.getElem?_eq_getElem hi
  have ej:=List.getElem?_eq_getElem hj
  refine hc i j _ _ C s ei ej hI' fun s' hs'=>?_
  have:=hC s' hs';unfold rkOf at this;rw [hget _ _ ei,hget _ _ ej,Py S (List.getElem_mem hi)] at this;exact this
 ·unfold okP at hp
  rw [Bool.and_eq_true,List.isPerm_iff,decide_eq_true_eq] at hp;obtain⟨hp1,hp2⟩:=hp
  refine hG p s' hp1 (fun out ho=>⟨?_,?_⟩) hI'
  ·rw [ho]
   have:=hp1.filterMap (fun i=>l[i]?)
   rw [List.filterMap_getElem?_range_length] at this;exact this
  ·subst ho
   rw [List.pairwise_filterMap];rw [List.pairwise_map] at hp2
   refine hp2.imp_of_mem fun {i j} hi hj hle a ha b hb=>?_
   rw [hget _ _ ha,hget _ _ hb] at hle;rw [← Py S (List.mem_of_getElem? hb),decide_eq_false_iff_not]
   exact(fun hn1=>fk [_,_] (.e V0 V1 (.e (.s V1) V0 K0)) rfl hle hn1)
noncomputable def ins{α:Type}(lt:α→α→Bool)(x:α):List α→List α
 | []=>[x]
 | y::l=>if lt y x=true then y::ins lt x l else x::y::l
noncomputable def Am{α:Type}(lt:α→α→Bool):List α→List α
 | []=>[]
 | x::l=>ins lt x (Am lt l)
theorem Kb{α:Type}(lt:α→α→Bool)(x:α):∀ l:List α,(ins lt x l).Perm (x::l)
 | []=>.rfl
 | y::l=>by
  unfold ins
  split
  ·exact((Kb lt x l).cons y).trans (List.Perm.swap ..)
  ·exact .rfl
theorem Aj{α:Type}(lt:α→α→Bool):∀ l:List α,(Am lt l).Perm l
 | []=>.rfl
 | x::l=>(Kb lt x _).trans ((Aj lt l).cons x)
theorem Kc{α:Type}{lt:α→α→Bool}(S:SLO lt)(x:α):∀ l:List α,l.Pairwise (fun a b=>lt b a=false)→(ins lt x l).Pairwise (fun a b=>lt b a=false)
 | [],_=>List.pairwise_singleton ..
 | y::l,h=>by
  rw [List.pairwise_cons] at h;unfold ins
  split
  ·rename_i hyx
   rw [List.pairwise_cons]
   refine⟨fun z hz=>?_,Kc S x l h.2⟩
   rcases List.mem_cons.mp ((Kb lt x l).mem_iff.mp hz) with rfl | hz
   ·cases h':lt z y with
    | false=>rfl
    | true=>have:=S.tr _ _ _ hyx h';rw [S.irr] at this;cases this
   ·exact h.1 z hz
  ·rename_i hyx
   have hyx:lt y x=false:=by simpa using hyx
   rw [List.pairwise_cons]
   refine⟨fun z hz=>?_,List.pairwise_cons.mpr h⟩
   rcases List.mem_cons.mp hz with rfl | hz
   ·exact hyx
   ·cases h':lt z x with
    | false=>rfl
    | true =>
     have hzy:=h.1 z hz
     cases h2:lt y z with
     | true=>have:=S.tr _ _ _ h2 h';rw [hyx] at this;cases this
     | false=>rw [S.tri _ _ h2 hzy] at hyx;rw [hyx] at h';cases h'
theorem Dd{α:Type}{lt:α→α→Bool}(S:SLO lt):∀ l:List α,(Am lt l).Pairwise (fun a b=>lt b a=false)
 | []=>.nil
 | x::l=>Kc S x _ (Dd S l)
theorem Gd{α:Type}{lt:α→α→Bool}(S:SLO lt):∀ {l l':List α},l.Perm l'→l.Pairwise (fun a b=>lt b a=false)→l'.Pairwise (fun a b=>lt b a=false)→l=l'
 | [],l',p,_,_=>(List.nil_perm.mp p).symm ▸ rfl
 | a::l,[],p,_,_=>by have:=p.length_eq;simp at this
 | a::l,b::l',p,h,h'=>by
  have hab:a=b:=by
   rw [List.pairwise_cons] at h h';have h1:a∈b::l':=p.mem_iff.mp (.head _);have h2:b∈a::l:=p.mem_iff.mpr (.head _)
   rcases List.mem_cons.mp h1 with e | h1
   ·exact e
   ·rcases List.mem_cons.mp h2 with e | h2
    ·exact e.symm
    ·exact S.tri _ _ (h'.1 a h1) (h.1 b h2)
  subst hab;rw [Gd S ((List.perm_cons a).mp p) (List.pairwise_cons.mp h).2 (List.pairwise_cons.mp h').2]
theorem Gt{α:Type}{lt:α→α→Bool}(S:SLO lt){l out:List α}(p:out.Perm l)(h:out.Pairwise (fun a b=>lt b a=false)):out=Am lt l :=
 Gd S (p.trans (Aj lt l).symm) h (Dd S l)
end Mine
namespace Mine
open PySem.Calls
open PySem.Builtin PySem.Builtin.Str PySem.Builtin.Int
noncomputable def Qm(a b:Str):Bool:=decide (a.cps.toList<b.cps.toList)
theorem str_ext{a b:Str}(h:a.cps.toList=b.cps.toList):a=b:=by
 cases a;cases b
 simp only at h
 rw [Array.toList_inj.mp h]
theorem Hv:SLO Qm:=by
 refine⟨fun a=>?_,fun a b c h1 h2=>?_,fun a b h1 h2=>?_⟩
 ·unfold Qm;rw [decide_eq_false_iff_not];exact List.lt_irrefl _
 ·unfold Qm at *;rw [decide_eq_true_eq] at *;exact List.lt_trans h1 h2
 ·unfold Qm at *;rw [decide_eq_false_iff_not] at *
  exact str_ext (List.le_antisymm (List.not_lt.mp h2) (List.not_lt.mp h1))
noncomputable def lexLt:List Str→List Str→Bool
 | [],[]=>false
 | [],_::_=>true
 | _::_,[]=>false
 | a::as,b::bs=>if a=b then lexLt as bs else Qm a b
theorem Mg:SLO lexLt:=by
 refine⟨fun a=>?_,fun a=>?_,fun a=>?_⟩
 ·induction a with
  | nil=>rfl
  | cons a as ih=>unfold lexLt;rw [if_pos rfl];exact ih
 ·induction a with
  | nil =>
   intro b c h1 h2
   cases c with
   | cons _ _=>rfl
   | nil=>cases b with
    | nil=>exact h1
    | cons _ _=>cases h2
  | cons a as ih =>
   intro b c h1 h2
   cases b with
   | nil=>cases h1
   | cons b bs =>
    cases c with
    | nil=>cases h2
    | cons c cs =>
     unfold lexLt at h1 h2 ⊢
     by_cases e1:a=b
     ·subst e1
      rw [if_pos rfl] at h1
      by_cases e2:a=c
      ·subst e2
       rw [if_pos rfl] at h2 ⊢;exact ih _ _ h1 h2
      ·rw [if_neg e2] at h2 ⊢;exact h2
     ·rw [if_neg e1] at h1
      by_cases e2:b=c
      ·subst e2
       rw [if_neg e1];exact h1
      ·rw [if_neg e2] at h2
       have h3:=Hv.tr _ _ _ h1 h2
       rw [if_neg (fun e=>by rw [e,Hv.irr] at h3;cases h3)]
       exact h3
 ·induction a with
  | nil =>
   intro b h1 h2
   cases b with
   | nil=>rfl
   | cons _ _=>cases h1
  | cons a as ih =>
   intro b h1 h2
   cases b with
   | nil=>cases h2
   | cons b bs =>
    unfold lexLt at h1 h2
    by_cases e1:a=b
    ·subst e1
     rw [if_pos rfl] at h1 h2;rw [ih _ h1 h2]
    ·rw [if_neg e1] at h1
     rw [if_neg (Ne.symm e1)] at h2;exact absurd (Hv.tri _ _ h1 h2) e1
theorem SLO.by{α β:Type}{lt:β→β→Bool}(S:SLO lt){f:α→β}(hf:∀ a b,f a=f b→a=b):SLO (fun a b=>lt (f a) (f b)) :=
 ⟨fun a=>S.irr _,fun a b c=>S.tr _ _ _,fun a b h1 h2=>hf _ _ (S.tri _ _ h1 h2)⟩
noncomputable def Bh(x:Str):List Str :=
 if (decide (x.length<(Str.ofString "}").length) || decide (Builtin.Str.strKind x<Builtin.Str.strKind "}"))=true then [x]
 else if (occurrences x "}" 0 x.length 1).isEmpty=true then [x] else partsBetween x (occurrences x "}" 0 x.length 1) (Str.ofString "}").length
theorem Ge(x:Str):glued "}" (Bh x)=x:=by
 have one:glued "}" [x]=x:=by cases x;rfl
 unfold Bh
 split
 ·exact one
 ·split
  ·exact one
  ·exact StrLaws.glued_between_self ..
theorem Og(a b:Str)(h:Bh a=Bh b):a=b:=by rw [← Ge a,← Ge b,h]
noncomputable def Av(a b:Str):Bool:=lexLt (Bh a) (Bh b)
theorem Ct:SLO Av:=Mg.by Og
noncomputable def Bj(a b:Str × Str):Bool:=lexLt [a.1,a.2] [b.1,b.2]
theorem Ko:SLO Bj:=Mg.by (f:=fun a:Str × Str=>[a.1,a.2]) fun a b h=>by
 obtain⟨a1,a2⟩:=a;obtain⟨b1,b2⟩:=b
 simp only [List.cons.injEq,and_true] at h
 rw [h.1,h.2]
section
variable{prog:Program}{w:World}{A:Around}{E:Value→Shared→Prop}{s:Shared}{h₀:Heap}{L:Addr}{m:Str→Option Value}{news:List (Addr × Obj)}
noncomputable def Mi(w:World)(A:Around)(s:Shared)(prog:Program)(a b:Addr)(xs ys:List (Str × Tok))(n k:Nat)(R:Result→Shared→Prop):Prop :=
 ∀ (ha:s.heap.get? a=some (listOf (strValues xs).toArray n)) (hb:s.heap.get? b=some (listOf (strValues ys).toArray k)),∀ (f i:Nat),xs.length+1≤f+i→i≤xs.length→i≤ys.length →
  R (.ok (.ret (.bool (lexLt ((xs.drop i).map (·.1)) ((ys.drop i).map (·.1)))))) s→wpAny (model prog w) A.in1 (Builtin.«list.__eq__.loop» ⟨[.ref a,.ref b,rawInt i,rawInt 0],[]⟩)
   (fun fin s'=>match fin with | .done f=>R (.ok f) s' | .again c'=>c'.quiet=true∧codeAny (model prog w) A c' R s') (fun e s'=>R (.error e) s') s
theorem lt_loop:∀ {a b c d e f g h i j k},Mi a b c d e f g h i j k:=by
 refine @(Aa (Al neW)<|@(Ef neI<|let_mvar% ?n:=(fun w A s prog a b xs ys n k R=>?_:∀ a b c d e f g h i j k,Mi a b c d e f g h i j k);?n _ _ _ _ _ _ _ _ _ _ _))
 intro ha hb;intro f
 induction f with
 | zero=>intro i h1 h2;lia
 | succ f ih =>
  intro i h1 hx hy h;unfold Builtin.«list.__eq__.loop»;refine Wb (listItems_at ha rfl (Wb (listItems_at hb rfl ?_)))
  have ea:(strValues xs).toArray[((i:Nat):Int).toNat]?=(xs[i]?).map fun p=>.str p.1 p.2:=by
   rw [Int.toNat_natCast,List.getElem?_toArray];unfold strValues;rw [List.getElem?_map]
  have eb:(strValues ys).toArray[((i:Nat):Int).toNat]?=(ys[i]?).map fun p=>.str p.1 p.2:=by
   rw [Int.toNat_natCast,List.getElem?_toArray];unfold strValues;rw [List.getElem?_map]
  rw [ea,eb]
  have zx:(strValues xs).toArray.size=xs.length:=by simp [strValues]
  have zy:(strValues ys).toArray.size=ys.length:=by simp [strValues]
  by_cases hxl:i<xs.length
  ·rw [List.getElem?_eq_getElem hxl]
   rw [List.drop_eq_getElem_cons hxl] at h
   by_cases hyl:i<ys.length
   ·rw [List.getElem?_eq_getElem hyl]
    rw [List.drop_eq_getElem_cons hyl] at h
    simp only [List.map_cons,lexLt] at h
    rw [Option.map_some];(try dsimp only);refine Wb (wpAny_eqBool_str ?_)
    by_cases he:xs[i].1=ys[i].1
    ·rw [if_pos he] at h
     rw [if_pos (by simpa using he)]
     have hc:((i:Int)+1)=((i+1:Nat):Int):=by push_cast;rfl
     refine Wp ⟨plainId_quiet PySem.MeetsSeq3.plain_eq_loop _,?_⟩;rw [hc];refine codeAny_builtin PySem.MeetsSeq3.entry_eq_loop ?_;rw [Around.under_plainId PySem.MeetsSeq3.plain_eq_loop _]
     exact ih (i+1) (by exact(Nl fun hn1=>fk [_,_,_] (.e (.s V0) (.a (.s V1) V2) (.e (.a (.a V1 (.s V2)) K1) (.s V0) K0)) rfl h1 hn1)) hxl hyl h
    ·rw [if_neg he] at h
     rw [if_neg (by simpa using he)]
     refine Wb (listItems_at ha rfl (Wb (listItems_at hb rfl ?_)));rw [ea,eb,List.getElem?_eq_getElem hxl,List.getElem?_eq_getElem hyl]
     simp only [Option.map_some]
     refine Wb (show wpAny _ _ (compareOp .Lt _ _) _ _ _ from lt_str (Wp h))
   ·rw [List.getElem?_eq_none (by exact(Nat.le_of_not_lt hyl))]
    rw [Option.map_some,Option.map_none];dsimp only;refine Wb (listItems_at ha rfl (Wb (listItems_at hb rfl (Wp ?_))))
    rw [List.drop_eq_nil_of_le (show ys.length≤i by exact(Nat.le_of_not_lt hyl))] at h
    have:decide ((strValues xs).toArray.size<(strValues ys).toArray.size)=false:=by rw [zx,zy,decide_eq_false_iff_not];exact(fun hn1=>fk [_,_,_] (.e (.s V0) V1 (.e V2 V0 (.e (.s V1) V2 K0))) rfl hxl (Nat.le_of_not_lt hyl) hn1)
    show R (.ok (.ret (.bool (decide ((strValues xs).toArray.size<(strValues ys).toArray.size))))) s
    rw [this];exact h
  ·rw [List.getElem?_eq_none (show xs.length≤i by exact(Nat.le_of_not_lt hxl))]
   simp only [Option.map_none]
   refine Wb (listItems_at ha rfl (Wb (listItems_at hb rfl (Wp ?_))))
   show R (.ok (.ret (.bool (decide ((strValues xs).toArray.size<(strValues ys).toArray.size))))) s
   rw [zx,zy]
   rw [List.drop_eq_nil_of_le (show xs.length≤i by exact(Nat.le_of_not_lt hxl))] at h
   by_cases hyl:i<ys.length
   ·rw [List.drop_eq_getElem_cons hyl] at h
    have:decide (xs.length<ys.length)=true:=by rw [decide_eq_true_eq];exact(Nt fun hn1=>fk [_,_,_] (.e V0 V1 (.e (.s V1) V2 (.e V2 V0 K0))) rfl (Nat.le_of_not_lt hxl) hyl hn1)
    rw [this];exact h
   ·rw [List.drop_eq_nil_of_le (show ys.length≤i by exact(Nat.le_of_not_lt hyl))] at h
    have:decide (xs.length<ys.length)=false:=by rw [decide_eq_false_iff_not];exact(fun hn1=>fk [_,_,_] (.e V0 V1 (.e V2 V0 (.e (.s V1) V2 K0))) rfl hx (Nat.le_of_not_lt hyl) hn1)
    rw [this];exact h
theorem lt_code{a b:Addr}{xs ys:List (Str × Tok)}{n k:Nat}{R:Result→Shared→Prop}(ha:s.heap.get? a=some (listOf (strValues xs).toArray n))(hb:s.heap.get? b=some (listOf (strValues ys).toArray k))
  (h:R (.ok (.ret (.bool (lexLt (xs.map (·.1)) (ys.map (·.1)))))) s):codeAny (model prog w) A (.builtin "list.__eq__.loop" ⟨[.ref a,.ref b,rawInt 0,rawInt 0],[]⟩) R s:=by
 refine codeAny_builtin PySem.MeetsSeq3.entry_eq_loop ?_;rw [Around.under_plainId PySem.MeetsSeq3.plain_eq_loop _]
 exact lt_loop ha hb (xs.length+1) 0 (by exact(Nl fun hn1=>fk [_] (.e (.a (.a (.s V0) K0) K1) (.s V0) K0) rfl hn1)) (Nat.zero_le _) (Nat.zero_le _) h
noncomputable def Ki(w:World)(A:Around)(s:Shared)(prog:Program)(E:Value→Shared→Prop)(a b:Addr)(xs ys:List (Str × Tok))(n k:Nat)(Q:Bool→Shared→Prop):Prop :=
 ∀ (hu:A.units<cLine) (ha:s.heap.get? a=some (listOf (strValues xs).toArray n)) (hb:s.heap.get? b=some (listOf (strValues ys).toArray k)) (h:Q (lexLt (xs.map (·.1)) (ys.map (·.1))) s),wpAny (model prog w) A (keyLt' oneType' (.ref a) (.ref b)) Q E s
theorem Wg:∀ {a b c d e f g h i j k l},Ki a b c d e f g h i j k l:=by
 refine @(Aa (Al neW)<|@(Ey neI<|let_mvar% ?n:=(fun w A s prog E a b xs ys n k Q=>?_:∀ a b c d e f g h i j k l,Ki a b c d e f g h i j k l);?n _ _ _ _ _ _ _ _ _ _ _ _))
 intro hu ha hb h;have hTa:s.TypeIs (.ref a) "list":=⟨_,ha,rfl⟩;have hTb:s.TypeIs (.ref b) "list":=⟨_,hb,rfl⟩;rw [keyLt'_oneType,oneLt'_eq];rw [if_pos rfl];refine Wb (wpAny_cRoomFor hu ?_);refine Wb (wpAny_callSpecialIfBound?_slot hTa F.slot_list_lt ?_);refine wpAny_call (codeAny_call_builtin F.slot_list_lt.plain F.entry_list_lt (F.slot_list_lt.check _ _ _ _ _ _ _ _ hTa (F.args_list_lt_2 _ _) ?_))
 show wpAny _ _ (do
  if !(← isInstance (.ref b) (.type "list")) then return ← ret .notImplemented
  again (.builtin "list.__eq__.loop" ⟨[.ref a,.ref b,rawInt 0,rawInt 0],[]⟩)) _ _ _
 refine Wb (wpAny_isInstance hTb sub_list_list ?_)
 rw [if_neg (by decide)]
 refine Wp ⟨plainId_quiet PySem.MeetsSeq3.plain_eq_loop _,?_⟩;refine lt_code ha hb ?_;exact wpAny_truthy_bool h
end
end Mine
namespace Mine
open PySem.Calls
open PySem.Builtin PySem.Builtin.Str PySem.Builtin.Int
section
variable{prog:Program}{w:World}{A:Around}{E:Value→Shared→Prop}{s:Shared}{h₀:Heap}{L:Addr}{m:Str→Option Value}{news:List (Addr × Obj)}
theorem La(x y:Str)(t u k:Tok):∃ raising:Sem Fin,«str.split» ⟨[.str x t,.str y u,.int 1 k],[]⟩ =
  (if (decide (x.length<y.length) || decide (Builtin.Str.strKind x<Builtin.Str.strKind y))=true then(do rule "str.split.sep-cannot-occur";ret (← newList [.str x t])) else
   if (y.length == 0)=true then raising else
   if (true && (occurrences x y 0 x.length 1).isEmpty)=true then(do rule "str.split.same-object";ret (← newList [.str x t])) else
   (do ret (← newList (← (partsBetween x (occurrences x y 0 x.length 1) y.length).mapM mkStr)))):=⟨_,rfl⟩
theorem Mj:∀ (ps:List Str) (s:Shared) (Q:List Value→Shared→Prop),(∀ p∈ps,p.length≤sizeLine)→(∀ (l:List (Str × Tok)) tk,l.map (·.1)=ps→Q (strValues l) { s with toks:=tk })→wpAny (model prog w) A (ps.mapM mkStr) Q E s
 | [],s,Q,_,h=>by rw [List.mapM_nil];exact Wp (h [] s.toks rfl)
 | p::ps,s,Q,hz,h=>by
  rw [List.mapM_cons];refine Wb (wpAny_mkStr ?_ (hz p (.head _)))
  refine Wb (Mj ps _ _ (fun q hq=>hz q (.tail _ hq)) fun l tk hl=>Wp ?_)
  exact h ((p,s.toks)::l) tk (by rw [List.map_cons,hl])
theorem split1{x:Str}{t u k:Tok}{Q:Value→Shared→Prop}(hsz:x.length≤1000)
  (h:∀ (l:List (Str × Tok)) tk,l.map (·.1)=Bh x→Q (.ref s.heap.objs.size) { s with heap:=s.heap.push (listOf (strValues l).toArray 0),toks:=tk }) :
  wpAny (model prog w) A (call (.builtin "str.split") [.str x t,.str (Str.ofString "}") u,.int 1 k]) Q E s:=by
 obtain⟨raising,htree⟩:=La x (Str.ofString "}") t u k;refine wpAny_call_entry F.slot_str_split (typeIs_str _ _ _) F.entry_str_split ?_ (F.args_str_split_3 _ _ _);rw [htree];unfold Bh at h
 by_cases h1:(decide (x.length<(Str.ofString "}").length) || decide (Builtin.Str.strKind x<Builtin.Str.strKind (Str.ofString "}")))=true
 ·rw [if_pos h1] at h ⊢
  exact Wb (wpAny_rule (Wb (wpAny_newList (Wp ⟨_,rfl,h [(x,t)] s.toks rfl⟩))))
 ·rw [if_neg h1] at h ⊢
  rw [if_neg (by decide)]
  by_cases h2:(occurrences x (Str.ofString "}") 0 x.length 1).isEmpty=true
  ·rw [if_pos h2] at h
   rw [if_pos (by rw [h2];rfl)]
   exact Wb (wpAny_rule (Wb (wpAny_newList (Wp ⟨_,rfl,h [(x,t)] s.toks rfl⟩))))
  ·rw [if_neg h2] at h
   rw [if_neg (by simpa using h2)]
   have hle:∀ p∈partsBetween x (occurrences x (Str.ofString "}") 0 x.length 1) (Str.ofString "}").length,p.length≤sizeLine:=fun p hp=>by
    simp only [partsBetween,List.mem_map] at hp
    obtain⟨⟨i,j⟩,_,rfl⟩:=hp
    exact Nat.le_trans (strSub_length_le ..) (Nat.le_trans hsz (by rw [sizeLine_eq];decide))
   refine Wb (Mj _ _ _ hle fun l tk hl=>?_)
   refine Wb (wpAny_newList (Wp ⟨_,rfl,h l tk hl⟩) ?_)
   have:(strValues l).length=(partsBetween x (occurrences x (Str.ofString "}") 0 x.length 1) (Str.ofString "}").length).length:=by
    rw [← hl];simp [strValues]
   rw [this,length_partsBetween,sizeLine_eq];have:=StrLaws.occ_length_le x (Str.ofString "}") 0 x.length 1
   exact(Nl fun hn1=>fk [_] (.e V0 K1 (.e (.s (.k 16777216)) (.s V0) K0)) rfl this hn1)
theorem const_int{M:Model}{env:Env}{i:Int}{k:Nat}{pos:Pos}{Q:Value→Shared→Prop}(h:Q (.int i s.toks) { s with toks:=s.toks+1 }):wpAny M A (eval (.Constant (.int i) k pos) env) Q E s:=fun _ _ _=>h
noncomputable abbrev De(p:Pos):Arguments:={ posonlyargs:=[],args:=[{ arg:="n",annotation:=none,pos:=p }],vararg:=none,kwonlyargs:=[],kw_defaults:=[],kwarg:=none,defaults:=[] }
noncomputable abbrev Fm(p1 p2 p3 p4 p5:Pos):PySem.Expr:=.Call (.Attribute (.Name "n" p1) "split" p2) [.Constant (.str "}") 0 p3,.Constant (.int 1) 0 p4] [] p5
noncomputable abbrev Cx:Scope:={ kind:=.function,names:=[("n",.local)],isGenerator:=false,isCoroutine:=false,more:=[] }
noncomputable def Ij(w:World)(A:Around)(s:Shared)(prog:Program)(f c':Addr)(qual:Str)(pm ctv:Value)(p0 p1 p2 p3 p4 p5:Pos)(x:Str)(tx:Tok)(R:Result→Shared→Prop):Prop :=
 ∀ (zq:A.depth<recursionLimit) (hlim:s.heap.NoLimit) (ho:s.heap.get? f=some (kla_obj "<lambda>" qual (De p0) (Fm p1 p2 p3 p4 p5) Cx [] pm c' ctv)) (hcd:s.heap.CodeRec (.ref c') qual) (hx:x.length≤1000) (hline:(p2.endLine == p5.line)=true) (h:∀ D l h' tk,l.map (·.1)=Bh x→(∀ b o,s.heap.get? b=some o→h'.get? b=some o)→h'.get? D=some (listOf (strValues l).toArray 0)→s.heap.objs.size≤D→R (.ok (.ret (.ref D))) { s with heap:=h',toks:=tk }),codeAny (model prog w) A (.call (.ref f) ⟨[.str x tx],[]⟩) R s
theorem Tw:∀ {a b c d e f g h i j k l m n o p q r},Ij a b c d e f g h i j k l m n o p q r:=by
 refine @(Aa (Al neW)<|@(Aa neI<|@(Ee neI<|let_mvar% ?n:=(fun w A s prog f c' qual pm ctv p0 p1 p2 p3 p4 p5 x tx R=>?_:∀ a b c d e f g h i j k l m n o p q r,Ij a b c d e f g h i j k l m n o p q r);?n _ _ _ _ _ _ _ _ _ _ _ _ _ _ _ _ _ _)))
 intro zq hlim ho hcd hx hline h;refine kla_callFunE zq ho rfl rfl rfl rfl hcd ?_;refine wpAny_of_eq (a:=[(Str.ofString "n",Value.str x tx)]) rfl ?_
 refine wpAny_newFunctionEnv (show ∀ x∈Cx.names,x.2≠.cell by decide) (fun y hy=>by rw [List.mem_singleton.mp hy];rfl) (fun h₁ hns hsb=>⟨hlim.fresh _ hsb,?_⟩) rfl
 show codeAny _ _ (.expr (Fm p1 p2 p3 p4 p5) (envX qual Cx s.heap.objs.size f (.ref c') [])) _ _
 have hk₁:∀ b o,s.heap.get? b=some o→h₁.get? b=some o:=fun b o e=>hsb.extBut b o (Nat.ne_of_lt (Heap.lt_size e)) (Heap.get?_push_of_some _ e)
 have hF:Fr s.heap s.heap.objs.size h₁ (fun y=>([("n",.str x tx)]:List (Str × Value)).reverse.lookup y):=⟨hns,hk₁,Nat.le_refl _⟩
 refine kla_codeExpr ?_
 refine Call_method2 rfl rfl hline (nameX_L hF rfl ⟨"str","str.split",F.plainAttrs_str,F.slot_str_split,F.type_str_split,typeIs_str _ _ _,(fun _ e=>nomatch e),?_⟩ rfl rfl)
 refine Calls.callWith_builtin rfl (Calls.evalArgs_plain (Calls.spliced_cons (Calls.Constant_str (Calls.spliced_cons ?_))));refine const_int (Calls.spliced_nil ?_)
 refine split1 hx fun l tk hl=>?_
 refine h _ l _ tk hl (fun b o e=>Heap.get?_push_of_some _ (hk₁ b o e)) (Heap.get?_push_size _ rfl) ?_
 exact Nat.le_of_lt hF.ns.lt
end
end Mine
namespace Mine
open PySem.Calls
theorem Lh{d:Addr}{o:Obj}{post:List (Addr × Obj)}(h2:∀ p∈post,p.1≠d):∀ {pre:List (Addr × Obj)},(∀ p∈pre,p.1≠d)→UpdF d o (pre++(d,o)::post) (fun o'=>pre++(d,o')::post)
 | [],_=>.head h2
 | q::pre,h1=>.tail (h1 q (.head _)) (Lh h2 fun p hp=>h1 p (.tail _ hp))
theorem Nq{α:Type}(l:List α):katRev false l=l:=rfl
noncomputable abbrev Ej(kl:List (Addr × List (Str × Tok))):List (Addr × Obj):=kl.map fun q=>(q.1,listOf (strValues q.2).toArray 0)
theorem Hr{α:Type}(l:List α)(f:α→Value):∀ p:List Nat,(∀ i∈p,i<l.length)→(p.map fun i=>(l.map f).getD i .none)=(p.filterMap (fun i=>l[i]?)).map f
 | [],_=>rfl
 | i::p,h=>by
  have hi:i<l.length:=h i (.head _);have e:l[i]?=some l[i]:=List.getElem?_eq_getElem hi
  rw [List.map_cons,Hr l f p fun j hj=>h j (.tail _ hj),List.filterMap_cons,e]
  simp [List.getD_eq_getElem?_getD,hi]
theorem Jw{α β:Type}(l:List α)(f:α→β)(p:List Nat):(p.filterMap (fun i=>l[i]?)).map f=p.filterMap (fun i=>(l.map f)[i]?):=by
 rw [List.map_filterMap]
 congr 1
 funext i
 rw [List.getElem?_map]
section
variable{prog:Program}{w:World}{A:Around}{E:Value→Shared→Prop}{s:Shared}{h₀:Heap}{L:Addr}{m:Str→Option Value}{news:List (Addr × Obj)}
structure LamIn (news:List (Addr × Obj)) (f:Addr):Prop where
 ex:∃ qual p0 p1 p2 p3 p4 p5 pm c' ctv oc vs t,(f,kla_obj "<lambda>" qual (De p0) (Fm p1 p2 p3 p4 p5) Cx [] pm c' ctv)∈news∧(p2.endLine == p5.line)=true∧(c',oc)∈news∧oc.data=.fields vs∧vs[1]?=some (.str qual t)
noncomputable def Mf(w:World)(A:Around)(s:Shared)(prog:Program)(E:Value→Shared→Prop)(h₀:Heap)(L:Addr)(m:Str→Option Value)(news:List (Addr × Obj))(f:Addr)(x:Str)(tx:Tok)(Q:Value→Shared→Prop):Prop :=
 ∀ (hlim:h₀.NoLimit) (zq:A.depth<recursionLimit) (F:Fr h₀ L s.heap m) (N:News h₀ L s.heap news) (X:LamIn news f) (hx:x.length≤1000) (h:∀ D l h' tk,l.map (·.1)=Bh x→Fr h₀ L h' m→News h₀ L h' ((D,listOf (strValues l).toArray 0)::news)→(∀ p∈news,p.1<D)→L<D→Q (.ref D) { s with heap:=h',toks:=tk }),wpAny (model prog w) A (call (.ref f) [.str x tx]) Q E s
theorem Sm:∀ {w A s prog E h₀ L m news f x tx Q},Mf w A s prog E h₀ L m news f x tx Q:=by
 refine @(Aa (Al neW)<|@(Eg neI<|let_mvar% ?n:=(fun w A s prog E h₀ L m news f x tx Q=>?_:∀ a b c d e f g h i j k l m,Mf a b c d e f g h i j k l m);?n _ _ _ _ _ _ _ _ _ _ _ _ _))
 intro hlim zq F N X hx h;obtain⟨qual,p0,p1,p2,p3,p4,p5,pm,c',ctv,oc,vs,t,hf,hl,hc,hd,hv⟩:=X.ex
 refine wpAny_call (Tw zq (hlim.keeps F.keep) (N _ hf).1 ⟨c',oc,vs,t,rfl,(N _ hc).1,hd,hv⟩ hx hl fun D l h' tk e hk hD hge=>?_)
 have hLD:L<D:=Nat.lt_of_lt_of_le F.ns.lt hge
 refine h D l h' tk e (F.keeps hk) (fun p hp=>?_) (fun p hp=>Nat.lt_of_lt_of_le (Heap.lt_size (N p hp).1) hge) hLD
 rcases List.mem_cons.mp hp with rfl | hp
 ·exact⟨hD,Nat.ne_of_gt hLD,Heap.get?_none_of_le (Nat.le_trans F.above (Nat.le_of_lt hLD))⟩
 ·exact⟨hk _ _ (N p hp).1,(N p hp).2⟩
theorem Pk{f kS D:Addr}{e1:Nat}{Fin:List Value→Nat→Shared→Prop}(hlim:h₀.NoLimit)(zq:A.depth<recursionLimit)(X:LamIn news f)(hDk:D≠kS)(hnk:∀ p∈news,p.1≠kS)(l:List (Str × Tok))(hx:∀ p∈l,p.1.length≤1000)
  (fin:∀ kl e (s':Shared),s'.gens=s.gens→s'.os=s.os→s'.drawn=s.drawn→kl.map (fun q=>q.2.map (·.1))=l.map (fun p=>Bh p.1)→(∀ q∈kl,kS<q.1)→Fr h₀ L s'.heap m→News h₀ L s'.heap (Ej kl++(kS,seqObj "list" (kl.map fun q=>.ref q.1).toArray e)::(D,seqObj "list" #[] e1)::news)→Fin (kl.map fun q=>.ref q.1) e s') :
  ∀ (r l1:List (Str × Tok)) (kl:List (Addr × List (Str × Tok))) (e:Nat) (s':Shared),l=l1++r→s'.gens=s.gens→s'.os=s.os→s'.drawn=s.drawn→kl.map (fun q=>q.2.map (·.1))=l1.map (fun p=>Bh p.1)→(∀ q∈kl,kS<q.1)→Fr h₀ L s'.heap m →
   News h₀ L s'.heap (Ej kl++(kS,seqObj "list" (kl.map fun q=>.ref q.1).toArray e)::(D,seqObj "list" #[] e1)::news)→KatKeys prog w A h₀ L m kS (.ref f) Fin (strValues r) (kl.map fun q=>.ref q.1) e s'
 | [],l1,kl,e,s',hl,g1,g2,g3,hk,hlt,F,N=>by
  rw [List.append_nil] at hl;subst hl;exact KatKeys.nil (fin kl e s' g1 g2 g3 hk hlt F N)
 | (x,tx)::r,l1,kl,e,s',hl,g1,g2,g3,hk,hlt,F,N=>by
  refine KatKeys.cons ?_
  have X':LamIn (Ej kl++(kS,seqObj "list" (kl.map fun q=>.ref q.1).toArray e)::(D,seqObj "list" #[] e1)::news) f:=by
   obtain⟨qual,p0,p1,p2,p3,p4,p5,pm,c',ctv,oc,vs,t,hf,r1,hc,r2⟩:=X.ex;exact⟨qual,p0,p1,p2,p3,p4,p5,pm,c',ctv,oc,vs,t,Mr _ (.tail _ (.tail _ hf)),r1,Mr _ (.tail _ (.tail _ hc)),r2⟩
  refine Sm hlim zq F N X' (hx (x,tx) (by rw [hl];simp)) fun D' lk h' tk ek F' N' hltD _=>?_
  have hkD:kS<D':=hltD (kS,_) (Mr _ (.head _))
  have hne:∀ p∈(D',listOf (strValues lk).toArray 0)::Ej kl,p.1≠kS:=fun p hp=>by
   rcases List.mem_cons.mp hp with rfl | hp
   ·exact Nat.ne_of_gt hkD
   ·obtain⟨q,hq,rfl⟩:=List.mem_map.mp hp
    exact Nat.ne_of_gt (hlt q hq)
  have hpost:∀ p∈(D,seqObj "list" #[] e1)::news,p.1≠kS:=fun p hp=>by
   rcases List.mem_cons.mp hp with rfl | hp
   ·exact hDk
   ·exact hnk p hp
  refine KatBack.intro F' N' (Lh (pre:=(D',listOf (strValues lk).toArray 0)::Ej kl) hpost hne) fun h2 c2 F2 N2=>?_
  have e2:(kl.map fun q=>Value.ref q.1)++[Value.ref D']=(kl++[(D',lk)]).map fun q=>Value.ref q.1:=by rw [List.map_append];rfl
  rw [e2] at N2 ⊢
  refine Pk hlim zq X hDk hnk l hx fin r (l1++[(x,tx)]) (kl++[(D',lk)]) c2 _ (by rw [hl,List.append_assoc];rfl) g1 g2 g3 ?_ ?_ F2 ?_
  ·rw [List.map_append,List.map_append,hk];simp [ek]
  ·intro q hq
   rcases List.mem_append.mp hq with hq | hq
   ·exact hlt q hq
   ·rw [List.mem_singleton.mp hq];exact hkD
  ·intro p hp
   refine N2 p ?_
   rcases List.mem_append.mp hp with hp | hp
   ·unfold Ej at hp
    rw [List.map_append] at hp
    rcases List.mem_append.mp hp with hp | hp
    ·exact Ml _ (.tail _ hp)
    ·rw [List.mem_singleton.mp hp];exact Ml _ (.head _)
   ·exact Mr _ hp
noncomputable def Gv(w:World)(A:Around)(s:Shared)(prog:Program)(E:Value→Shared→Prop)(h₀:Heap)(L:Addr)(m:Str→Option Value)(news:List (Addr × Obj))(f D:Addr)(n:Nat)(l:List (Str × Tok))(P:PySem.Fin→Shared→Prop):Prop :=
 ∀ (hlim:h₀.NoLimit) (zq:A.depth<recursionLimit) (hu:A.units<cLine) (F:Fr h₀ L s.heap m) (N:News h₀ L s.heap news) (X:LamIn news f) (ho:s.heap.get? D=some (seqObj "list" (strValues l).toArray n)) (hDL:D≠L) (hD0:h₀.get? D=none) (hnD:∀ p∈news,p.1≠D) (h2:2≤l.length) (h4:l.length≤4) (hx:∀ p∈l,p.1.length≤1000) (h:∀ (out:List (Str × Tok)) c (s':Shared),s'.gens=s.gens→s'.os=s.os→out.map (·.1)=Am Av (l.map (·.1))→Fr h₀ L s'.heap m→News h₀ L s'.heap ((D,listOf (strValues out).toArray c)::news)→P (.done (.ret .none)) s'),wpAny (model prog w) A (ksk_tree D (.ref f) false) P E s
theorem Rm:∀ {w A s prog E h₀ L m news f D n l P},Gv w A s prog E h₀ L m news f D n l P:=by
 refine @(Aa (Al neW)<|@(Cp neI<|let_mvar% ?n:=(fun w A s prog E h₀ L m news f D n l P=>?_:∀ a b c d e f g h i j k l m n,Gv a b c d e f g h i j k l m n);?n _ _ _ _ _ _ _ _ _ _ _ _ _ _))
 intro hlim zq hu F N X ho hDL hD0 hnD h2 h4 hx h
 have hvl:(strValues l).length=l.length:=by simp [strValues]
 refine kat_keyed (vs:=strValues l) F N ho hDL hD0 hnD (by rw [hvl];exact h2) (by rw [hvl];exact(Nt fun hn1=>fk [_] (.e V0 (.k 4) (.e (.k 64) V0 K0)) rfl h4 hn1)) fun kS e1 h' F' N' hlt hltn=>?_
 have hDk:D≠kS:=Nat.ne_of_lt hlt
 have hnk:∀ p∈news,p.1≠kS:=fun p hp=>Nat.ne_of_lt (hltn p hp)
 refine Pk (s:={ s with heap:=h' }) (D:=D) (e1:=e1) hlim zq X hDk hnk l hx (fun kl e s' g1 g2 g3 hk hgt F2 N2=>?_) l [] [] 0 _ rfl rfl rfl rfl rfl (fun _ z=>nomatch z) F' N'
 have hkl:kl.length=l.length:=by have:=congrArg List.length hk;simpa using this
 refine kas_kind (vs:=kl.map fun q=>.ref q.1) (T:=.type "list") (by rw [List.length_map,hkl];exact h2) (fun v hv=>?_) (by decide) (by decide) ?_
 ·obtain⟨q,hq,rfl⟩:=List.mem_map.mp hv
  have hq':=N2 (q.1,listOf (strValues q.2).toArray 0) (Ml _ (List.mem_map_of_mem hq));exact(Looks.ld hq'.1).andThen .now
 rw [hvl];have hlm:(l.map (·.1)).length=l.length:=List.length_map ..;rw [← hlm]
 refine Hb Ct (l:=l.map (·.1)) (I:=fun s''=>s''=s') (by rw [hlm];exact h2) (by rw [hlm];exact h4) (fun i j a b C s'' hi hj hI hC=>?_) rfl fun p s'' hp hout hI=>?_
 ·subst hI
  have get:∀ i a,(l.map (·.1))[i]?=some a→∃ q,q∈kl∧(katRev false (kl.map fun q=>Value.ref q.1)).getD i Value.none=.ref q.1∧q.2.map (·.1)=Bh a:=by
   intro i a hi
   have hil:i<l.length:=by
    rcases Nat.lt_or_ge i l.length with z | z
    ·exact z
    ·rw [List.getElem?_eq_none (by rw [hlm];exact z)] at hi;cases hi
   have hik:i<kl.length:=by exact(Nt fun hn1=>fk [_,_,_] (.e V0 V1 (.e (.s V2) V0 (.e V1 V2 K0))) rfl (Es hkl) hil hn1)
   refine⟨kl[i],List.getElem_mem hik,?_,?_⟩
   ·rw [Nq,List.getD_eq_getElem?_getD,List.getElem?_map,List.getElem?_eq_getElem hik];rfl
   ·have h1:(kl.map (fun q=>q.2.map (·.1)))[i]?=(l.map (fun p=>Bh p.1))[i]?:=by rw [hk]
    rw [List.getElem?_map,List.getElem?_map,List.getElem?_eq_getElem hik,List.getElem?_eq_getElem hil] at h1;rw [List.getElem?_map,List.getElem?_eq_getElem hil] at hi
    simp only [Option.map_some,Option.some.injEq] at h1 hi
    rw [h1,hi]
  obtain⟨q1,m1,e1',k1⟩:=get i a hi;obtain⟨q2,m2,e2',k2⟩:=get j b hj;unfold kas_ask;rw [e1',e2'];refine Wg hu (N2 (q1.1,listOf (strValues q1.2).toArray 0) (Ml _ (List.mem_map_of_mem m1))).1 (N2 (q2.1,listOf (strValues q2.2).toArray 0) (Ml _ (List.mem_map_of_mem m2))).1 ?_;rw [k1,k2];exact hC _ rfl
 ·subst hI
  have hne:∀ p∈Ej kl,p.1≠kS:=fun p hp=>by
   obtain⟨q,hq,rfl⟩:=List.mem_map.mp hp;exact Nat.ne_of_gt (hgt q hq)
  have hpost:∀ p∈(D,seqObj "list" #[] e1)::news,p.1≠kS:=fun p hp=>by
   rcases List.mem_cons.mp hp with rfl | hp
   ·exact hDk
   ·exact hnk p hp
  refine KatFin.intro F2 N2 (Lh hpost hne) fun h3 c3 F3 N3=>?_
  have N3':News h₀ L h3 ((D,seqObj "list" #[] e1)::news):=fun p hp=>N3 p (Mr _ (.tail _ hp))
  refine KasFin.intro F3 N3' (.head hnD) fun h5 c5 F5 N5=>?_
  have hin:∀ i∈p.toList,i<l.length:=fun i hi=>by
   have:=hp.mem_iff.mp hi;rw [hlm] at this;exact List.mem_range.mp this
  have ev:(p.toList.map fun i=>(strValues l).getD i .none)=strValues (p.toList.filterMap fun i=>l[i]?):=Hr l (fun p=>.str p.1 p.2) p.toList hin
  have N5':News h₀ L h5 ((D,listOf (strValues (p.toList.filterMap fun i=>l[i]?)).toArray c5)::news):=by
   rw [← ev];exact N5
  obtain⟨o1,o2⟩:=hout _ rfl
  refine h (p.toList.filterMap fun i=>l[i]?) c5 { s'' with heap:=h5 } g1 g2 ?_ F5 N5'
  rw [Jw];exact Gt Ct o1 o2
end
end Mine
namespace Mine
open PySem.Calls
section
variable{prog:Program}{w:World}{A:Around}{E:Value→Shared→Prop}{s:Shared}{h₀:Heap}{L:Addr}{m:Str→Option Value}{news:List (Addr × Obj)}
theorem Qb{σ:Type}{M:Model}{st:σ}{P:Unit × σ→Shared→Prop}(h:P ((),st) s):wpAny M A ((pure ():StateT σ Sem Unit).run st) P E s:=by
 rw [StateT.run_pure];exact Wp h
noncomputable def Ii(w:World)(A:Around)(s:Shared)(prog:Program)(E:Value→Shared→Prop)(h₀:Heap)(L:Addr)(m:Str→Option Value)(news:List (Addr × Obj))(f D:Addr)(n:Nat)(x:Str)(tx:Tok)(P:PySem.Fin→Shared→Prop):Prop :=
 ∀ (hlim:h₀.NoLimit) (zq:A.depth<recursionLimit) (F:Fr h₀ L s.heap m) (N:News h₀ L s.heap news) (X:LamIn news f) (ho:s.heap.get? D=some (seqObj "list" #[.str x tx] n)) (hDL:D≠L) (hD0:h₀.get? D=none) (hnD:∀ p∈news,p.1≠D) (hx:x.length≤1000) (h:∀ c (s':Shared),s'.gens=s.gens→s'.os=s.os→Fr h₀ L s'.heap m→News h₀ L s'.heap ((D,listOf #[.str x tx] c)::news)→P (.done (.ret .none)) s'),wpAny (model prog w) A (ksk_tree D (.ref f) false) P E s
theorem Tu:∀ {w A s prog E h₀ L m news f D n x tx P},Ii w A s prog E h₀ L m news f D n x tx P:=by
 refine @(Aa (Al neW)<|@(Hj neI<|let_mvar% ?n:=(fun w A s prog E h₀ L m news f D n x tx P=>?_:∀ a b c d e f g h i j k l m n o,Ii a b c d e f g h i j k l m n o);?n _ _ _ _ _ _ _ _ _ _ _ _ _ _ _))
 intro hlim zq F N X ho hDL hD0 hnD hx h
 have s1:=Heap.SameBut.update s.heap D (Obj.mapSeq fun _=>(#[]:Array Value))
 obtain⟨e1,ho1⟩:∃ e1,(s.heap.update D (Obj.mapSeq fun _=>(#[]:Array Value))).get? D=some (seqObj "list" #[] e1):=⟨_,get?_update_seq ho fun _=>#[]⟩
 have F1:=kas_fr F s1 hDL hD0;have N1:=kas_news N s1 hnD;unfold ksk_tree;refine Wb (listItems_at ho rfl ?_)
 refine Wb (listUpdate_at ho rfl ?_ (by simp;rw [sizeLine_eq];exact(Nl fun hn1=>fk [] (.e (.s (.k 16777216)) K1 K0) rfl hn1)) (Nat.zero_le _))
 refine Wb (seqEpoch_at ho1 rfl ?_)
 refine Wb (wpAny_newTuple ?_ (by simp;rw [sizeLine_eq];exact(Nl fun hn1=>fk [] (.e (.s (.k 16777216)) K1 K0) rfl hn1)))
 refine Wb (wpAny_newList ?_ (Nat.zero_le _));refine wpAny_holding ?_;unfold ksk_rest;refine Wb (wpAny_rule ?_);rw [show (#[.str x tx]:Array Value)=[.str x tx].toArray from rfl,List.forIn_toArray,List.forIn_cons];have F2:=(F1.push (o:=(seqObj "tuple" [.str x tx].toArray 0))).push (o:=(seqObj "list" #[] 0))
 generalize hkS:((s.heap.update D (Obj.mapSeq fun _=>(#[]:Array Value))).push (seqObj "tuple" [.str x tx].toArray 0)).objs.size=kS
 have hkge:s.heap.objs.size≤kS:=by rw [← hkS,size_push',Heap.size_update];exact Nat.le_succ _
 have hDk:D≠kS:=Nat.ne_of_lt (Nat.lt_of_lt_of_le (Heap.lt_size ho) hkge);have hLk:L<kS:=Nat.lt_of_lt_of_le F.ns.lt hkge
 have hnk:∀ p∈news,p.1≠kS:=fun p hp=>Nat.ne_of_lt (Nat.lt_of_lt_of_le (Heap.lt_size (N p hp).1) hkge)
 have hk0:h₀.get? kS=none:=Heap.get?_none_of_le (Nat.le_trans F.above (Nat.le_of_lt hLk))
 have hk2:(((s.heap.update D (Obj.mapSeq fun _=>(#[]:Array Value))).push (seqObj "tuple" [.str x tx].toArray 0)).push (seqObj "list" #[] 0)).get? kS=some (seqObj "list" #[] 0):=by rw [← hkS];exact Heap.get?_push_size _ rfl
 have N2:News h₀ L (((s.heap.update D (Obj.mapSeq fun _=>(#[]:Array Value))).push (seqObj "tuple" [.str x tx].toArray 0)).push (seqObj "list" #[] 0)) ((kS,seqObj "list" #[] 0)::(D,seqObj "list" #[] e1)::news):=fun p hp=>by
  rcases List.mem_cons.mp hp with rfl | hp
  ·exact⟨hk2,Nat.ne_of_gt hLk,hk0⟩
  ·rcases List.mem_cons.mp hp with rfl | hp
   ·exact⟨Heap.get?_push_of_some _ (Heap.get?_push_of_some _ ho1),hDL,hD0⟩
   ·exact⟨Heap.get?_push_of_some _ (Heap.get?_push_of_some _ (N1 p hp).1),(N1 p hp).2⟩
 have X2:LamIn ((kS,seqObj "list" #[] 0)::(D,seqObj "list" #[] e1)::news) f:=by
  obtain⟨qual,p0,p1,p2,p3,p4,p5,pm,c',ctv,oc,vs,t,hf,r1,hc,r2⟩:=X.ex;exact⟨qual,p0,p1,p2,p3,p4,p5,pm,c',ctv,oc,vs,t,(.tail _ (.tail _ hf)),r1,(.tail _ (.tail _ hc)),r2⟩
 refine Wb (Wb (Wb (wpAny_attempt (Sm (E:=fun e s'=>_) hlim zq F2 N2 X2 hx fun D' lk h' tk ek F' N' hltD hLD=>?_))))
 have nk:=N' (kS,seqObj "list" #[] 0) (.tail _ (.head _));have s3:=Heap.SameBut.update h' kS (Obj.mapSeq (·.push (.ref D')));obtain⟨c2,hc2⟩:∃ c2,(h'.update kS (Obj.mapSeq (·.push (.ref D')))).get? kS=some (seqObj "list" #[.ref D'] c2):=⟨_,get?_update_seq nk.1 (·.push (.ref D'))⟩;dsimp only
 refine Wb (listUpdate_at nk.1 rfl ?_ (Nat.zero_le _) (by simp))
 refine Wp ?_;dsimp only;rw [List.forIn_nil];refine Wp ?_;refine Wb (listItems_at hc2 rfl ?_);unfold ksk_end;dsimp only;rw [if_neg Bool.false_ne_true];rw [if_pos (show ([Value.str x tx].toArray).size<2 from Nat.lt_succ_self 1)];refine Wb (Wp ?_);rw [if_pos (show ([Value.str x tx].toArray).size<2 from Nat.lt_succ_self 1)];refine Wb (Qb ?_);dsimp only;unfold ksk_tail;dsimp only
 simp only [Bool.false_eq_true,if_false]
 have hz:(arrOf (SortSt.mk' general' (#[.ref D'].zip [.str x tx].toArray) #[] 7 none)).map (·.2)=#[.str x tx]:=by
  show (#[Value.ref D'].zip [Value.str x tx].toArray).map (·.2)=#[Value.str x tx]
  simp
 rw [hz]
 have s4:=Heap.SameBut.update (h'.update kS (Obj.mapSeq (·.push (.ref D')))) kS (Obj.mapSeq fun _=>(#[]:Array Value))
 refine Wb (listUpdate_at hc2 rfl ?_ (by simp;rw [sizeLine_eq];exact(Nl fun hn1=>fk [] (.e (.s (.k 16777216)) K1 K0) rfl hn1)) (Nat.zero_le _))
 refine Wb (wpAny_letGo ?_)
 have nD:((h'.update kS (Obj.mapSeq (·.push (.ref D')))).update kS (Obj.mapSeq fun _=>(#[]:Array Value))).get? D=some (seqObj "list" #[] e1) :=
  (s4.2 _ hDk).trans ((s3.2 _ hDk).trans (N' (D,seqObj "list" #[] e1) (.tail _ (.tail _ (.head _)))).1)
 refine Wb (seqEpoch_at nD rfl ?_)
 have s5:=Heap.SameBut.update ((h'.update kS (Obj.mapSeq (·.push (.ref D')))).update kS (Obj.mapSeq fun _=>(#[]:Array Value))) D (Obj.mapSeq fun _=>(#[.str x tx]:Array Value))
 obtain⟨c5,hc5⟩:∃ c5,(((h'.update kS (Obj.mapSeq (·.push (.ref D')))).update kS (Obj.mapSeq fun _=>(#[]:Array Value))).update D (Obj.mapSeq fun _=>(#[.str x tx]:Array Value))).get? D=some (listOf #[.str x tx] c5):=⟨_,get?_update_seq nD fun _=>#[.str x tx]⟩
 refine Wb (listUpdate_at nD rfl ?_ (Nat.zero_le _) (show (1:Nat)≤sizeLine+1 from Nat.le_add_left 1 _))
 simp only [bne_self_eq_false,Bool.false_eq_true,if_false]
 refine Wp ?_
 refine h c5 _ rfl rfl (kas_fr (kas_fr (kas_fr F' s3 (Nat.ne_of_gt hLk) hk0) s4 (Nat.ne_of_gt hLk) hk0) s5 hDL hD0) fun p hp=>?_
 rcases List.mem_cons.mp hp with rfl | hp
 ·exact⟨hc5,hDL,hD0⟩
 ·exact⟨(s5.2 _ (hnD p hp)).trans ((s4.2 _ (hnk p hp)).trans ((s3.2 _ (hnk p hp)).trans (N' p (.tail _ (.tail _ (.tail _ hp)))).1)),(N p hp).2⟩
noncomputable def Ha(w:World)(A:Around)(s:Shared)(prog:Program)(E:Value→Shared→Prop)(h₀:Heap)(L:Addr)(m:Str→Option Value)(news:List (Addr × Obj))(f a:Addr)(oS:Obj)(ks:List Str)(Q:Value→Shared→Prop):Prop :=
 ∀ (hh:A.handled=none) (hlim:h₀.NoLimit) (zq:A.depth<recursionLimit) (hu:A.units+2<cLine) (F:Fr h₀ L s.heap m) (N:News h₀ L s.heap news) (X:LamIn news f) (hm:(a,oS)∈news) (hT:Df prog w oS ks) (h1:1≤ks.length) (h4:ks.length≤4) (hx:∀ k∈ks,k.length≤1000) (h:∀ (D:Addr) (out:List (Str × Tok)) c (s':Shared),s'.gens=s.gens→s'.os=s.os→out.map (·.1)=Am Av ks→(∀ p∈news,p.1<D)→Fr h₀ L s'.heap m→News h₀ L s'.heap ((D,listOf (strValues out).toArray c)::news)→Q (.ref D) s'),wpAny (model prog w) A (call (.builtin "sorted") [.ref a] [("key",.ref f)]) Q E s
theorem Sb:∀ {w A s prog E h₀ L m news f a oS ks Q},Ha w A s prog E h₀ L m news f a oS ks Q:=by
 refine @(Aa (Al neW)<|@(Cp neI<|let_mvar% ?n:=(fun w A s prog E h₀ L m news f a oS ks Q=>?_:∀ a b c d e f g h i j k l m n,Ha a b c d e f g h i j k l m n);?n _ _ _ _ _ _ _ _ _ _ _ _ _ _))
 intro hh hlim zq hu F N X hm hT h1 h4 hx h
 have hne:ks≠[]:=fun e=>by rw [e] at h1;simp at h1
 have hcS:oS.cls=.type "set":=by obtain⟨_,_,_,_,he,_⟩:=hT;exact he.1
 refine call_function_entry_kw kind_sorted plain_sorted entry_sorted (ksk_s1 _ _) ?_
 unfold Builtin.«sorted»;refine Wb (m:=checkCount "sorted" 1 1 _) (Wp ?_)
 refine Wb (Ou (A:=A.in1) hh (N _ hm).1 hcS hT hne (by exact(Nt fun hn1=>fk [_] (.e V0 (.k 4) (.e (.k 60) V0 K0)) rfl h4 hn1)) fun l h' d tk hp hk=>?_)
 have hll:l.length=ks.length:=by rw [← List.length_map (f:=(·.1)),hp.length_eq]
 refine Wb (wpAny_newList ?_ (by simp [strValues];rw [sizeLine_eq];exact(Nl fun hn1=>fk [_,_] (.e V0 (.k 4) (.e V1 V0 (.e (.s (.k 16777216)) V1 K0))) rfl h4 (El hll) hn1)))
 have F1:Fr h₀ L (h'.push (seqObj "list" (strValues l).toArray 0)) m:=(F.keeps hk).push _;have hLD:L<h'.objs.size:=(F.keeps hk).ns.lt;have hD0:h₀.get? h'.objs.size=none:=Heap.get?_none_of_le (Nat.le_trans F.above (Nat.le_of_lt hLD))
 have hnD:∀ p∈news,p.1<h'.objs.size:=fun p hp=>Heap.lt_size (hk _ _ (N p hp).1)
 have N1:News h₀ L (h'.push (seqObj "list" (strValues l).toArray 0)) news:=fun p hp=>⟨Heap.get?_push_of_some _ (hk _ _ (N p hp).1),(N p hp).2⟩
 have hoD:(h'.push (seqObj "list" (strValues l).toArray 0)).get? h'.objs.size=some (seqObj "list" (strValues l).toArray 0):=Heap.get?_push_size _ rfl
 have hxl:∀ p∈l,p.1.length≤1000:=fun p hp'=>hx _ (hp.mem_iff.mp (List.mem_map_of_mem hp'))
 refine Wb (wpAny_holding (wpAny_call_entry_kw slot_list_sort ⟨_,hoD,rfl⟩ entry_list_sort ?body (ksk_l1 _ _)))
 show wpAny (model prog w) A.in1.in1 (Builtin.«list.sort» ⟨[.ref h'.objs.size],[("key",.ref f)]⟩) _ _ { s with heap:=h'.push (seqObj "list" (strValues l).toArray 0),drawn:=d,toks:=tk }
 rw [ksk_t1];have hsort:Am Av (l.map (·.1))=Am Av ks:=Gt Ct ((Aj _ _).trans hp) (Dd Ct _)
 rcases l with _ | ⟨⟨x,tx⟩,_ | ⟨p2,r⟩⟩
 ·rw [List.length_nil] at hll;lia
 ·
  refine Tu (s:={ s with heap:=h'.push (seqObj "list" (strValues [(x,tx)]).toArray 0),drawn:=d,toks:=tk }) hlim zq F1 N1 X hoD (Nat.ne_of_gt hLD) hD0 (fun p hp=>Nat.ne_of_lt (hnD p hp)) (hxl (x,tx) (.head _)) fun c s' g1 g2 F2 N2=>⟨_,rfl,Wp ⟨_,rfl,?_⟩⟩
  exact h _ [(x,tx)] c s' g1 g2 (by rw [← hsort];rfl) hnD F2 N2
 ·
  refine Rm (s:={ s with heap:=h'.push (seqObj "list" (strValues ((x,tx)::p2::r)).toArray 0),drawn:=d,toks:=tk }) (l:=(x,tx)::p2::r) hlim zq (by show A.units+1+1<cLine;exact(Nt fun hn1=>fk [_,_] (.e (.a (.a V0 (.k 2)) K1) V1 (.e V1 (.a (.s V0) K1) K0)) rfl hu hn1)) F1 N1 X hoD (Nat.ne_of_gt hLD) hD0 (fun p hp=>Nat.ne_of_lt (hnD p hp)) (by simp) (by rw [hll];exact h4) hxl fun out c s' g1 g2 ho F2 N2=>⟨_,rfl,Wp ⟨_,rfl,?_⟩⟩
  exact h _ out c s' g1 g2 (by rw [← hsort];exact ho) hnD F2 N2
end
end Mine
namespace Mine
open PySem.Calls
def Ak(news:List (Addr × Obj))(v:Value)(q:Pr):Prop:=∃ a t1 t2,v=.ref a∧(a,Ad #[.str q.1 t1,.str q.2 t2])∈news
theorem Ak.mono{news news':List (Addr × Obj)}(hs:∀ p∈news,p∈news'){v:Value}{q:Pr}(x:Ak news v q):Ak news' v q:=let ⟨a,t1,t2,e,hm⟩:=x;⟨a,t1,t2,e,hs _ hm⟩
theorem All2.get{α β:Type}{P:α→β→Prop}{l:List α}{r:List β}(h:All2 P l r):∀ {i:Nat} {b:β},r[i]?=some b→∃ a,l[i]?=some a∧P a b:=by
 induction h with
 | nil=>intro i b hb;simp at hb
 | cons x _ ih =>
  intro i b hb
  cases i with
  | zero=>simp only [List.getElem?_cons_zero,Option.some.injEq] at hb ⊢;exact⟨_,rfl,hb ▸ x⟩
  | succ i=>simp only [List.getElem?_cons_succ] at hb ⊢;exact ih hb
theorem All2.pick{α β:Type}{P:α→β→Prop}{l:List α}{r:List β}(h:All2 P l r):∀ p:List Nat,(∀ i∈p,i<r.length)→All2 P (p.filterMap fun i=>l[i]?) (p.filterMap fun i=>r[i]?)
 | [],_=>.nil
 | i::p,hp=>by
  have hi:=hp i (.head _);obtain⟨a,ea,pa⟩:=h.get (List.getElem?_eq_getElem hi);rw [List.filterMap_cons,List.filterMap_cons,ea,List.getElem?_eq_getElem hi]
  exact .cons pa (All2.pick h p fun j hj=>hp j (.tail _ hj))
section
variable{prog:Program}{w:World}{A:Around}{E:Value→Shared→Prop}{s:Shared}{h₀:Heap}{L:Addr}{m:Str→Option Value}{news:List (Addr × Obj)}
theorem Kf{h:Heap}:∀ {vs:List Value} {qs:List Pr},All2 (Ak news) vs qs→(∀ p∈news,h.get? p.1=some p.2)→∃ fs:List Value,KatTups h vs fs∧fs.length=vs.length∧∀ v∈fs,∃ x t,v=.str x t
 | _,_,.nil,_=>⟨[],.nil,rfl,fun _ z=>nomatch z⟩
 | _,_,.cons (b:=q) hx r,hn=>by
  obtain⟨a,t1,t2,e,hm⟩:=hx;obtain⟨fs,k,hl,hf⟩:=Kf r hn;subst e
  refine⟨.str q.1 t1::fs,.cons (hn _ hm) rfl rfl rfl k,by simp [hl],fun v hv=>?_⟩
  rcases List.mem_cons.mp hv with rfl | hv
  ·exact⟨_,_,rfl⟩
  ·exact hf v hv
noncomputable def Kj(w:World)(A:Around)(s:Shared)(prog:Program)(E:Value→Shared→Prop)(news:List (Addr × Obj))(v1 v2:Value)(q1 q2:Pr)(Q:Bool→Shared→Prop):Prop :=
 ∀ (N:∀ p∈news,s.heap.get? p.1=some p.2) (h1:Ak news v1 q1) (h2:Ak news v2 q2) (h:Q (Bj q1 q2) s),wpAny (model prog w) A (keyLt' (tuples' true) v1 v2) Q E s
theorem Wh:∀ {a b c d e f g h i j k},Kj a b c d e f g h i j k:=by
 refine @(Aa (Al neW)<|@(Ef neI<|let_mvar% ?n:=(fun w A s prog E news v1 v2 q1 q2 Q=>?_:∀ a b c d e f g h i j k,Kj a b c d e f g h i j k);?n _ _ _ _ _ _ _ _ _ _ _))
 intro N h1 h2 h;obtain⟨a,t1,t2,rfl,m1⟩:=h1;obtain⟨b,u1,u2,rfl,m2⟩:=h2;refine kat_lt (N _ m1) rfl (N _ m2) rfl ?_;unfold Bj lexLt at h;refine kat_cons (wpAny_eqBool_str ?_)
 by_cases e1:q1.1=q2.1
 ·rw [if_pos e1] at h
  rw [decide_eq_true e1];refine kat_yes (kat_cons (wpAny_eqBool_str ?_));unfold lexLt at h
  by_cases e2:q1.2=q2.2
  ·rw [if_pos e2] at h
   rw [decide_eq_true e2];refine kat_yes (kat_nil ?_);exact h
  ·rw [if_neg e2] at h
   rw [decide_eq_false e2];refine kat_no ?_;exact kat_one _ _ (lt_str h)
 ·rw [if_neg e1] at h
  rw [decide_eq_false e1];refine kat_no ?_;exact oneLt_str h
noncomputable def It(w:World)(A:Around)(s:Shared)(prog:Program)(h₀:Heap)(L:Addr)(m:Str→Option Value)(news:List (Addr × Obj))(D:Addr)(e1:Nat)(vs:List Value)(qs:List Pr)(C:Shared→Prop):Prop :=
 ∀ (F:Fr h₀ L s.heap m) (N:News h₀ L s.heap ((D,seqObj "list" #[] e1)::news)) (hnD:∀ p∈news,p.1≠D) (hp:All2 (Ak news) vs qs) (h2:2≤vs.length) (h4:vs.length≤4) (h:∀ out c h',All2 (Ak news) out (Am Bj qs)→Fr h₀ L h' m→News h₀ L h' ((D,listOf (List.toArray out) c)::news)→C { s with heap:=h' }),wpAny (model prog w) A (keyKind' vs.toArray) (fun κ s'=>(kas_sort vs.length).kasWp (kas_ask prog w A κ vs) (fun p s''=>KasFin h₀ L m D e1 (p.toList.map fun i=>vs.getD i .none) C s'') s') (fun _ _=>False) s
theorem Um:∀ {a b c d e f g h i j k l m},It a b c d e f g h i j k l m:=by
 refine @(Aa (Al neW)<|@(Eg neI<|let_mvar% ?n:=(fun w A s prog h₀ L m news D e1 vs qs C=>?_:∀ a b c d e f g h i j k l m,It a b c d e f g h i j k l m);?n _ _ _ _ _ _ _ _ _ _ _ _ _))
 intro F N hnD hp h2 h4 h
 have hn:∀ p∈news,s.heap.get? p.1=some p.2:=fun p hp=>(N p (.tail _ hp)).1
 obtain⟨fs,k,hl,hf⟩:=Kf hp hn
 refine kat_kind k (by exact(Nt fun hn1=>fk [_,_] (.e (.k 2) V0 (.e V0 V1 (.e V1 K0 K0))) rfl h2 (Es hl) hn1)) (T:=.type "str") (fun v hv=>?_) (by decide) ?_
 ·obtain⟨x,t,rfl⟩:=hf v hv
  exact .now
 have hql:qs.length=vs.length:=hp.length.symm;rw [← hql]
 refine Hb Ko (l:=qs) (I:=fun s''=>s''=s) (by exact(Nl fun hn1=>fk [_,_] (.e (.k 2) V0 (.e V0 V1 (.e (.s V1) (.k 2) K0))) rfl h2 (Es hql) hn1)) (by exact(Nl fun hn1=>fk [_,_] (.e V0 (.k 4) (.e V1 V0 (.e (.s (.k 4)) V1 K0))) rfl h4 (El hql) hn1)) (fun i j a b C' s'' hi hj hI hC=>?_) rfl fun p s'' hpp hout hI=>?_
 ·subst hI
  obtain⟨v1,ev1,p1⟩:=hp.get hi;obtain⟨v2,ev2,p2⟩:=hp.get hj;unfold kas_ask;rw [List.getD_eq_getElem?_getD,List.getD_eq_getElem?_getD,ev1,ev2];exact Wh hn p1 p2 (hC _ rfl)
 ·subst hI
  have hin:∀ i∈p.toList,i<qs.length:=fun i hi=>List.mem_range.mp (hpp.mem_iff.mp hi)
  have ev:=Hr vs id p.toList fun i hi=>hql ▸ hin i hi
  rw [List.map_id,List.map_id] at ev
  refine KasFin.intro F N (.head hnD) fun h5 c5 F5 N5=>?_
  rw [ev] at N5;obtain⟨o1,o2⟩:=hout _ rfl;refine h _ c5 h5 ?_ F5 N5;rw [← Gt Ko o1 o2];exact hp.pick p.toList hin
end
end Mine
namespace Mine
open PySem.Calls
theorem Ph{α:Type}(lt:α→α→Bool){l:List α}(h:l.length<2):Am lt l=l:=by
 cases l with
 | nil=>rfl
 | cons a l =>
  cases l with
  | nil=>rfl
  | cons b l=>exact absurd h (Nat.not_lt.mpr (Nat.le_add_left 2 l.length))
section
variable{prog:Program}{w:World}{A:Around}{E:Value→Shared→Prop}{s:Shared}{h₀:Heap}{L:Addr}{m:Str→Option Value}{news:List (Addr × Obj)}
noncomputable def Ga(w:World)(A:Around)(s:Shared)(prog:Program)(E:Value→Shared→Prop)(h₀:Heap)(L:Addr)(m:Str→Option Value)(news:List (Addr × Obj))(D:Addr)(n:Nat)(vs:List Value)(qs:List Pr)(P:PySem.Fin→Shared→Prop):Prop :=
 ∀ (F:Fr h₀ L s.heap m) (N:News h₀ L s.heap ((D,listOf vs.toArray n)::news)) (hnD:∀ p∈news,p.1≠D) (hp:All2 (Ak news) vs qs) (h4:vs.length≤4) (h:∀ out c h',All2 (Ak news) out (Am Bj qs)→Fr h₀ L h' m→News h₀ L h' ((D,listOf (List.toArray out) c)::news)→P (.done (.ret .none)) { s with heap:=h' }),wpAny (model prog w) A (Builtin.«list.sort» ⟨[.ref D],[]⟩) P E s
theorem Ik:∀ {w A s prog E h₀ L m news D n vs qs P},Ga w A s prog E h₀ L m news D n vs qs P:=by
 refine @(Aa (Al neW)<|@(Cp neI<|let_mvar% ?n:=(fun w A s prog E h₀ L m news D n vs qs P=>?_:∀ a b c d e f g h i j k l m n,Ga a b c d e f g h i j k l m n);?n _ _ _ _ _ _ _ _ _ _ _ _ _ _))
 intro F N hnD hp h4 h;have nD:=N (D,listOf vs.toArray n) (.head _)
 have Nr:News h₀ L s.heap news:=fun p hp=>N p (.tail _ hp)
 by_cases h2:vs.length<2
 ·have hql:qs.length<2:=by rw [← hp.length];exact h2
  have s1:=Heap.SameBut.update s.heap D (Obj.mapSeq fun _=>(#[]:Array Value))
  obtain⟨e1,ho1⟩:∃ e1,(s.heap.update D (Obj.mapSeq fun _=>(#[]:Array Value))).get? D=some (seqObj "list" #[] e1):=⟨_,get?_update_seq nD.1 fun _=>#[]⟩
  have F1:=kas_fr F s1 nD.2.1 nD.2.2;have N1:=kas_news Nr s1 hnD;rw [list_sort_plain];refine Wb (listItems_at nD.1 rfl ?_)
  refine Wb (listUpdate_at nD.1 rfl ?_ (by rw [List.size_toArray,sizeLine_eq];exact(Nl fun hn1=>fk [_] (.e (.s V0) (.k 2) (.e (.s (.k 16777216)) V0 K0)) rfl h2 hn1)) (Nat.zero_le _))
  refine Wb (seqEpoch_at ho1 rfl ?_)
  refine Wb (wpAny_newTuple ?_ (by show vs.length≤_;rw [sizeLine_eq];exact(Nl fun hn1=>fk [_] (.e (.s V0) (.k 2) (.e (.s (.k 16777216)) V0 K0)) rfl h2 hn1)))
  refine Wb (wpAny_newList ?_ (Nat.zero_le _));refine wpAny_holding ?_;dsimp only
  have h2':vs.toArray.size<2:=by rw [List.size_toArray];exact h2
  rw [if_pos h2',if_pos h2'];refine Wb (Wp ?_);refine Wb (Qb ?_);dsimp only
  have hz:(arrOf (SortSt.mk' general' (vs.toArray.zip vs.toArray) #[] 7 none)).map (·.2)=vs.toArray:=by
   show (vs.toArray.zip vs.toArray).map (·.2)=vs.toArray
   apply Array.toList_inj.mp
   rw [Array.toList_map,ksk_zip]
   show (vs.zip vs).map (·.2)=vs
   rw [List.map_snd_zip (Nat.le_refl _)]
  rw [hz];have ho6:=Heap.get?_push_of_some (seqObj "list" #[] 0) (Heap.get?_push_of_some (seqObj "tuple" vs.toArray 0) ho1);refine Wb (seqEpoch_at ho6 rfl ?_)
  have s5:=Heap.SameBut.update (((s.heap.update D (Obj.mapSeq fun _=>(#[]:Array Value))).push (seqObj "tuple" vs.toArray 0)).push (seqObj "list" #[] 0)) D (Obj.mapSeq fun _=>vs.toArray)
  obtain⟨c5,hc5⟩:∃ c5,((((s.heap.update D (Obj.mapSeq fun _=>(#[]:Array Value))).push (seqObj "tuple" vs.toArray 0)).push (seqObj "list" #[] 0)).update D (Obj.mapSeq fun _=>vs.toArray)).get? D=some (listOf vs.toArray c5):=⟨_,get?_update_seq ho6 fun _=>vs.toArray⟩
  refine Wb (listUpdate_at ho6 rfl ?_ (Nat.zero_le _) (by rw [List.size_toArray,sizeLine_eq];exact(Nl fun hn1=>fk [_] (.e (.s V0) (.k 2) (.e (.a (.s (.k 16777216)) K1) V0 K0)) rfl h2 hn1)))
  simp only [bne_self_eq_false,Bool.false_eq_true,if_false]
  refine Wp ?_
  refine h vs c5 _ (by rw [Ph _ hql];exact hp) (kas_fr ((F1.push _).push _) s5 nD.2.1 nD.2.2) fun p hp=>?_
  rcases List.mem_cons.mp hp with rfl | hp
  ·exact⟨hc5,nD.2⟩
  ·exact⟨(s5.2 _ (hnD p hp)).trans (Heap.get?_push_of_some _ (Heap.get?_push_of_some _ (N1 p hp).1)),(N1 p hp).2⟩
 ·refine kat_list_sort (vs:=vs) (news:=news) F Nr nD.1 nD.2.1 nD.2.2 hnD (by exact(Nat.le_of_not_lt h2)) (by exact(Nt fun hn1=>fk [_] (.e V0 (.k 4) (.e (.k 64) V0 K0)) rfl h4 hn1)) fun e1 h' F' N'=>?_
  exact Um F' N' hnD hp (by exact(Nat.le_of_not_lt h2)) h4 fun out c h'' ho F2 N2=>h out c h'' ho F2 N2
theorem Qy{D:Addr}{n:Nat}{vs:List Value}{qs:List Pr}{Q:Value→Shared→Prop}(F:Fr h₀ L s.heap m)(N:News h₀ L s.heap ((D,listOf vs.toArray n)::news))(hnD:∀ p∈news,p.1≠D)(hp:All2 (Ak news) vs qs)(h4:vs.length≤4)
  (h:∀ out c h',All2 (Ak news) out (Am Bj qs)→Fr h₀ L h' m→News h₀ L h' ((D,listOf (List.toArray out) c)::news)→Q .none { s with heap:=h' }) :
  wpAny (model prog w) A (call (.builtin "list.sort") [.ref D]) Q E s:=by
 refine wpAny_call_entry slot_list_sort ⟨_,(N _ (.head _)).1,rfl⟩ entry_list_sort (Ik F N hnD hp h4 fun out c h' ho F' N'=>⟨_,rfl,h out c h' ho F' N'⟩) (args_list_sort _)
theorem Rl{S v d:Addr}{l:List ((Str × Tok) × (Str × Tok))}{n c₀:Nat}{R:Result→Shared→Prop}(hh:A.handled=none)(hv:s.heap.get? v=some { cls:=.type "dict_items",data:=.fields #[.ref d] })(hd:s.heap.get? d=some (dictOf (Bb w.params l) n))(hn:(l.map (·.1.1)).Nodup)(hz:l.length≤60)
  (hSv:S≠v) (hSd:d≠S) (hS:s.heap.get? S=some { cls:=.type "list",data:=.seq #[] c₀ })
  (h:∀ tl h' tk c,All2 Lu tl l→(tl.map (·.1)).Pairwise (·<·)→(∀ q∈tl,s.heap.objs.size<q.1∧h'.get? q.1=some q.2)→(∀ b o,b≠S→s.heap.get? b=some o→h'.get? b=some o)→h'.get? S=some (listOf (tl.map fun q=>.ref q.1).toArray c)→R (.ok (.ret (.ref S))) { s with heap:=h',toks:=tk }) :
  codeAny (model prog w) A (.builtin "list.__iadd__" ⟨[.ref S,.ref v],[]⟩) R s:=by
 obtain⟨ep,hat⟩:=KdkAt.of (Hc (prog:=prog) (w:=w) (n:=n) hn);refine codeAny_builtin entry_list_iadd' ?_
 show wpAny _ A.in1 (Builtin.List.listExtendWith (.ref S) (.ref v) (.ref S)) _ _ s
 refine kdx_extend (knd:=strKind prog w) (kvs:=Dn l) (ep:=ep) hh ⟨_,hv,rfl,rfl⟩ (hat.dictAt hd) S hSv hSd _ c₀ hS (fun h' tk acc c as hk hS hl hG hacc=>?_) (by rw [List.length_map,sizeLine_eq];exact(Nl fun hn1=>fk [_] (.e V0 (.k 60) (.e (.s (.k 16777216)) V0 K0)) rfl hz hn1))
 obtain⟨tl,rfl,f2,f3⟩:=tl_of (h:=h') as l (by rw [hl,List.length_map]) hG.pairs
 have ea:acc=(tl.map fun q=>.ref q.1).toArray:=by rw [← Array.toArray_toList (xs:=acc),hacc,List.map_map];rfl
 subst ea
 exact h tl h' tk c f2 hG.rise (fun q hq=>⟨hG.above _ (List.mem_map_of_mem hq),f3 q hq⟩) hk hS
theorem Lj{v d:Addr}{l:List ((Str × Tok) × (Str × Tok))}{n:Nat}{Q:List Value→Shared→Prop}(hh:A.handled=none)(hv:s.heap.get? v=some { cls:=.type "dict_items",data:=.fields #[.ref d] })(hd:s.heap.get? d=some (dictOf (Bb w.params l) n))(hn:(l.map (·.1.1)).Nodup)(hz:l.length≤60)
  (h:∀ tl h' tk,All2 Lu tl l→(tl.map (·.1)).Pairwise (·<·)→(∀ q∈tl,s.heap.objs.size<q.1∧h'.get? q.1=some q.2)→(∀ b o,s.heap.get? b=some o→h'.get? b=some o)→Q (tl.map fun q=>.ref q.1) { s with heap:=h',toks:=tk }) :
  wpAny (model prog w) A (collect (.ref v)) Q E s:=by
 unfold collect;refine Wb (wpAny_runValue (codeAny_builtin entry_proto_collect' ?_))
 show wpAny _ _ (do again (.builtin "list.__iadd__" ⟨[← newList [],.ref v],[]⟩)) _ _ s
 refine Wb (wpAny_newList (Wp ⟨Code.quiet_builtin _ (by decide +kernel),?_⟩))
 refine Rl (s:={ s with heap:=s.heap.push (seqObj "list" #[] 0) }) hh (Heap.get?_push_of_some _ hv) (Heap.get?_push_of_some _ hd) hn hz (Nat.ne_of_gt (Heap.lt_size hv)) (Nat.ne_of_lt (Heap.lt_size hd)) (Heap.get?_push_size _ rfl) fun tl h' tk c f2 h2 h3 hk hS=>?_
 dsimp only;refine Wb (wpAny_load hS ?_)
 show wpAny _ _ (pure (tl.map fun q=>.ref q.1).toArray.toList) Q E _
 refine Wp (h tl h' tk f2 h2 (fun q hq=>⟨?_,(h3 q hq).2⟩) fun b o e=>hk b o (Nat.ne_of_lt (Heap.lt_size e)) (Heap.get?_push_of_some _ e))
 have:=(h3 q hq).1;have z:(s.heap.push (seqObj "list" #[] 0)).objs.size=s.heap.objs.size+1:=Heap.size_push ..
 exact Nat.lt_trans (by show s.heap.objs.size<(s.heap.push (seqObj "list" #[] 0)).objs.size;rw [z];exact Nat.lt_succ_self _) this
theorem Im:∀ {tl:List (Addr × Obj)} {l:List ((Str × Tok) × (Str × Tok))},All2 Lu tl l→All2 (Ak tl) (tl.map fun q=>.ref q.1) (l.map fun p=>(p.1.1,p.2.1))
 | _,_,.nil=>.nil
 | _,_,.cons (a:=q) (b:=p) x r=>.cons (x.elim fun t e=>⟨q.1,t,p.2.2,rfl,by rw [← e];exact .head _⟩) ((Im r).mono fun _ _ z=>z.mono fun _ hp=>.tail _ hp)
noncomputable def Fi(w:World)(A:Around)(s:Shared)(prog:Program)(E:Value→Shared→Prop)(h₀:Heap)(L:Addr)(m:Str→Option Value)(news:List (Addr × Obj))(v d:Addr)(l:List ((Str × Tok) × (Str × Tok)))(n:Nat)(Q:Value→Shared→Prop):Prop :=
 ∀ (hh:A.handled=none) (F:Fr h₀ L s.heap m) (N:News h₀ L s.heap news) (hv:s.heap.get? v=some { cls:=.type "dict_items",data:=.fields #[.ref d] }) (hd:s.heap.get? d=some (dictOf (Bb w.params l) n)) (hn:(l.map (·.1.1)).Nodup) (hz:l.length≤4) (h:∀ (B:Addr) tl out c h' tk,All2 Lu tl l→(tl.map (·.1)).Nodup→(∀ q∈tl,q.1<B)→(∀ p∈news,∀ q∈tl,p.1<q.1)→(∀ p∈news,p.1<B)→All2 (Ak (tl++news)) out (Am Bj (l.map fun p=>(p.1.1,p.2.1)))→Fr h₀ L h' m→News h₀ L h' ((B,listOf (List.toArray out) c)::(tl++news))→Q (.ref B) { s with heap:=h',toks:=tk }),wpAny (model prog w) A (call (.builtin "sorted") [.ref v]) Q E s
theorem Oe:∀ {w A s prog E h₀ L m news v d l n Q},Fi w A s prog E h₀ L m news v d l n Q:=by
 refine @(Aa (Al neW)<|@(Cp neI<|let_mvar% ?n:=(fun w A s prog E h₀ L m news v d l n Q=>?_:∀ a b c d e f g h i j k l m n,Fi a b c d e f g h i j k l m n);?n _ _ _ _ _ _ _ _ _ _ _ _ _ _))
 intro hh F N hv hd hn hz h
 refine Calls.call_function_entry kind_sorted plain_sorted entry_sorted (args_sorted1 _) ?_
 unfold Builtin.«sorted»;refine Wb (m:=checkCount "sorted" 1 1 _) (Wp ?_)
 refine Wb (Lj (A:=A.in1) hh hv hd hn (by exact(Nl fun hn1=>fk [_] (.e V0 (.k 4) (.e (.s (.k 60)) V0 K0)) rfl hz hn1)) fun tl h' tk h1 h2 h3 hk=>?_)
 have htl:tl.length=l.length:=h1.length
 refine Wb (wpAny_newList ?_ (by rw [List.length_map,sizeLine_eq];exact(Nl fun hn1=>fk [_,_] (.e V0 (.k 4) (.e V1 V0 (.e (.s (.k 16777216)) V1 K0))) rfl hz (El htl) hn1)))
 have hLs:L<s.heap.objs.size:=F.ns.lt;have hLD:L<h'.objs.size:=(F.keeps hk).ns.lt
 have fresh:∀ a,L<a→h₀.get? a=none:=fun a ha=>Heap.get?_none_of_le (Nat.le_trans F.above (Nat.le_of_lt ha))
 have F1:Fr h₀ L (h'.push (seqObj "list" (tl.map fun q=>.ref q.1).toArray 0)) m:=(F.keeps hk).push _
 have hlt:∀ q∈tl,q.1<h'.objs.size:=fun q hq=>Heap.lt_size (h3 q hq).2
 have N1:News h₀ L (h'.push (seqObj "list" (tl.map fun q=>.ref q.1).toArray 0)) ((h'.objs.size,listOf (tl.map fun q=>.ref q.1).toArray 0)::(tl++news)):=fun p hp=>by
  rcases List.mem_cons.mp hp with rfl | hp
  ·exact⟨Heap.get?_push_size _ rfl,Nat.ne_of_gt hLD,fresh _ hLD⟩
  ·rcases List.mem_append.mp hp with hp | hp
   ·have hLq:L<p.1:=Nat.lt_trans hLs (h3 p hp).1
    exact⟨Heap.get?_push_of_some _ (h3 p hp).2,Nat.ne_of_gt hLq,fresh _ hLq⟩
   ·exact⟨Heap.get?_push_of_some _ (hk _ _ (N p hp).1),(N p hp).2⟩
 have hnD:∀ p∈tl++news,p.1≠h'.objs.size:=fun p hp=>by
  rcases List.mem_append.mp hp with hp | hp
  ·exact Nat.ne_of_lt (hlt p hp)
  ·exact Nat.ne_of_lt (Heap.lt_size (hk _ _ (N p hp).1))
 have hpn:=Im h1;refine Wb (wpAny_holding (wpAny_call_entry slot_list_sort ⟨_,(N1 _ (.head _)).1,rfl⟩ entry_list_sort ?_ (args_list_sort _)))
 refine Ik (s:={ s with heap:=h'.push (seqObj "list" (tl.map fun q=>.ref q.1).toArray 0),toks:=tk }) F1 N1 hnD (hpn.mono fun _ _ z=>z.mono fun _ hp=>Ml _ hp) (by rw [List.length_map];exact(Nl fun hn1=>fk [_,_] (.e V0 (.k 4) (.e V1 V0 (.e (.s (.k 4)) V1 K0))) rfl hz (El htl) hn1)) fun out c h2' ho F2 N2=>⟨_,rfl,Wp ⟨_,rfl,?_⟩⟩
 refine h _ tl out c h2' tk h1 (h2.imp fun z=>Nat.ne_of_lt z) hlt (fun p hp q hq=>Nat.lt_trans (Heap.lt_size (N p hp).1) (h3 q hq).1) (fun p hp=>Heap.lt_size (hk _ _ (N p hp).1)) ho F2 N2
end
end Mine
namespace Mine
open PySem.Calls
open PyProof.Rows.LCg
section
variable{prog:Program}{w:World}{A:Around}{E:Value→Shared→Prop}{s:Shared}{h₀:Heap}{L:Addr}{m:Str→Option Value}{news:List (Addr × Obj)}{env:Env}{os:OsState}
theorem Rd{e target:PySem.Expr}{ipos:Pos}{emit:Sem Unit}{it acc:Value}{cenv:Env}{R:Result→Shared→Prop}(I:Nat→Shared→Prop)
  (hq:(Code.compLoop e 0 it acc cenv).quiet=true)
  (hden:∀ (s:Shared) (Q:PySem.Fin→Shared→Prop) (E':Value→Shared→Prop),wpAny (model prog w) A ((compTurn e 0 it acc cenv).onRaise (fun x=>do noteFrame x cenv;theTreesLotGoes x)) Q E' s→wpAny (model prog w) (A.under (.compLoop e 0 it acc cenv)) ((model prog w).den (.compLoop e 0 it acc cenv)) Q E' s)
  (ht:compTurn e 0 it acc cenv=(standAt ipos >>= fun _=>pyNext it >>= fun r=>match r with
   | none=>pure (.done .next)
   | some v=>letOwnedTupleGo target it v >>= fun _=>assign target cenv v >>= fun _=>emit >>= fun _=>again (.compLoop e 0 it acc cenv)))
  (turn:∀ n s,I n s→wpAny (model prog w) A (pyNext it) (fun r s₁=>match r with
   | none=>R (.ok .next) s₁
   | some v=>wpAny (model prog w) A (letOwnedTupleGo target it v) (fun _ s₂=>wpAny (model prog w) A (assign target cenv v) (fun _ s₃=>wpAny (model prog w) A emit (fun _ s₄=>∃ m,m<n∧I m s₄)
     (notedBy (model prog w) A cenv fun e s'=>R (.error e) s') s₃) (notedBy (model prog w) A cenv fun e s'=>R (.error e) s') s₂) (notedBy (model prog w) A cenv fun e s'=>R (.error e) s') s₁) (notedBy (model prog w) A cenv fun e s'=>R (.error e) s') s)
  (n:Nat) (h:I n s):codeAny (model prog w) A (.compLoop e 0 it acc cenv) R s:=by
 refine codeAny_loop hq I (fun n s hI=>hden _ _ _ ?_) n h
 refine wpAny_noted ?_;rw [ht]
 refine Wb (wpAny_standAt (Wb (wpAny_mono (turn n s hI) (fun r s₁ h₁=>?_) fun _ _ h'=>h')))
 cases r with
 | none=>exact Wp h₁
 | some v =>
  exact Wb (wpAny_mono h₁ (fun _ s₂ h₂=>Wb (wpAny_mono h₂ (fun _ s₃ h₃=>Wb (wpAny_mono h₃ (fun _ s₄ h₄=>Wp ⟨rfl,h₄⟩) fun _ _ h'=>h')) fun _ _ h'=>h')) fun _ _ h'=>h')
noncomputable def Eh(w:World)(A:Around)(s:Shared)(prog:Program)(E:Value→Shared→Prop)(h₀:Heap)(L:Addr)(m:Str→Option Value)(env:Env)(os:OsState)(e target:PySem.Expr)(ipos:Pos)(scope:Scope)(cl:List (Str × Addr))(newAcc:Sem Value)(o0:Obj)(emit:Addr→Addr→Sem Unit)(ax:Addr)(its:Array Value)(news:List (Addr × Obj))(RR:Value→Addr→Result→Shared→Prop)(J:Addr→List Value→List (Addr × Obj)→Prop)(B:List (Addr × Obj)→Value→(Str→Option Value)→Prop):Prop :=
 ∀ (hacc:∀ (s:Shared) (Q:Value→Shared→Prop),Q (.ref s.heap.objs.size) { s with heap:=s.heap.push o0 }→wpAny (model prog w) A newAcc Q E s) (ho0:Obj.isFreed o0=false) (hst:∀ (I D C:Addr) (R:Result→Shared→Prop) (s:Shared),codeAny (model prog w) A (.compLoop e 0 (.ref I) (.ref D) (compEnvC scope cl C env)) R s →
   wpAny (model prog w) A (pyIter (.ref I)) (fun it' s'=>codeAny (model prog w) A (.compLoop e 0 it' (.ref D) (compEnvC scope cl C env)) R s') (notedBy (model prog w) A (compEnvC scope cl C env) fun x s'=>R (.error x) s') s→codeAny (model prog w) A (.compStart e 0 (.ref I) (.ref D) (compEnvC scope cl C env)) R s) (hq:∀ I D C,(Code.compLoop e 0 (.ref I) (.ref D) (compEnvC scope cl C env)).quiet=true) (hden:∀ (I D C:Addr) (s:Shared) (Q:PySem.Fin→Shared→Prop) (E':Value→Shared→Prop),wpAny (model prog w) A ((compTurn e 0 (.ref I) (.ref D) (compEnvC scope cl C env)).onRaise (fun x=>do noteFrame x (compEnvC scope cl C env);theTreesLotGoes x)) Q E' s→wpAny (model prog w) (A.under (.compLoop e 0 (.ref I) (.ref D) (compEnvC scope cl C env))) ((model prog w).den (.compLoop e 0 (.ref I) (.ref D) (compEnvC scope cl C env))) Q E' s) (ht:∀ I D C,compTurn e 0 (.ref I) (.ref D) (compEnvC scope cl C env)=(standAt ipos >>= fun _=>pyNext (.ref I) >>= fun r=>match r with
   | none=>pure (.done .next)
   | some v=>letOwnedTupleGo target (.ref I) v >>= fun _=>assign target (compEnvC scope cl C env) v >>= fun _=>emit D C >>= fun _=>again (.compLoop e 0 (.ref I) (.ref D) (compEnvC scope cl C env)))) (hown:∀ (I:Addr) (i:Nat) (v:Value) (s:Shared) (Q:Unit→Shared→Prop) (E':Value→Shared→Prop),s.heap.IsListIter I ax i→v∈its.toList→Q () s→wpAny (model prog w) A (letOwnedTupleGo target (.ref I) v) Q E' s) (hasg:∀ (s1:Shared) (v:Value) (rem:List Value) (own:List (Addr × Obj)) (D C:Addr) (mC:Str→Option Value) (Q:Unit→Shared→Prop) (E':Value→Shared→Prop),J D (v::rem) own→(∀ b o,h₀.get? b=some o→s1.heap.get? b=some o)→(∀ p∈own,s1.heap.get? p.1=some p.2)→s1.heap.Ns C mC →
   (∀ h' tk m₂,h'.Ns C m₂→B own v m₂→(∀ b o,b≠C→s1.heap.get? b=some o→h'.get? b=some o)→Q () { s1 with heap:=h',toks:=tk })→wpAny (model prog w) A (assign target (compEnvC scope cl C env) v) Q E' s1) (hcell:∀ y∈scope.names,y.2≠.cell) (hkind:scope.kind=.function) (hh:A.handled=none) (F:Fr h₀ L s.heap m) (N:News h₀ L s.heap news) (hos:s.os=os) (hb:AllBare s.gens) (hsrc0:SrcAt h₀ ax its news) (hsz:its.size≤sizeLine) (hJ0:∀ D,(∀ p∈news,p.1<D)→J D its.toList ((D,o0)::news)) (hsrc:∀ D rem own,J D rem own→SrcAt h₀ ax its own) (step:∀ (s1:Shared) D v rem own I oI C oC m₂ (E':Value→Shared→Prop),J D (v::rem) own→NsObj oC m₂→B own v m₂→Fr h₀ L s1.heap m→News h₀ L s1.heap ((I,oI)::(C,oC)::own)→(∀ p∈own,p.1≠I∧p.1≠C)→I≠C→s1.os=os→AllBare s1.gens →
   wpAny (model prog w) A (emit D C) (fun _ s3=>∃ own',J D rem own'∧Fr h₀ L s3.heap m∧News h₀ L s3.heap ((I,oI)::(C,oC)::own')∧(∀ p∈own',p.1≠I∧p.1≠C)∧s3.os=os∧AllBare s3.gens) E' s1) (fin:∀ (s1:Shared) D C own mC,J D [] own→Fr h₀ L s1.heap m→News h₀ L s1.heap own→s1.heap.Ns C mC→h₀.get? C=none→C≠L→(∀ p∈own,p.1≠C)→s1.os=os→AllBare s1.gens→RR (.ref D) C (.ok .next) s1),wpAny (model prog w) A (pyIter (.ref ax)) (fun it s₂=>wpAny (model prog w) A newAcc (fun acc s₃=>wpAny (model prog w) A (newFunctionEnv scope env.globals cl [] env.qual none .none (some env)) (fun cenv s₄ =>
   codeAny (model prog w) A (.compStart e 0 it acc { cenv with scope:=relabel scope env }) (RR acc cenv.locals) s₄) E s₃) E s₂) E s
theorem Jr:∀ a b c d e f g h i j k l m n o p q r s t u v w x,Eh a b c d e f g h i j k l m n o p q r s t u v w x:=by
 refine Aa (Al neW)<|Aa neI<|Aa neI<|let_mvar% ?n:=(fun w A s prog E h₀ L m env os e target ipos scope cl newAcc o0 emit ax its news RR J B=>?_:∀ a b c d e f g h i j k l m n o p q r s t u v w x,Eh a b c d e f g h i j k l m n o p q r s t u v w x);?n _ _ _ _ _ _ _ _ _ _ _ _ _ _ _ _ _ _ _ _ _ _ _ _
 intro hacc ho0 hst hq hden ht hown hasg hcell hkind hh F N hos hb hsrc0 hsz hJ0 hsrc step fin;have hl:=hsrc0.list F.keep N
 have hlt:ax<s.heap.objs.size:=by obtain⟨_,e,_⟩:=hl;exact Heap.lt_size e
 refine wpAny_pyIter_list hl ?_
 generalize hIeq:s.heap.objs.size=I
 have hI1:(s.heap.push { cls:=.type "list_iterator",data:=.fields #[.ref ax,.int 0 0] }).IsListIter I ax 0:=⟨_,by rw [← hIeq];exact Heap.get?_push_size _ rfl,rfl,rfl⟩
 have up1:∀ b o,s.heap.get? b=some o→(s.heap.push { cls:=.type "list_iterator",data:=.fields #[.ref ax,.int 0 0] }).get? b=some o:=fun b o e=>Heap.get?_push_of_some _ e
 have hz1:(s.heap.push { cls:=.type "list_iterator",data:=.fields #[.ref ax,.int 0 0] }).objs.size=I+1:=by rw [Heap.size_push,hIeq]
 generalize s.heap.push { cls:=.type "list_iterator",data:=.fields #[.ref ax,.int 0 0] }=H1 at hI1 up1 hz1
 refine hacc _ _ ?_;dsimp only;rw [hz1]
 have hD2:(H1.push o0).get? (I+1)=some o0:=by rw [← hz1];exact Heap.get?_push_size _ ho0
 have up2:∀ b o,H1.get? b=some o→(H1.push o0).get? b=some o:=fun b o e=>Heap.get?_push_of_some _ e
 have hz2:(H1.push o0).objs.size=I+1+1:=by rw [Heap.size_push,hz1]
 generalize H1.push o0=H2 at hD2 up2 hz2
 refine wpAny_newFunctionEnv hcell (by intro y hy;simp at hy) (fun h₁ hns₁ hsb₁=>?_) hkind
 dsimp only at hns₁ hsb₁ ⊢;rw [hz2] at hns₁ hsb₁ ⊢
 have up3:∀ b o,H2.get? b=some o→h₁.get? b=some o:=fun b o e=>hsb₁.extBut b o (Nat.ne_of_lt (by have:=Heap.lt_size e;rw [hz2] at this;exact this)) (Heap.get?_push_of_some _ e)
 have up:∀ b o,s.heap.get? b=some o→h₁.get? b=some o:=fun b o e=>up3 b o (up2 b o (up1 b o e))
 have hLI:L<I:=by rw [← hIeq];exact F.ns.lt
 have fresh₀:∀ a,L<a→h₀.get? a=none:=fun a ha=>Heap.get?_none_of_le (Nat.le_trans F.above (Nat.le_of_lt ha))
 have hI0:=fresh₀ I hLI;have hD0:=fresh₀ (I+1) (Nat.lt_succ_of_lt hLI);have hC0:=fresh₀ (I+1+1) (Nat.lt_succ_of_lt (Nat.lt_succ_of_lt hLI));have hIC:I≠I+1+1:=Nat.ne_of_lt (Nat.lt_succ_of_lt (Nat.lt_succ_self _));have hCL:I+1+1≠L:=Nat.ne_of_gt (Nat.lt_succ_of_lt (Nat.lt_succ_of_lt hLI));have hIL:I≠L:=Nat.ne_of_gt hLI
 have hnI:∀ p∈news,p.1<I:=fun p hp=>by rw [← hIeq];exact Heap.lt_size (N p hp).1
 have hj0:=hJ0 (I+1) fun p hp=>Nat.lt_succ_of_lt (hnI p hp)
 have hi1:h₁.IsListIter I ax 0:=by obtain⟨o,ho,r⟩:=hI1;exact⟨o,up3 _ _ (up2 _ _ ho),r⟩
 have loop:codeAny (model prog w) A (.compLoop e 0 (.ref I) (.ref (I+1)) (compEnvC scope cl (I+1+1) env)) (RR (.ref (I+1)) (I+1+1)) { s with heap:=h₁,toks:=s.toks+([]:List (Str × Value)).length }:=by
  refine Rd (target:=target) (ipos:=ipos) (emit:=emit (I+1) (I+1+1)) (fun k s'=>∃ i rem own mC,k=rem.length∧its.toList.drop i=rem∧i+rem.length=its.size∧J (I+1) rem own∧Fr h₀ L s'.heap m∧News h₀ L s'.heap own∧(∀ p∈own,p.1≠I∧p.1≠I+1+1) ∧
   s'.heap.Ns (I+1+1) mC∧s'.heap.IsListIter I ax i∧s'.os=os∧AllBare s'.gens) (hq _ _ _) (hden _ _ _) (ht _ _ _) ?_ its.size
   ⟨0,its.toList,(I+1,o0)::news,_,by simp,rfl,by simp,hj0,F.keeps up,fun p hp=>?_,fun p hp=>?_,hns₁,hi1,hos,hb⟩
  ·rintro k s' ⟨i,rem,own,mC,rfl,hrem,zd,hJ,F',N',off,hns,hit,hos',hb'⟩
   have hl':s'.heap.IsList ax its:=(hsrc _ _ _ hJ).list F'.keep N'
   cases rem with
   | nil =>
    refine wpAny_pyNext_list_end hh hit hl' ?_ fun h₂ he₂=>?_
    ·have:its.size≤i:=by simp at zd;exact(Es zd)
     simp;exact this
    ·dsimp only
     refine fin _ (I+1) (I+1+1) own mC hJ (Cr F' he₂ (Ne.symm hIL) hI0) (fun p hp=>⟨he₂ _ _ (off p hp).1 (N' p hp).1,(N' p hp).2⟩) ?_ hC0 hCL (fun p hp=>(off p hp).2) hos' hb'
     obtain⟨o,es,ep,e,r⟩:=hns;exact⟨o,es,ep,he₂ _ _ (Ne.symm hIC) e,r⟩
   | cons v rem =>
    have hlt':i<its.size:=by simp at zd;exact(Nt fun hn1=>fk [_,_,_] (.e (.a V0 (.s V1)) V2 (.e V2 V0 K0)) rfl (El zd) hn1)
    have hget:its[i]?=some v:=by
     rw [← Array.getElem?_toList];have:=congrArg (·[0]?) hrem
     simp only [List.getElem?_drop,Nat.add_zero,List.getElem?_cons_zero] at this
     exact this
    refine wpAny_pyNext_list_item hit hl' hget fun h₂ hit₂ hs₂=>?_
    dsimp only
    have hmem:v∈its.toList:=by rw [← Array.getElem?_toList] at hget;exact List.mem_of_getElem? hget
    refine hown I (i+1) v _ _ _ hit₂ hmem ?_;have F₂:=Cr F' hs₂.extBut (Ne.symm hIL) hI0
    have N₂:News h₀ L h₂ own:=fun p hp=>⟨hs₂.extBut _ _ (off p hp).1 (N' p hp).1,(N' p hp).2⟩
    have hns₂:h₂.Ns (I+1+1) mC:=by
     obtain⟨o,es,ep,e,r⟩:=hns;exact⟨o,es,ep,hs₂.extBut _ _ (Ne.symm hIC) e,r⟩
    refine hasg _ v rem own (I+1) (I+1+1) mC _ _ hJ F₂.keep (fun p hp=>(N₂ p hp).1) hns₂ fun h₃ tk₃ m₂ hns₃ hB hk₃=>?_
    obtain⟨oI,heI,hcI,hdI⟩:=id hit₂;obtain⟨oC,heC,hoC⟩:=ns_obj hns₃
    have F₃:Fr h₀ L h₃ m:=Cr F₂ (fun b o hb e=>hk₃ b o hb e) (Ne.symm hCL) hC0
    have N₃:News h₀ L h₃ ((I,oI)::(I+1+1,oC)::own):=fun p hp=>by
     rcases List.mem_cons.mp hp with rfl | hp
     ·exact⟨hk₃ _ _ hIC heI,hIL,hI0⟩
     ·rcases List.mem_cons.mp hp with rfl | hp
      ·exact⟨heC,hCL,hC0⟩
      ·exact⟨hk₃ _ _ (off p hp).2 (N₂ p hp).1,(N₂ p hp).2⟩
    refine wpAny_mono (step { s' with heap:=h₃,toks:=tk₃ } (I+1) v rem own I oI (I+1+1) oC m₂ _ hJ hoC hB F₃ N₃ off hIC hos' hb') (fun _ s₄ h₄=>?_) fun _ _ z=>z
    obtain⟨own',hJ',F₄,N₄,off₄,hos₄,hb₄⟩:=h₄
    refine⟨rem.length,Nat.lt_succ_self _,i+1,rem,own',m₂,rfl,?_,by simp at zd ⊢;exact(Nat.le_antisymm (Nl fun hn2=>fk [_,_,_] (.e (.a V0 (.s V1)) V2 (.e (.s V2) (.a (.s V0) V1) K0)) rfl (El zd) hn2) (Nl fun hn3=>fk [_,_,_] (.e V0 (.a V1 (.s V2)) (.e (.a (.a (.s V1) V2) K1) V0 K0)) rfl (Es zd) hn3)),hJ',F₄,fun p hp=>N₄ p (.tail _ (.tail _ hp)),off₄,hoC.ns (N₄ (I+1+1,oC) (.tail _ (.head _))).1,⟨oI,(N₄ (I,oI) (.head _)).1,hcI,hdI⟩,hos₄,hb₄⟩
    rw [← List.drop_drop,hrem];rfl
  ·rcases List.mem_cons.mp hp with rfl | hp
   ·exact⟨up3 _ _ hD2,Nat.ne_of_gt (Nat.lt_succ_of_lt hLI),hD0⟩
   ·exact⟨up _ _ (N p hp).1,(N p hp).2⟩
  ·rcases List.mem_cons.mp hp with rfl | hp
   ·exact⟨Nat.ne_of_gt (Nat.lt_succ_self _),Nat.ne_of_lt (Nat.lt_succ_self _)⟩
   ·exact⟨Nat.ne_of_lt (hnI p hp),Nat.ne_of_lt (Nat.lt_succ_of_lt (Nat.lt_succ_of_lt (hnI p hp)))⟩
 exact hst _ _ _ _ _ loop (wpAny_pyIter_listiter (s:={ s with heap:=h₁,toks:=s.toks+([]:List (Str × Value)).length }) hi1 loop)
theorem Jq{w A s prog E h₀ L m env os e target ipos scope cl newAcc o0 emit ax its news RR}(J)(B):Eh w A s prog E h₀ L m env os e target ipos scope cl newAcc o0 emit ax its news RR J B:=Jr _ _ _ _ _ _ _ _ _ _ _ _ _ _ _ _ _ _ _ _ _ _ _ _
end
end Mine
namespace Mine
open PySem.Calls
open PyProof.Rows.LCg
section
variable{prog:Program}{w:World}{A:Around}{E:Value→Shared→Prop}{s:Shared}{h₀:Heap}{L:Addr}{m:Str→Option Value}{news:List (Addr × Obj)}{env:Env}{os:OsState}
noncomputable def Kh(w:World)(A:Around)(s:Shared)(prog:Program)(E:Value→Shared→Prop)(h₀:Heap)(L:Addr)(m:Str→Option Value)(news:List (Addr × Obj))(env:Env)(os:OsState)(elt iter:PySem.Expr)(x x₂:Str)(px px₂ tp pos:Pos)(k:Nat)(scope:Scope)(cl:List (Str × Addr))(ax:Addr)(its:Array Value)(RR:Value→Addr→Result→Shared→Prop):Prop :=
 ∀ (J:List Value→List Value→List (Addr × Obj)→Prop) (hcell:∀ y∈scope.names,y.2≠.cell) (hkind:scope.kind=.function) (hx:scope.names.lookup x=some .local) (hx₂:scope.names.lookup x₂=some .local) (hxx:x≠x₂) (hh:A.handled=none) (F:Fr h₀ L s.heap m) (N:News h₀ L s.heap news) (hos:s.os=os) (hb:AllBare s.gens) (hsrc0:SrcAt h₀ ax its news) (hsz:its.size≤sizeLine) (hJ0:J its.toList [] news) (hsrc:∀ rem ys own,J rem ys own→SrcAt h₀ ax its own) (hpair:∀ v rem ys own,J (v::rem) ys own→∃ q,Ak own v q) (href:∀ v∈its.toList,∃ a,v=.ref a) (step:∀ (s1:Shared) D v rem ys own I oI C oC m₂ (q:Pr) t1 t2 (E':Value→Shared→Prop),J (v::rem) ys own→(∃ a,v=.ref a∧(a,Ad #[.str q.1 t1,.str q.2 t2])∈own)→NsObj oC m₂→m₂ x=some (.str q.1 t1)→m₂ x₂=some (.str q.2 t2)→Fr h₀ L s1.heap m→News h₀ L s1.heap ((I,oI)::(C,oC)::(D,lst ys)::own)→Off3 I C D own→I≠C→D≠I→D≠C→s1.os=os→AllBare s1.gens →
   wpAny (model prog w) A (eval elt (compEnvC scope cl C env)) (fun y s3=>∃ own',J rem (ys++[y]) own'∧Fr h₀ L s3.heap m∧News h₀ L s3.heap ((I,oI)::(C,oC)::(D,lst ys)::own')∧Off3 I C D own'∧s3.os=os∧AllBare s3.gens) E' s1) (fin:∀ (s1:Shared) D C ys own mC,J [] ys own→Fr h₀ L s1.heap m→News h₀ L s1.heap ((D,lst ys)::own)→(∀ p∈own,p.1≠D)→s1.heap.Ns C mC→h₀.get? C=none→C≠L→D≠C→(∀ p∈own,p.1≠C)→s1.os=os→AllBare s1.gens→RR (.ref D) C (.ok .next) s1),wpAny (model prog w) A (pyIter (.ref ax)) (fun it s₂=>wpAny (model prog w) A (newList []) (fun acc s₃=>wpAny (model prog w) A (newFunctionEnv scope env.globals cl [] env.qual none .none (some env)) (fun cenv s₄ =>
   codeAny (model prog w) A (.compStart (.ListComp elt [⟨.Tuple [.Name x px,.Name x₂ px₂] k tp,iter,[],0⟩] scope pos) 0 it acc { cenv with scope:=relabel scope env }) (RR acc cenv.locals) s₄) E s₃) E s₂) E s
theorem Pn:∀ {w A s prog E h₀ L m news env os elt iter x x₂ px px₂ tp pos k scope cl ax its RR},Kh w A s prog E h₀ L m news env os elt iter x x₂ px px₂ tp pos k scope cl ax its RR:=by
 refine @(Aa (Al neW)<|@(Aa neI<|@(Aa neI<|@(Bg neI<|let_mvar% ?n:=(fun w A s prog E h₀ L m news env os elt iter x x₂ px px₂ tp pos k scope cl ax its RR=>?_:∀ a b c d e f g h i j k l m n o p q r s t u v w x y,Kh a b c d e f g h i j k l m n o p q r s t u v w x y);?n _ _ _ _ _ _ _ _ _ _ _ _ _ _ _ _ _ _ _ _ _ _ _ _ _))))
 intro J hcell hkind hx hx₂ hxx hh F N hos hb hsrc0 hsz hJ0 hsrc hpair href step fin
 refine Jq (o0:=lst []) (target:=.Tuple [.Name x px,.Name x₂ px₂] k tp) (ipos:=iter.pos) (emit:=fun D C=>eval elt (compEnvC scope cl C env) >>= fun x=>call (.builtin "list.append") [.ref D,x] >>= fun _=>pure ())
  (fun D rem own=>∃ ys own0,own=(D,lst ys)::own0∧ys.length+rem.length=its.size∧(∀ p∈own0,p.1≠D)∧J rem ys own0)
  (fun own v m₂=>∃ (q:Pr) (t1 t2:Tok),(∃ a,v=.ref a∧(a,Ad #[.str q.1 t1,.str q.2 t2])∈own)∧m₂ x=some (.str q.1 t1)∧m₂ x₂=some (.str q.2 t2))
  (fun s Q h=>wpAny_newList h) rfl (fun I D C R s h1 h2=>codeAny_compStart_list h1 h2) (fun _ _ _=>rfl) (fun _ _ _ _ _ _ z=>z) (fun _ _ _=>rfl) ?_ ?_ hcell hkind hh F N hos hb hsrc0 hsz ?_ ?_ ?_ ?_
 ·intro I i v s1 Q E' hit hv hq
  obtain⟨a,rfl⟩:=href v hv;exact wpAny_letOwnedTupleGo_listiter hit hq
 ·rintro s1 v rem own D C mC Q E' ⟨ys,own0,rfl,hl,hne,hJ⟩ hk ho hns h
  obtain⟨q,a,t1,t2,rfl,hm⟩:=hpair v rem ys own0 hJ
  refine assign_Tuple_tuple hh ⟨_,ho _ (.tail _ hm),rfl,_,rfl⟩ rfl rfl fun h₅ he=>?_
  have he':∀ b o,s1.heap.get? b=some o→h₅.get? b=some o:=fun b o e=>he b o (Nat.ne_of_lt (Heap.lt_size e)) e
  refine assignInOrder_cons (wpAny_assign_Name (wpAny_storeName_local (lookup_relabel_local hx) (hns.at' fun o e=>he' _ o e) (fun h₆ hn₆ hs₆=>?_) (by simp [compEnvC,relabel,hkind])))
  refine assignInOrder_cons (wpAny_assign_Name (wpAny_storeName_local (lookup_relabel_local hx₂) hn₆ (fun h₃ hn₃ hs₃=>?_) (by simp [compEnvC,relabel,hkind])))
  refine assignInOrder_nil ?_
  exact h h₃ _ _ hn₃ ⟨q,t1,t2,⟨a,rfl,.tail _ hm⟩,by simp [hxx],by simp⟩ fun b o hb e=>hs₃.extBut b o hb (hs₆.extBut b o hb (he' b o e))
 ·intro D hD
  exact⟨[],news,rfl,by simp,fun p hp=>Nat.ne_of_lt (hD p hp),hJ0⟩
 ·rintro D rem own ⟨ys,own0,rfl,_,_,hJ⟩
  rcases hsrc _ _ _ hJ with z | ⟨o,hm,r⟩
  ·exact .inl z
  ·exact .inr ⟨o,.tail _ hm,r⟩
 ·rintro s1 D v rem own I oI C oC m₂ E' ⟨ys,own0,rfl,hl,hne,hJ⟩ hC ⟨q,t1,t2,⟨a,rfl,hm⟩,b1,b2⟩ F1 N1 off hIC ho1 hb1
  have hm0:(a,Ad #[.str q.1 t1,.str q.2 t2])∈own0:=by
   rcases List.mem_cons.mp hm with e | z
   ·exact absurd (congrArg (fun p:Addr × Obj=>p.2.cls) e) (by simp)
   ·exact z
  have hD:=off (D,lst ys) (.head _)
  refine Wb (wpAny_mono (step s1 D (.ref a) rem ys own0 I oI C oC m₂ q t1 t2 E' hJ ⟨a,rfl,hm0⟩ hC b1 b2 F1 N1 (Off3.of fun p hp=>⟨(off p (.tail _ hp)).1,(off p (.tail _ hp)).2,hne p hp⟩) hIC hD.1 hD.2 ho1 hb1) (fun y s3 h3=>?_) fun _ _ z=>z)
  obtain⟨own',hJ',F3,N3,off3,ho3,hb3⟩:=h3;have zD:=N3 (D,lst ys) (.tail _ (.tail _ (.head _)))
  refine Wb (append_at (hsz:=by show ys.toArray.size≤sizeLine;rw [List.size_toArray];simp at hl;exact(Nl fun hn1=>fk [_,_,_,_] (.e V0 V1 (.e (.a V2 (.s V3)) V0 (.e (.s V1) V2 K0))) rfl hsz (El hl) hn1)) zD.1 fun h₅ hs₅ hD₅=>Wp ?_)
  have o3:=off3.mem
  refine⟨(D,lst (ys++[y]))::own',⟨ys++[y],own',rfl,by simp at hl ⊢;exact(Nat.le_antisymm (Nl fun hn2=>fk [_,_,_] (.e (.a V0 (.s V1)) V2 (.e (.s V2) (.a (.s V0) V1) K0)) rfl (El hl) hn2) (Nl fun hn3=>fk [_,_,_] (.e V0 (.a V1 (.s V2)) (.e (.a (.a (.s V1) V2) K1) V0 K0)) rfl (Es hl) hn3)),fun p hp=>(o3 p hp).2.2,hJ'⟩,F3.change hs₅ zD.2.1 zD.2.2,fun p hp=>?_,fun p hp=>?_,ho3,hb3⟩
  ·rcases List.mem_cons.mp hp with rfl | hp
   ·have z:=N3 (I,oI) (.head _)
    exact⟨hs₅.extBut _ _ (Ne.symm hD.1) z.1,z.2⟩
   ·rcases List.mem_cons.mp hp with rfl | hp
    ·have z:=N3 (C,oC) (.tail _ (.head _))
     exact⟨hs₅.extBut _ _ (Ne.symm hD.2) z.1,z.2⟩
    ·rcases List.mem_cons.mp hp with rfl | hp
     ·exact⟨hD₅.trans (congrArg some (lst_snoc ys y)),zD.2⟩
     ·have z:=N3 p (.tail _ (.tail _ (.tail _ hp)))
      exact⟨hs₅.extBut _ _ (o3 p hp).2.2 z.1,z.2⟩
  ·rcases List.mem_cons.mp hp with rfl | hp
   ·exact hD
   ·exact⟨(o3 p hp).1,(o3 p hp).2.1⟩
 ·rintro s1 D C own mC ⟨ys,own0,rfl,hl,hne,hJ⟩ F1 N1 hns hC0 hCL hoC ho1 hb1
  exact fin s1 D C ys own0 mC hJ F1 N1 hne hns hC0 hCL (hoC _ (.head _)) (fun p hp=>hoC p (.tail _ hp)) ho1 hb1
end
end Mine
namespace Mine
open PySem.Calls
open PySem.Builtin PySem.Builtin.Str PySem.Builtin.Int
noncomputable def cutName(q:Str):Str × Str :=
 match Txt.slice q none (some 1) == "{" with
 | true=>match partsBetween (Txt.slice q (some 1) none) (occurrencesFromRight (Txt.slice q (some 1) none) "}" 1) (Str.ofString "}").length with
  | [a,b]=>(a,b)
  | _=>(Str.empty,q)
 | false=>(Str.empty,q)
noncomputable def Cc(q:Str):Bool:=Ek q (cutName q).1 (cutName q).2 && decide (q.length≤200) && decide ((cutName q).1.length≤200) && decide ((cutName q).2.length≤200)
noncomputable abbrev Parsed:=Str × Str × Str
noncomputable def declare(lower ns:List Pr):List Str→List Pr→List (Str × Parsed)→List Pr × List (Str × Parsed)
 | [],lv,ps=>(lv,ps)
 | n::r,lv,ps=>match qn (lv++lower) ns (cutName n).1 (cutName n).2 with
  | some (txt,none)=>declare lower ns r lv (ps++[(n,txt,(cutName n).2,(cutName n).1)])
  | some (txt,some q)=>declare lower ns r (lv++[q]) (ps++[(n,txt,(cutName n).2,(cutName n).1)])
  | none=>(lv,ps)
def known(ns:List Pr)(uri:Str):Prop:=uri=Str.empty∨find uri ns≠none
theorem Gy{decl ns:List Pr}{uri tag:Str}(h:known ns uri):qn decl ns uri tag≠none:=by
 unfold qn
 split
 ·simp
 ·split
  ·simp
  ·rename_i hu
   cases hf:find uri ns with
   | some p=>simp
   | none =>
    rcases h with h | h
    ·simp [h]
    ·exact absurd hf h
noncomputable def Bt(q:Pr):Pr:=(if q.2=Str.empty then "xmlns" else "xmlns:"++q.2,q.1)
noncomputable def Gh(ps:List (Str × Parsed))(a:Pr):Pr:=match ps.lookup a.1 with
 | some p=>(if p.2.2=Str.empty then p.2.1 else p.1,a.2)
 | none=>a
noncomputable def Az(lv:List Pr)(ps:List (Str × Parsed))(attrs:List Pr):List Pr:=Am Bj (lv.map Bt)++(Am Bj attrs).map (Gh ps)
noncomputable def Br(a:Pr):Str:=" "++a.1++"=\""++Di a.2++"\""
noncomputable def Fs(ps:List (Str × Parsed))(tag:Str):Str:=match ps.lookup tag with
 | some p=>p.1
 | none=>Str.empty
noncomputable def Bm(lv:List Pr)(ps:List (Str × Parsed))(tag:Str)(attrs:List Pr):List Str :=
 [Str.ofString "<"++Fs ps tag]++(if Az lv ps attrs=[] then [] else [Txt.join Str.empty ((Az lv ps attrs).map Br)])++[Str.ofString ">"]
noncomputable abbrev Qh:Str:="{http://www.w3.org/XML/1998/namespace}space"
noncomputable def Be(pv:Bool)(attrs:List Pr):Bool:=match attrs.lookup Qh with
 | some b=>if b=Str.empty then pv else decide (b="preserve")
 | none=>pv
end Mine
namespace Mine
open PySem.Calls
noncomputable def Mb(w:World)(A:Around)(s:Shared)(prog:Program)(g:Heap)(os:OsState)(own:List (Addr × Obj))(K:Frag)(p:Program)(zw:List Str)(zr:ExcName→Option Value)(mg mb:Str→Option Value)(R:Result→Shared→Prop)(name qual:Str)(params:Arguments)(body:List Stmt)(scope:Scope)(dV kV doc pm cdv ct oc:Value)(an od:Option Addr)(osl:Array (Option Value))(f:Addr)(args:Args)(binds:List (Str × Value)):Prop :=
 ∀ (m0:Str→Option Value) (H:Ok g os own s) (X:K.In g) (T:Top p zw zr mg mb g) (ho:K.lookup f=some ⟨oc,od,.func (fnOf name qual params body scope dV kV doc pm an cdv ct),osl⟩) (hcd:codeIn K cdv qual=true) (zq:A.depth<recursionLimit) (zg:BindsTo s (fnOf name qual params body scope dV kV doc pm an cdv ct) args binds) (hkind:∀ n,∀ x∈binds,scope.names.lookup x.1=some .local∨(scope.names.lookup x.1=some .cell∧((cellsFrom n scope.names []).lookup x.1).isSome=true)) (hnd:((cellsFrom 0 scope.names []).map (·.1)).Nodup) (hm:∀ L',bindL (envOfC qual scope L' f cdv).kindOf binds (fun _=>none)=m0) (h:∀ L' h₁ tk cells,Fr g L' h₁ m0→News g L' h₁ (cells++own)→CellsAre (bindC (envOfC qual scope L' f cdv).kindOf binds fun _=>none) (cellsFrom (L'+1) scope.names []) cells→(∀ p∈own,p.1<L') →
   wpAny (model prog w) (A.deeper (envOfC qual scope L' f cdv)) (execs body (envOfC qual scope L' f cdv))
    (fun fl s'=>LeaveM g os R (match fl with | .ret v=>v | _=>.none) s')
    (fun e s'=>wpAny (model prog w) (A.deeper (envOfC qual scope L' f cdv)) (leaving (envOfC qual scope L' f cdv) e) (fun _ s''=>R (.error e) s'') (fun e' s''=>R (.error e') s'') s')
    { s with heap:=h₁,toks:=tk }) (hco:scope.isCoroutine=false) (hgen:scope.isGenerator=false) (hk:scope.kind=.function),codeAny (model prog w) A (.call (.ref f) args) R s
theorem enter_c:∀ {a b c d e f g h i j k l m n o p q r s t u v w x y z a1 b1 c1 d1 e1 f1},Mb a b c d e f g h i j k l m n o p q r s t u v w x y z a1 b1 c1 d1 e1 f1:=by
 refine @(Aa (Al neW)<|@(Aa neI<|@(Aa neI<|@(Aa neI<|let_mvar% ?n:=(fun w A s prog g os own K p zw zr mg mb R name qual params body scope dV kV doc pm cdv ct oc an od osl f args binds=>?_:∀ a b c d e f g h i j k l m n o p q r s t u v w x y z a1 b1 c1 d1 e1 f1,Mb a b c d e f g h i j k l m n o p q r s t u v w x y z a1 b1 c1 d1 e1 f1);?n _ _ _ _ _ _ _ _ _ _ _ _ _ _ _ _ _ _ _ _ _ _ _ _ _ _ _ _ _ _ _ _))))
 intro m0 H X T ho hcd zq zg hkind hnd hm h hco hgen hk
 refine codeAny_call_function zq ((X.keeps H.keep) _ _ ho) rfl hco hgen rfl (codeRec_of (X.keeps H.keep) hcd) (zg _ _ _ _ ?_)
 refine wpAny_newFunctionEnv_cells hk (hkind _) fun env' he s' x=>?_
 subst he
 refine⟨(T.nolimit.keeps H.keep).keeps x.toInCall.keep,codeAny_func ?_⟩
 obtain⟨h₁,tk,rfl,_⟩:=x.done;have hk₁:=x.toInCall.keep
 obtain⟨cells,NC,Y⟩:=Cl.news (h₀:=s.heap) (Nat.le_refl _) fun n c hm=>⟨x.cell n c (lookup_of_mem_nodup (cellsFrom_names scope.names 0 (s.heap.objs.size+1) [] [] rfl ▸ hnd) hm),x.above n c hm⟩
 have F0:Fr g s.heap.objs.size h₁ m0:=by
  rw [← hm s.heap.objs.size]
  exact⟨x.toInCall.ns,fun b o e=>hk₁ b o (H.keep b o e),H.size⟩
 refine wpAny_mono (h s.heap.objs.size h₁ tk cells F0 (fun p hp=>?_) Y (fun p hp=>Heap.lt_size (H.own p hp).1)) (fun fl s' hl=>?_) fun _ _ y=>y
 ·rcases List.mem_append.mp hp with hp | hp
  ·refine⟨(NC p hp).1,(NC p hp).2.1,?_⟩
   cases q:g.get? p.1 with
   | none=>rfl
   | some o=>have:=H.keep _ _ q;rw [(NC p hp).2.2] at this;cases this
  ·exact⟨hk₁ _ _ (H.own p hp).1,Nat.ne_of_lt (Heap.lt_size (H.own p hp).1),(H.own p hp).2⟩
 ·obtain⟨L',m',news',F',N',hos',hb',k⟩:=hl
  exact k (Kn F' N' hos' hb')
noncomputable def Ds(P:Addr)(pos:Pos)(qual:Str)(tabs:List (Addr × Obj)):Prop :=
 tabs=[(P,tabObj #[])]∨∃ c' oc vs t,tabs=[(P,tabObj #[rawInt pos.line,rawInt pos.col,.ref c']),(c',oc)]∧oc.data=.fields vs∧vs[1]?=some (.str qual t)
section
variable{prog:Program}{w:World}{A:Around}{E:Value→Shared→Prop}{s:Shared}{h₀:Heap}{L:Addr}{m:Str→Option Value}{rest:List (Addr × Obj)}
theorem Xb:TriplesOk ([]:List Value):=by simp [TriplesOk]
theorem Xc{a b:Nat}{v:Value}:TriplesOk [rawInt a,rawInt b,v]:=by simp [TriplesOk,rawInt]
noncomputable def Kg(w:World)(A:Around)(s:Shared)(prog:Program)(E:Value→Shared→Prop)(h₀:Heap)(L:Addr)(m:Str→Option Value)(rest:List (Addr × Obj))(p:Program)(zw:List Str)(zr:ExcName→Option Value)(mg mb:Str→Option Value)(a c P:Addr)(cn:Str)(cs:Scope)(ccd:Value)(cl:List (Str × Addr))(qual:Str)(p0 p1 p2 p3 p4 p5 pos:Pos)(tabs:List (Addr × Obj))(Q:Value→Shared→Prop):Prop :=
 ∀ (F:Fr h₀ L s.heap m) (N:News h₀ L s.heap (tabs++rest)) (T:Top p zw zr mg mb h₀) (C:CodeHd h₀ c P) (hcd:ccd=.ref c) (hT:Ds P pos qual tabs) (hne:∀ q∈rest,q.1≠P) (hline:(p2.endLine == p5.line)=true) (hcl:closureFor Cx (envX cn cs L a ccd cl)=pure []) (hq:(envX cn cs L a ccd cl).qual++"<lambda>"=qual) (hdef:defaultsOf (De p0) (envX cn cs L a ccd cl)=([],[])) (h:∀ f zt nl h' tk,Ds P pos qual zt→LamIn (nl++(zt++rest)) f→(∀ q∈nl,∀ r∈zt++rest,q.1≠r.1)→(∀ r∈rest,∀ q∈nl++zt,q.1=P∨r.1<q.1∨(q∈tabs))→Fr h₀ L h' m→News h₀ L h' (nl++(zt++rest))→Q (.ref f) { s with heap:=h',toks:=tk }),wpAny (model prog w) A (eval (.Lambda (De p0) (Fm p1 p2 p3 p4 p5) Cx pos) (envX cn cs L a ccd cl)) Q E s
theorem Wa:∀ {w A s prog E h₀ L m rest p zw zr mg mb a c P cn cs ccd cl qual p0 p1 p2 p3 p4 p5 pos tabs Q},Kg w A s prog E h₀ L m rest p zw zr mg mb a c P cn cs ccd cl qual p0 p1 p2 p3 p4 p5 pos tabs Q:=by
 refine @(Aa (Al neW)<|@(Aa neI<|@(Aa neI<|@(Hj neI<|let_mvar% ?n:=(fun w A s prog E h₀ L m rest p zw zr mg mb a c P cn cs ccd cl qual p0 p1 p2 p3 p4 p5 pos tabs Q=>?_:∀ a b c d e f g h i j k l m n o p q r s t u v w x y z a1 b1 c1 d1 e1,Kg a b c d e f g h i j k l m n o p q r s t u v w x y z a1 b1 c1 d1 e1);?n _ _ _ _ _ _ _ _ _ _ _ _ _ _ _ _ _ _ _ _ _ _ _ _ _ _ _ _ _ _ _))))
 intro F N T C hcd hT hne hline hcl hq hdef h;refine kla_eval hdef ?_
 rcases hT with rfl | ⟨c',oc,vs,t,rfl,hd,hv⟩
 ·refine kla_nest (g:=fun o=>(P,o)::rest) F N T C hcd (.head hne) Xb rfl hcl fun f c' oc vs t ctv h' tk F' N' hd hv hlt hlf=>?_
  rw [← hq] at *
  refine h f [(P,tabObj #[rawInt pos.line,rawInt pos.col,.ref c']),(c',oc)] [(f,kla_obj "<lambda>" ((envX cn cs L a ccd cl).qual++"<lambda>") (De p0) (Fm p1 p2 p3 p4 p5) Cx [] ((mg "__name__").getD .none) c' ctv)] h' tk (.inr ⟨c',oc,vs,t,rfl,hd,hv⟩) ⟨_,p0,p1,p2,p3,p4,p5,_,c',ctv,oc,vs,t,.head _,hline,by k_mem,hd,hv⟩ ?_ ?_ F' ?_
  ·intro q hq' r hr
   rw [List.mem_singleton.mp hq']
   have hcf:∀ r∈(P,tabObj #[])::rest,r.1<f:=fun r hr=>Nat.lt_trans (hlt r hr) hlf
   simp only [List.cons_append,List.nil_append,List.mem_cons] at hr
   rcases hr with rfl | rfl | hr
   ·exact Nat.ne_of_gt (hcf (P,tabObj #[]) (.head _))
   ·exact Nat.ne_of_gt hlf
   ·exact Nat.ne_of_gt (hcf r (.tail _ hr))
  ·intro r hr q hq'
   simp only [List.cons_append,List.nil_append,List.mem_cons,List.not_mem_nil,or_false] at hq'
   rcases hq' with rfl | rfl | rfl
   ·exact .inr (.inl (Nat.lt_trans (hlt r (.tail _ hr)) hlf))
   ·exact .inl rfl
   ·exact .inr (.inl (hlt r (.tail _ hr)))
  ·intro q hq'
   refine N' q ?_
   simp only [List.cons_append,List.nil_append,List.mem_cons] at hq' ⊢
   rcases hq' with h1 | h1 | h1 | h1
   ·exact .inl h1
   ·exact .inr (.inr (.inl h1))
   ·exact .inr (.inl h1)
   ·exact .inr (.inr (.inr h1))
 ·refine kla_hit (c':=c') F N T C hcd (.head _) Xc (by simp [codeAmong,rawInt]) hcl fun f ctv h' tk F' N' hlt=>?_
  rw [← hq] at *
  refine h f [(P,tabObj #[rawInt pos.line,rawInt pos.col,.ref c']),(c',oc)] [(f,kla_obj "<lambda>" ((envX cn cs L a ccd cl).qual++"<lambda>") (De p0) (Fm p1 p2 p3 p4 p5) Cx [] ((mg "__name__").getD .none) c' ctv)] h' tk (.inr ⟨c',oc,vs,t,rfl,hd,hv⟩) ⟨_,p0,p1,p2,p3,p4,p5,_,c',ctv,oc,vs,t,.head _,hline,by k_mem,hd,hv⟩ ?_ ?_ F' N'
  ·intro q hq' r hr
   rw [List.mem_singleton.mp hq'];exact Nat.ne_of_gt (hlt r hr)
  ·intro r hr q hq'
   rcases List.mem_append.mp hq' with z | z
   ·rw [List.mem_singleton.mp z];exact .inr (.inl (hlt r (Mr _ hr)))
   ·exact .inr (.inr z)
end
end Mine
namespace Mine
open PySem.Calls
theorem Wo{decl ns:List Pr}{uri tag txt:Str}{q:Pr}(h:qn decl ns uri tag=some (txt,some q)):q∈ns:=by
 unfold qn at h
 split at h
 ·injection h with h;injection h with _ h;cases h
 ·split at h
  ·injection h with h;injection h with _ h;cases h
  ·split at h
   ·rename_i p e
    injection h with h;injection h with _ h;injection h with h
    rw [← h];exact Fb e
   ·split at h
    ·injection h with h;injection h with _ h;cases h
    ·cases h
theorem Dc{lower ns:List Pr}{n:Str}{r:List Str}{lv:List Pr}{ps:List (Str × Parsed)}{txt:Str}{o:Option Pr}(h:qn (lv++lower) ns (cutName n).1 (cutName n).2=some (txt,o)) :
  declare lower ns (n::r) lv ps=declare lower ns r (lv++o.toList) (ps++[(n,txt,(cutName n).2,(cutName n).1)]):=by
 rw [declare,h]
 cases o with
 | none=>simp
 | some q=>simp
theorem Ib(lower ns:List Pr):∀ (l1 l2:List Str) (lv:List Pr) (ps:List (Str × Parsed)),(∀ n∈l1,known ns (cutName n).1) →
  declare lower ns (l1++l2) lv ps=declare lower ns l2 (declare lower ns l1 lv ps).1 (declare lower ns l1 lv ps).2
 | [],l2,lv,ps,_=>by rw [List.nil_append,declare]
 | n::l1,l2,lv,ps,h=>by
  rw [List.cons_append];have hk:=Gy (decl:=lv++lower) (tag:=(cutName n).2) (h n (.head _))
  cases e:qn (lv++lower) ns (cutName n).1 (cutName n).2 with
  | none=>exact absurd e hk
  | some z =>
   obtain⟨txt,o⟩:=z;rw [Dc e,Dc e]
   exact Ib lower ns l1 l2 _ _ fun m hm=>h m (.tail _ hm)
theorem Bk(lower ns:List Pr):∀ (l:List Str) (lv:List Pr) (ps:List (Str × Parsed)),(∀ n∈l,known ns (cutName n).1) →
  (declare lower ns l lv ps).2.map (·.1)=ps.map (·.1)++l∧(∀ q∈(declare lower ns l lv ps).1,q∈lv∨q∈ns)∧(declare lower ns l lv ps).1.length≤lv.length+l.length
 | [],lv,ps,_=>⟨by simp [declare],fun q hq=>.inl hq,by simp [declare]⟩
 | n::l,lv,ps,h=>by
  unfold declare;have hk:=Gy (decl:=lv++lower) (tag:=(cutName n).2) (h n (.head _))
  split
  ·obtain⟨a,b,c⟩:=Bk lower ns l lv (ps++[(n,_,(cutName n).2,(cutName n).1)]) fun m hm=>h m (.tail _ hm)
   refine⟨?_,b,?_⟩
   ·rw [a];simp
   ·simp only [List.length_cons];exact(Nl fun hn1=>fk [_,_,_] (.e V0 (.a V1 V2) (.e (.a (.a V1 (.s V2)) K1) V0 K0)) rfl c hn1)
  ·rename_i txt q e
   obtain⟨a,b,c⟩:=Bk lower ns l (lv++[q]) (ps++[(n,txt,(cutName n).2,(cutName n).1)]) fun m hm=>h m (.tail _ hm)
   refine⟨?_,?_,?_⟩
   ·rw [a];simp
   ·intro r hr
    rcases b r hr with z | z
    ·rcases List.mem_append.mp z with z | z
     ·exact .inl z
     ·rw [List.mem_singleton.mp z];exact .inr (Wo e)
    ·exact .inr z
   ·simp only [List.length_cons,List.length_append,List.length_nil] at c ⊢;exact(Nl fun hn1=>fk [_,_,_] (.e V0 (.a (.a V1 (.s K0)) V2) (.e (.a (.a V1 (.s V2)) K1) V0 K0)) rfl c hn1)
  ·rename_i e;exact absurd e hk
theorem Ow{lower ns:List Pr}{n:Str}{lv:List Pr}{ps:List (Str × Parsed)}{txt:Str}{o:Option Pr}(h:qn (lv++lower) ns (cutName n).1 (cutName n).2=some (txt,o)) :
  declare lower ns [n] lv ps=(lv++o.toList,ps++[(n,txt,(cutName n).2,(cutName n).1)]):=by
 rw [Dc h,declare]
def Cw(tups:List (Addr × Obj))(kv:Str × Value)(p:Str × Parsed):Prop:=kv.1=p.1∧∃ a t1 t2 t3,kv.2=.ref a∧(a,Ad #[.str p.2.1 t1,.str p.2.2.1 t2,.str p.2.2.2 t3])∈tups
theorem Cw.mono{news news':List (Addr × Obj)}(hs:∀ p∈news,p∈news'){v:Str × Value}{q:Str × Parsed}(x:Cw news v q):Cw news' v q:=x.imp_right fun x=>x.imp fun _ x=>x.imp fun _ x=>x.imp fun _ x=>x.imp fun _ x=>x.imp_right (hs _)
theorem All2.snoc{α β:Type}{P:α→β→Prop}{l:List α}{r:List β}{a:α}{b:β}(h:All2 P l r)(x:P a b):All2 P (l++[a]) (r++[b]):=h.append (.cons x .nil)
theorem Cg{q:Str}(h:Cc q=true):Ek q (cutName q).1 (cutName q).2=true∧q.length≤200∧(cutName q).1.length≤200∧(cutName q).2.length≤200:=by
 unfold Cc at h
 simp only [Bool.and_eq_true,decide_eq_true_eq] at h
 exact⟨h.1.1.1,h.1.1.2,h.1.2,h.2⟩
theorem Cw.find{tups:List (Addr × Obj)}:∀ {kvs:List (Str × Value)} {ps:List (Str × Parsed)},All2 (Cw tups) kvs ps→∀ {k:Str} {p:Parsed},ps.lookup k=some p→∃ a t1 t2 t3,valueAt kvs k=some (.ref a)∧(a,Ad #[.str p.1 t1,.str p.2.1 t2,.str p.2.2 t3])∈tups
 | _,_,.nil,k,p,h=>by simp at h
 | _,_,.cons (a:=kv) (b:=q) hx r,k,p,h=>by
  obtain⟨e,a,t1,t2,t3,e2,hm⟩:=hx;obtain⟨k1,v1⟩:=kv;obtain⟨k2,p2⟩:=q
  simp only at e e2 hm
  subst e e2;rw [List.lookup_cons] at h
  by_cases hk:k=k1
  ·subst hk
   simp only [beq_self_eq_true] at h
   injection h with h
   subst h
   exact⟨a,t1,t2,t3,by simp [valueAt],hm⟩
  ·have:(k == k1)=false:=by simpa using hk
   rw [this] at h;obtain⟨a',u1,u2,u3,e3,hm3⟩:=Cw.find r h;refine⟨a',u1,u2,u3,?_,hm3⟩;rw [← e3]
   simp [valueAt,List.find?_cons,Ne.symm hk]
theorem Bx{h:Heap}{news:List (Addr × Obj)}(hn:∀ p∈news,h.get? p.1=some p.2){v:Value}{q:Pr}(x:Ak news v q):As h v q:=let ⟨a,t1,t2,e,hm⟩:=x;⟨a,t1,t2,e,_,hn _ hm,rfl,_,rfl⟩
end Mine
namespace Mine
open PySem.Calls
open PyProof.Rows.LCg
section
variable{prog:Program}{w:World}{A:Around}{E:Value→Shared→Prop}{s:Shared}{h₀:Heap}{L:Addr}{env:Env}{os:OsState}
noncomputable def Gj(w:World)(A:Around)(s:Shared)(prog:Program)(E:Value→Shared→Prop)(h₀:Heap)(L:Addr)(env:Env)(os:OsState)(target:PySem.Expr)(body:List Stmt)(ax:Addr)(its:Array Value)(R:Result→Shared→Prop)(J:List Value→(Str→Option Value)→List (Addr × Obj)→Prop)(m:Str→Option Value)(own:List (Addr × Obj)):Prop :=
 ∀ (Bd:List (Addr × Obj)→Value→(Str→Option Value)→(Str→Option Value)→Prop) (hh:A.handled=none) (hsrc:∀ rem m own,J rem m own→SrcAt h₀ ax its own) (hown:∀ (I:Addr) (i:Nat) (v:Value) (s:Shared) (Q:Unit→Shared→Prop) (E':Value→Shared→Prop),s.heap.IsListIter I ax i→v∈its.toList→Q () s→wpAny (model prog w) A (letOwnedTupleGo target (.ref I) v) Q E' s) (hasg:∀ (s1:Shared) (v:Value) (rem:List Value) (m:Str→Option Value) (own news:List (Addr × Obj)) (Q:Unit→Shared→Prop) (E':Value→Shared→Prop),J (v::rem) m own→(∀ p∈own,p∈news)→Fr h₀ L s1.heap m→News h₀ L s1.heap news →
   (∀ h' tk m',Fr h₀ L h' m'→News h₀ L h' news→Bd own v m m'→Q () { s1 with heap:=h',toks:=tk })→wpAny (model prog w) A (assign target env v) Q E' s1) (step:∀ (s1:Shared) v rem m m' own I oI,J (v::rem) m own→Bd own v m m'→Fr h₀ L s1.heap m'→News h₀ L s1.heap ((I,oI)::own)→(∀ p∈own,p.1≠I)→s1.os=os→AllBare s1.gens →
   wpAny (model prog w) A (execs body env) (fun f s3=>match f with
    | .next | .cont=>∃ m'' own',J rem m'' own'∧Fr h₀ L s3.heap m''∧News h₀ L s3.heap ((I,oI)::own')∧(∀ p∈own',p.1≠I)∧s3.os=os∧AllBare s3.gens
    | .brk=>R (.ok .next) s3
    | .ret v=>R (.ok (.ret v)) s3) (notedBy (model prog w) A env fun e s'=>R (.error e) s') s1) (done:∀ (s1:Shared) m own,J [] m own→Fr h₀ L s1.heap m→News h₀ L s1.heap own→s1.os=os→AllBare s1.gens→R (.ok .next) s1) (hJ:J its.toList m own) (F:Fr h₀ L s.heap m) (N:News h₀ L s.heap own) (hos:s.os=os) (hb:AllBare s.gens),wpAny (model prog w) A (pyIter (.ref ax)) (fun it s₁=>codeAny (model prog w) A (.forLoop target it body [] env) R s₁) E s
theorem Ni:∀ a b c d e f g h i j k l m n o p q,Gj a b c d e f g h i j k l m n o p q:=by
 refine Aa (Al neW)<|Aa neI<|Bg neI<|let_mvar% ?n:=(fun w A s prog E h₀ L env os target body ax its R J m own=>?_:∀ a b c d e f g h i j k l m n o p q,Gj a b c d e f g h i j k l m n o p q);?n _ _ _ _ _ _ _ _ _ _ _ _ _ _ _ _ _
 intro Bd hh hsrc hown hasg step done hJ F N hos hb;have hl:=(hsrc _ _ _ hJ).list F.keep N;refine wpAny_pyIter_list hl ?_
 generalize hIeq:s.heap.objs.size=I
 have hLI:L<I:=by rw [← hIeq];exact F.ns.lt
 have hI0:h₀.get? I=none:=Heap.get?_none_of_le (Nat.le_trans F.above (Nat.le_of_lt hLI));have hIL:I≠L:=Nat.ne_of_gt hLI
 refine codeAny_forLoop_any (fun k s'=>∃ i rem m own oI,k=rem.length∧its.toList.drop i=rem∧i+rem.length=its.size∧J rem m own∧Fr h₀ L s'.heap m∧News h₀ L s'.heap own∧(∀ p∈own,p.1≠I) ∧
  s'.heap.get? I=some oI∧oI.cls=.type "list_iterator"∧oI.data=.fields #[.ref ax,.int i 0]∧s'.os=os∧AllBare s'.gens) ?_ its.size
  ⟨0,its.toList,m,own,_,by simp,rfl,by simp,hJ,F.push _,fun p hp=>⟨Heap.get?_push_of_some _ (N p hp).1,(N p hp).2⟩,fun p hp=>Nat.ne_of_lt (by rw [← hIeq];exact Heap.lt_size (N p hp).1),by rw [← hIeq];exact Heap.get?_push_size _ rfl,rfl,rfl,hos,hb⟩
 rintro k s' ⟨i,rem,m,own,oI,rfl,hrem,zd,hJ,F',N',off,hi1,hi2,hi3,hos',hb'⟩;have hit:s'.heap.IsListIter I ax i:=⟨oI,hi1,hi2,hi3⟩;have hl':s'.heap.IsList ax its:=(hsrc _ _ _ hJ).list F'.keep N'
 cases rem with
 | nil =>
  refine wpAny_pyNext_list_end hh hit hl' ?_ fun h₂ he₂=>?_
  ·have:its.size≤i:=by simp at zd;exact(Es zd)
   simp;exact this
  ·dsimp only
   exact Wp (done _ m own hJ (Cr F' he₂ (Ne.symm hIL) hI0) (fun p hp=>⟨he₂ _ _ (off p hp) (N' p hp).1,(N' p hp).2⟩) hos' hb')
 | cons v rem =>
  have hlt':i<its.size:=by simp at zd;exact(Nt fun hn1=>fk [_,_,_] (.e (.a V0 (.s V1)) V2 (.e V2 V0 K0)) rfl (El zd) hn1)
  have hget:its[i]?=some v:=by
   rw [← Array.getElem?_toList];have:=congrArg (·[0]?) hrem
   simp only [List.getElem?_drop,Nat.add_zero,List.getElem?_cons_zero] at this
   exact this
  refine wpAny_pyNext_list_item hit hl' hget fun h₂ hit₂ hs₂=>?_
  dsimp only
  have hmem:v∈its.toList:=by rw [← Array.getElem?_toList] at hget;exact List.mem_of_getElem? hget
  refine hown I (i+1) v _ _ _ hit₂ hmem ?_;obtain⟨oI',heI,hcI,hdI⟩:=id hit₂;have F₂:=Cr F' hs₂.extBut (Ne.symm hIL) hI0
  have N₂:News h₀ L h₂ ((I,oI')::own):=fun p hp=>by
   rcases List.mem_cons.mp hp with rfl | hp
   ·exact⟨heI,hIL,hI0⟩
   ·exact⟨hs₂.extBut _ _ (off p hp) (N' p hp).1,(N' p hp).2⟩
  refine hasg _ v rem m own ((I,oI')::own) _ _ hJ (fun p hp=>.tail _ hp) F₂ N₂ fun h₃ tk₃ m' F₃ N₃ hB=>?_
  refine wpAny_mono (step { s' with heap:=h₃,toks:=tk₃ } v rem m m' own I oI' hJ hB F₃ N₃ off hos' hb') (fun f s₄ h₄=>?_) fun _ _ z=>z
  cases f with
  | brk=>exact h₄
  | ret v=>exact h₄
  | _ =>
   obtain⟨m'',own',hJ',F₄,N₄,off₄,hos₄,hb₄⟩:=h₄
   refine⟨rem.length,Nat.lt_succ_self _,i+1,rem,m'',own',oI',rfl,?_,by simp at zd ⊢;exact(Nat.le_antisymm (Nl fun hn2=>fk [_,_,_] (.e (.a V0 (.s V1)) V2 (.e (.s V2) (.a (.s V0) V1) K0)) rfl (El zd) hn2) (Nl fun hn3=>fk [_,_,_] (.e V0 (.a V1 (.s V2)) (.e (.a (.a (.s V1) V2) K1) V0 K0)) rfl (Es zd) hn3)),hJ',F₄,fun p hp=>N₄ p (.tail _ hp),off₄,(N₄ (I,oI') (.head _)).1,hcI,hdI,hos₄,hb₄⟩
   rw [← List.drop_drop,hrem];rfl
theorem Vr{w A s prog E h₀ L env os target body ax its R m own}(J):Gj w A s prog E h₀ L env os target body ax its R J m own:=Ni _ _ _ _ _ _ _ _ _ _ _ _ _ _ _ _ _
theorem For_{target iter:PySem.Expr}{body orelse:List Stmt}{pos:Pos}{Q:Flow→Shared→Prop}{M:Model}(hfs:∀ x,foldedSetIterable iter env x=pure x)
  (h:wpAny M A (eval iter env) (fun xv s₁=>wpAny M A (pyIter xv) (fun it s₂=>codeAny M (A.mark none) (.forLoop target it body orelse env) (fun r s'=>match r with | .ok f=>Q f s' | .error e=>cameBackBy M A env E e s') s₂) E s₁) E s) :
  wpAny M A (exec (.For target iter body orelse pos) env) Q E s:=by
 rw [exec_For]
 refine Wb (wpAny_standAt (Wb (wpAny_mono h (fun xv s₁ h₁=>?_) fun _ _ z=>z)))
 rw [hfs]
 refine Wb (Wp (Wb (wpAny_standAt (Wb (wpAny_holding (wpAny_mono h₁ (fun it s₂ h₂=>?_) fun _ _ z=>z))))))
 exact wpAny_runOwn h₂
end
end Mine
namespace Mine
open PySem.Calls
open PyProof.Rows.LCg
noncomputable abbrev m5(a b c d e:Str)(m0:Str→Option Value)(u1 u2 u3 u4 u5:Option Value):Str→Option Value :=
 fun y=>if y=e then u5 else if y=d then u4 else if y=c then u3 else if y=b then u2 else if y=a then u1 else m0 y
theorem Pi{α:Type}{c:Prop}[Decidable c]{t a b:α}(h:¬ c→a=b):(if c then t else a)=if c then t else b:=by
 by_cases hc:c
 ·rw [if_pos hc,if_pos hc]
 ·rw [if_neg hc,if_neg hc,h hc]
theorem Co{α:Type}{c:Prop}[Decidable c]{t x b:α}(hp:c→x=t)(hn:¬ c→x=b):x=if c then t else b:=by
 by_cases hc:c
 ·rw [if_pos hc];exact hp hc
 ·rw [if_neg hc];exact hn hc
theorem Sp{a b c d e:Str}{m0:Str→Option Value}{u1 u2 u3 u4 u5 v1 v2 v3 v4 v5:Option Value} :
  (fun y=>if y=e then v5 else if y=d then v4 else if y=c then v3 else if y=b then v2 else if y=a then v1 else m5 a b c d e m0 u1 u2 u3 u4 u5 y)=m5 a b c d e m0 v1 v2 v3 v4 v5:=funext fun y=>Pi fun h1=>Pi fun h2=>Pi fun h3=>Pi fun h4=>Pi fun h5=>(if_neg h1).trans ((if_neg h2).trans ((if_neg h3).trans ((if_neg h4).trans (if_neg h5))))
theorem m5_none{a b c d e:Str}{m0:Str→Option Value}(ha:m0 a=none)(hb:m0 b=none)(hc:m0 c=none)(hd:m0 d=none)(he:m0 e=none):m0=m5 a b c d e m0 none none none none none:=funext fun y=>Co (fun h=>(congrArg m0 h).trans he) fun _=>Co (fun h=>(congrArg m0 h).trans hd) fun _=>Co (fun h=>(congrArg m0 h).trans hc) fun _=>Co (fun h=>(congrArg m0 h).trans hb) fun _=>Co (fun h=>(congrArg m0 h).trans ha) fun _=>rfl
theorem lookup_mem{β:Type}{k:Str}:∀ {ps:List (Str × β)},k∈ps.map (·.1)→∃ p,ps.lookup k=some p
 | [],h=>by simp at h
 | (k1,p1)::ps,h=>by
  rw [List.lookup_cons]
  by_cases hk:k=k1
  ·subst hk;simp
  ·have:(k == k1)=false:=by simpa using hk
   rw [this];refine lookup_mem (ps:=ps) ?_
   rcases List.mem_cons.mp h with z | z
   ·exact absurd z hk
   ·exact z
theorem mem_lookup{β:Type}{k:Str}{p:β}:∀ {ps:List (Str × β)},ps.lookup k=some p→(k,p)∈ps
 | [],h=>by simp at h
 | (k1,p1)::ps,h=>by
  rw [List.lookup_cons] at h
  by_cases hk:k=k1
  ·subst hk
   simp only [beq_self_eq_true] at h
   injection h with h
   rw [h];exact .head _
  ·have:(k == k1)=false:=by simpa using hk
   rw [this] at h;exact .tail _ (mem_lookup h)
theorem Js(lower ns:List Pr)(hl:∀ q∈lower,q.2.length≤200)(hn:∀ q∈ns,q.2.length≤200):∀ (l:List Str) (lv:List Pr) (ps:List (Str × Parsed)),(∀ q∈lv,q.2.length≤200)→(∀ n∈l,(cutName n).2.length≤200)→∀ e∈(declare lower ns l lv ps).2,
  e∈ps∨(e.1∈l∧e.2.2.2=(cutName e.1).1∧e.2.2.1=(cutName e.1).2∧e.2.1.length≤500)
 | [],lv,ps,_,_,e,he=>.inl (by simpa [declare] using he)
 | n::l,lv,ps,hv,hc,e,he=>by
  cases hq:qn (lv++lower) ns (cutName n).1 (cutName n).2 with
  | none =>
   rw [declare,hq] at he;exact .inl he
  | some z =>
   obtain⟨txt,o⟩:=z;rw [Dc hq] at he
   have zd:txt.length≤500:=Wn hq (fun q hq'=>by
    rcases List.mem_append.mp hq' with z | z
    ·exact hv q z
    ·exact hl q z) hn (hc n (.head _))
   have hv':∀ q∈lv++o.toList,q.2.length≤200:=fun q hq'=>by
    rcases List.mem_append.mp hq' with z | z
    ·exact hv q z
    ·cases o with
     | none=>simp at z
     | some r=>simp at z;rw [z];exact hn r (Wo hq)
   rcases Js lower ns hl hn l _ _ hv' (fun m hm=>hc m (.tail _ hm)) e he with z | ⟨z1,z2⟩
   ·rcases List.mem_append.mp z with z | z
    ·exact .inl z
    ·rw [List.mem_singleton.mp z];exact .inr ⟨.head _,rfl,rfl,zd⟩
   ·exact .inr ⟨.tail _ z1,z2⟩
noncomputable def Uv(x1 x2:Str)(own:List (Addr × Obj))(v:Value)(m m':Str→Option Value):Prop :=
 ∃ (q:Pr) (t1 t2:Tok),(∃ a,v=.ref a∧(a,Ad #[.str q.1 t1,.str q.2 t2])∈own)∧m'=fun y=>if y=x2 then some (.str q.2 t2) else if y=x1 then some (.str q.1 t1) else m y
section
variable{prog:Program}{w:World}{A:Around}{E:Value→Shared→Prop}{s:Shared}{h₀:Heap}{L:Addr}{m:Str→Option Value}{news own:List (Addr × Obj)}
theorem Uz{cn:Str}{cs:Scope}{a:Addr}{ccd:Value}{cl:List (Str × Addr)}{x1 x2:Str}{p1 p2 pos:Pos}{k:Nat}{v:Value}{q:Pr}{Q:Unit→Shared→Prop}(hh:A.handled=none)(hq:Ak own v q)(hsub:∀ p∈own,p∈news)(hF:Fr h₀ L s.heap m)(N:News h₀ L s.heap news)
  (h:∀ h' tk m',Fr h₀ L h' m'→News h₀ L h' news→Uv x1 x2 own v m m'→Q () { s with heap:=h',toks:=tk })
  (hk:cs.kind=.function) (hl1:(envX cn cs L a ccd cl).kindOf x1=some .local) (hl2:(envX cn cs L a ccd cl).kindOf x2=some .local) :
  wpAny (model prog w) A (assign (.Tuple [.Name x1 p1,.Name x2 p2] k pos) (envX cn cs L a ccd cl) v) Q E s:=by
 obtain⟨t,t1,t2,rfl,hm⟩:=hq;rw [arm_assign_Tuple];refine Wb (wpAny_standAt ?_)
 show wpAny _ _ (unpack (.ref t) [(false,assign (.Name x1 p1) (envX cn cs L a ccd cl)),(false,assign (.Name x2 p2) (envX cn cs L a ccd cl))]) _ _ _
 unfold unpack;refine Wb (wpAny_holding ?_)
 refine unpackItems_tuple (items:=#[.str q.1 t1,.str q.2 t2]) hh ⟨_,(N _ (hsub _ hm)).1,rfl,_,rfl⟩ fun h' he=>?_
 have hF':Fr h₀ L h' m:=Fr.extBut hF he (Nat.le_refl _);have N':News h₀ L h' news:=News.ext N he
 show wpAny _ _ (do holding [.str q.2 t2] (assign (.Name x1 p1) (envX cn cs L a ccd cl) (.str q.1 t1));do holding [] (assign (.Name x2 p2) (envX cn cs L a ccd cl) (.str q.2 t2));pure ()) _ _ _
 refine Wb (wpAny_holding (PyProof.Rows.assign_Name (storeX_L hF' N' (fun h2 F2 N2=>?_) hk hl1)))
 refine Wb (wpAny_holding (PyProof.Rows.assign_Name (storeX_L F2 N2 (fun h3 F3 N3=>?_) hk hl2)))
 exact Wp (h h3 _ _ F3 N3 ⟨q,t1,t2,⟨t,rfl,hm⟩,rfl⟩)
theorem Qt{cn:Str}{cs:Scope}{a:Addr}{ccd:Value}{cl:List (Str × Addr)}{x1 x2 x3:Str}{p1 p2 p3 pos:Pos}{k:Nat}{t:Addr}{v1 v2 v3:Value}{Q:Unit→Shared→Prop}(hh:A.handled=none)(hF:Fr h₀ L s.heap m)(N:News h₀ L s.heap news)(ht:IsTup s.heap t #[v1,v2,v3])
  (h:∀ h' tk,Fr h₀ L h' (fun y=>if y=x3 then some v3 else if y=x2 then some v2 else if y=x1 then some v1 else m y)→News h₀ L h' news→Q () { s with heap:=h',toks:=tk })
  (hk:cs.kind=.function) (hl1:(envX cn cs L a ccd cl).kindOf x1=some .local) (hl2:(envX cn cs L a ccd cl).kindOf x2=some .local) (hl3:(envX cn cs L a ccd cl).kindOf x3=some .local) :
  wpAny (model prog w) A (assign (.Tuple [.Name x1 p1,.Name x2 p2,.Name x3 p3] k pos) (envX cn cs L a ccd cl) (.ref t)) Q E s:=by
 rw [arm_assign_Tuple];refine Wb (wpAny_standAt ?_)
 show wpAny _ _ (unpack (.ref t) [(false,assign (.Name x1 p1) (envX cn cs L a ccd cl)),(false,assign (.Name x2 p2) (envX cn cs L a ccd cl)),(false,assign (.Name x3 p3) (envX cn cs L a ccd cl))]) _ _ _
 unfold unpack;refine Wb (wpAny_holding ?_)
 refine unpackItems_tuple (items:=#[v1,v2,v3]) hh ht fun h' he=>?_
 have hF':Fr h₀ L h' m:=Fr.extBut hF he (Nat.le_refl _);have N':News h₀ L h' news:=News.ext N he
 show wpAny _ _ (do holding [v2,v3] (assign (.Name x1 p1) (envX cn cs L a ccd cl) v1);do holding [v3] (assign (.Name x2 p2) (envX cn cs L a ccd cl) v2);do holding [] (assign (.Name x3 p3) (envX cn cs L a ccd cl) v3);pure ()) _ _ _
 refine Wb (wpAny_holding (PyProof.Rows.assign_Name (storeX_L hF' N' (fun h2 F2 N2=>?_) hk hl1)))
 refine Wb (wpAny_holding (PyProof.Rows.assign_Name (storeX_L F2 N2 (fun h3 F3 N3=>?_) hk hl2)))
 refine Wb (wpAny_holding (PyProof.Rows.assign_Name (storeX_L F3 N3 (fun h4 F4 N4=>?_) hk hl3)))
 exact Wp (h h4 _ F4 N4)
end
section
variable{prog:Program}{w:World}{A:Around}{E:Value→Shared→Prop}{s:Shared}
theorem Mw{value slice:PySem.Expr}{d:Addr}{kvs:List (Str × Value)}{k:Str}{t:Tok}{v:Value}{Q:Value→Shared→Prop}(hd:s.heap.DictOf (PySem.strKind prog w) d kvs)(hv:valueAt kvs k=some v)(h:Q v { s with toks:=s.toks+1 })
  (hs:subscripted slice false (.ref d) (.str k t)=operate [.ref d,.str k t] (getItem (.ref d) (.str k t)):=by with_unfolding_all rfl) :
  wpAny (model prog w) A (subscriptTail value slice (.ref d) (.str k t)) Q E s :=
 tail_any hd.typeIs slot_dict_getitem.lookup (wpAny_getItem_of (knd:=PySem.strKind prog w) (by simp [PySem.strKind,Value.isStrOf]) hd.mapOf hv h) hs
end
end Mine
namespace Mine
open PySem.Calls
section
variable{prog:Program}{w:World}{A:Around}{E:Value→Shared→Prop}{s:Shared}
theorem Vu{d:Addr}{l:List ((Str × Tok) × (Str × Tok))}{n:Nat}{pl:Sem Bool}{Q:Value × List Value→Shared→Prop}(hd:s.heap.get? d=some (dictOf (Bb w.params l) n))(h:Q (.builtin "dict.get",[.ref d]) s) :
  wpAny (model prog w) A (getMethod (.ref d) "get" pl) Q E s :=
 getMethod_builtin ⟨_,hd,rfl⟩ PySem.F.plainAttrs_dict PySem.F.slot_dict_get PySem.F.type_dict_get (fun a e=>by cases e;exact⟨_,hd,rfl⟩) h
theorem Va{d:Addr}{kvs:List (Str × Value)}{k:Str}{t:Tok}{Q:Value→Shared→Prop}(hd:s.heap.DictOf (PySem.strKind prog w) d kvs)(lo:(d == sysModules)=false)(h:Q ((valueAt kvs k).getD .none) { s with toks:=s.toks+1 }) :
  wpAny (model prog w) A (call (.builtin "dict.get") [.ref d,.str k t]) Q E s :=
 call_meetsIn PySem.F.slot_dict_get hd.typeIs PySem.F.entry_dict_get (PySem.F.args_dict_get_2 _ _) (meets_dict_get (PySem.strKind prog w) d (k:=k) (by simp [PySem.strKind,Value.isStrOf]) lo) ⟨_,hd.mapOf,h⟩
theorem Qk(k:Str):∀ l:List ((Str × Tok) × (Str × Tok)),((l.map fun p=>(p.1.1,p.2.1)).lookup k=none∧valueAt (Dn l) k=none)∨∃ v t,(l.map fun p=>(p.1.1,p.2.1)).lookup k=some v∧valueAt (Dn l) k=some (.str v t)∧∃ p∈l,p.2.1=v
 | []=>.inl ⟨rfl,rfl⟩
 | p::l=>by
  by_cases hk:k=p.1.1
  ·refine .inr ⟨p.2.1,p.2.2,?_,?_,p,.head _,rfl⟩
   ·rw [List.map_cons,List.lookup_cons,hk];simp
   ·simp [valueAt,hk]
  ·have hb:(k == p.1.1)=false:=by simpa using hk
   have h1:((p::l).map fun p=>(p.1.1,p.2.1)).lookup k=(l.map fun p=>(p.1.1,p.2.1)).lookup k:=by rw [List.map_cons,List.lookup_cons,hb]
   have h2:valueAt (Dn (p::l)) k=valueAt (Dn l) k:=by simp [valueAt,List.find?_cons,Ne.symm hk]
   rw [h1,h2]
   rcases Qk k l with z | ⟨v,t,z1,z2,q,hq,z3⟩
   ·exact .inl z
   ·exact .inr ⟨v,t,z1,z2,q,.tail _ hq,z3⟩
theorem Hw{value slice:PySem.Expr}{l:Addr}{v:Value}{vs:List Value}{t:Tok}{Q:Value→Shared→Prop}(hl:IsTup s.heap l (v::vs).toArray)(h:Q v s)
  (hs:subscripted slice false (.ref l) (.int 0 t)=operate [.ref l,.int 0 t] (getItem (.ref l) (.int 0 t)):=by with_unfolding_all rfl) :
  wpAny (model prog w) A (subscriptTail value slice (.ref l) (.int 0 t)) Q E s :=
 item_tupleT hl (by decide) (by decide) (j:=0) (by simp [seqIndex?]) rfl h hs
theorem join_list{x:Str}{t:Tok}{l:Addr}{ds:List (Str × Tok)}{Q:Value→Shared→Prop}(hl:s.heap.IsList l (strValues ds).toArray)(hok:JoinOk x (ds.map (·.1))=true)(h:∀ t' k,Q (.str (Txt.join x (ds.map (·.1))) t') { s with toks:=k }) :
  wpAny (model prog w) A (call (.builtin "str.join") [.str x t,.ref l]) Q E s:=by
 unfold JoinOk at hok;rw [Bool.not_eq_true'] at hok;refine wpAny_call (codeAny_call_builtin F.slot_str_join.plain F.entry_str_join (F.slot_str_join.check _ _ _ _ _ _ _ _ (typeIs_str _ _ _) (F.args_str_join_2 _ _) ?_));refine meets_str_join_list x t l ds hok prog w A (wants Q E) s ⟨hl,post_join ds ⟨joinFit_length hok,?_⟩⟩;exact h
end
end Mine
namespace Mine
open PySem.Calls
theorem Lv{d:Addr}{l:List (Addr × Obj)}(h:AllLt d l)(p:Addr × Obj)(hp:p∈l):p.1<d:=by
 induction l with
 | nil=>exact nomatch hp
 | cons q l ih =>
  obtain⟨h1,h2⟩:=h
  rcases List.mem_cons.mp hp with rfl | hp
  ·exact h1
  ·exact ih h2 hp
theorem Rv{W Z T:List (Addr × Obj)}{v:Value}{q:Pr}(hW:∀ r∈W,r.2.cls≠.type "tuple")(h:Ak (T++(W++Z)) v q):Ak (T++Z) v q:=by
 obtain⟨a',y1,y2,e,hm⟩:=h;refine⟨a',y1,y2,e,?_⟩
 rcases List.mem_append.mp hm with z | z
 ·exact Ml _ z
 ·rcases List.mem_append.mp z with z | z
  ·exact absurd rfl (hW _ z)
  ·exact Mr _ z
theorem off7{a x dx dl out wr ns pr:Addr}{o1 o2 o3 o4 o5 o6 o7:Obj}(h:∀ q∈[(x,o1),(dx,o2),(dl,o3)]++[(out,o4),(wr,o5),(ns,o6),(pr,o7)],a≠q.1):a≠x∧a≠dx∧a≠dl∧a≠out∧a≠wr∧a≠ns∧a≠pr :=
 ⟨h (x,o1) (.head _),h (dx,o2) (.tail _ (.head _)),h (dl,o3) (.tail _ (.tail _ (.head _))),h (out,o4) (.tail _ (.tail _ (.tail _ (.head _)))),h (wr,o5) (.tail _ (.tail _ (.tail _ (.tail _ (.head _))))),h (ns,o6) (.tail _ (.tail _ (.tail _ (.tail _ (.tail _ (.head _)))))),h (pr,o7) (.tail _ (.tail _ (.tail _ (.tail _ (.tail _ (.tail _ (.head _))))))) ⟩
theorem fin_led{g h:Heap}{L:Addr}{W O4 tlB tups prs tmp base:List (Addr × Obj)}{d p c:Addr × Obj}(hbase:W++(O4++(p::(tups++(prs++tmp))))=base)(hc:c∈tmp)(N:News g L h (d::(tlB++base))) :
  News g L h ((W++O4)++(c::d::(tlB++(p::(tups++(prs++tmp)))))):=News.sub N (by
 subst hbase
 exact Fp (Fp (fun _ h=>.tail _ (Mr _ (Ml _ (h)))) (fun _ h=>.tail _ (Mr _ (Mr _ (Ml _ (h)))))) (Fc (.tail _ (Mr _ (Mr _ (Mr _ (.tail _ (Mr _ (Mr _ (hc)))))))) (Fc (.head _) (Fp (fun _ h=>.tail _ (Ml _ (h))) (Fc (.tail _ (Mr _ (Mr _ (Mr _ (.head _))))) (Fp (fun _ h=>.tail _ (Mr _ (Mr _ (Mr _ (.tail _ (Ml _ (h))))))) (Fp (fun _ h=>.tail _ (Mr _ (Mr _ (Mr _ (.tail _ (Mr _ (Ml _ (h)))))))) (fun _ h=>.tail _ (Mr _ (Mr _ (Mr _ (.tail _ (Mr _ (Mr _ (h)))))))))))))))
theorem fin_off{x dx dl out wr ns pr:Addr}{o1 o2 o3 o3' o4 o5 o6 o7:Obj}{tlB tups prs tmp base:List (Addr × Obj)}{d p:Addr × Obj}
  (hbase:[(x,o1),(dx,o2),(dl,o3)]++([(out,o4),(wr,o5),(ns,o6),(pr,o7)]++(p::(tups++(prs++tmp))))=base)
  (hd:∀ r∈base,d.1≠r.1) (htB:∀ q∈tlB,q.1≠d.1∧∀ r∈base,q.1≠r.1)
  (hfr:∀ q∈p::(tups++prs),q.1≠x∧q.1≠dx∧q.1≠dl∧∀ r∈[(out,o4),(wr,o5),(ns,o6),(pr,o7)]++tmp,q.1≠r.1)
  (htmp:∀ q∈tmp,∀ r∈[(x,o1),(dx,o2),(dl,o3')]++[(out,o4),(wr,o5),(ns,o6),(pr,o7)],q.1≠r.1) :
  ∀ r∈d::(tlB++(p::(tups++(prs++tmp)))),r.1≠x∧r.1≠dx∧r.1≠dl∧r.1≠out∧r.1≠wr∧r.1≠ns∧r.1≠pr:=by
 have hb7:∀ q∈[(x,o1),(dx,o2),(dl,o3)]++[(out,o4),(wr,o5),(ns,o6),(pr,o7)],q∈base:=fun q hq=>by
  rw [← hbase]
  rcases List.mem_append.mp hq with z | z
  ·exact Ml _ z
  ·exact Mr _ (Ml _ z)
 have h3:∀ q∈p::(tups++prs),q.1≠x∧q.1≠dx∧q.1≠dl∧q.1≠out∧q.1≠wr∧q.1≠ns∧q.1≠pr:=fun q hq=>by
  obtain⟨e1,e2,e3,e4⟩:=hfr q hq
  exact⟨e1,e2,e3,e4 (out,o4) (by simp),e4 (wr,o5) (by simp),e4 (ns,o6) (by simp),e4 (pr,o7) (by simp)⟩
 intro r hr
 rcases List.mem_cons.mp hr with rfl | hr
 ·exact off7 fun q hq=>hd q (hb7 q hq)
 rcases List.mem_append.mp hr with hr | hr
 ·exact off7 fun q hq=>(htB r hr).2 q (hb7 q hq)
 rcases List.mem_cons.mp hr with rfl | hr
 ·exact h3 _ (.head _)
 rcases List.mem_append.mp hr with hr | hr
 ·exact h3 r (.tail _ (Ml _ hr))
 rcases List.mem_append.mp hr with hr | hr
 ·exact h3 r (.tail _ (Mr _ hr))
 exact off7 (htmp r hr)
theorem Ox{nps lv:List Pr}{l:List Pr}{ps:List (Str × Parsed)}(hlv:∀ q∈lv,q∈nps)(hNq:∀ q∈nps,q.1.length≤100∧q.2.length≤200∧(Di q.1).length≤1000)(hl:∀ q∈l,q.2.length≤100∧(Di q.2).length≤1000∧q.1.length≤200)
  (hps:∀ n pp,ps.lookup n=some pp→pp.2.2.length≤200∧pp.2.1.length≤200∧pp.1.length≤500):∀ q∈Az lv ps l,q.1.length≤1000∧q.2.length≤100∧(Di q.2).length≤1000:=by
 intro q hq;unfold Az at hq
 rcases List.mem_append.mp hq with z | z
 ·obtain⟨q',hq',rfl⟩:=List.mem_map.mp ((Aj _ _).mem_iff.mp z)
  obtain⟨e1,e2,e3⟩:=hNq q' (hlv q' hq');refine⟨?_,e1,e3⟩;unfold Bt
  split
  ·show (Str.ofString "xmlns").length≤1000;decide
  ·show ("xmlns:"++q'.2).length≤1000
   have:("xmlns:"++q'.2).length=(Str.ofString "xmlns:").length+q'.2.length:=Str.length_append _ _
   have h6:(Str.ofString "xmlns:").length=6:=by decide
   exact(Nl fun hn1=>fk [_,_,_] (.e V0 (.k 200) (.e V1 (.a V2 V0) (.e V2 (.k 6) (.e (.s (.k 1000)) V1 K0)))) rfl e2 (El this) (El h6) hn1)
 ·obtain⟨q',hq',rfl⟩:=List.mem_map.mp z
  obtain⟨e1,e2,e3⟩:=hl q' ((Aj _ _).mem_iff.mp hq');unfold Gh
  split
  ·rename_i pp hpp
   obtain⟨f1,f2,f3⟩:=hps _ _ hpp;refine⟨?_,e1,e2⟩
   split
   ·show pp.2.1.length≤1000;exact(Nl fun hn1=>fk [_] (.e V0 (.k 200) (.e (.s (.k 1000)) V0 K0)) rfl f2 hn1)
   ·show pp.1.length≤1000;exact(Nl fun hn1=>fk [_] (.e V0 (.k 500) (.e (.s (.k 1000)) V0 K0)) rfl f3 hn1)
  ·exact⟨by exact(Nl fun hn1=>fk [_] (.e V0 (.k 200) (.e (.s (.k 1000)) V0 K0)) rfl e3 hn1),e1,e2⟩
theorem Iz{lv l:List Pr}{ps:List (Str × Parsed)}:(Az lv ps l).length=lv.length+l.length:=by
 unfold Az;rw [List.length_append,(Aj _ _).length_eq,List.length_map,List.length_map,(Aj _ _).length_eq]
theorem Ja(q:Pr):(Br q).length=q.1.length+(Di q.2).length+4:=by
 unfold Br;have e:∀ a b:Str,(a++b).length=a.length+b.length:=Str.length_append;rw [e,e,e,e]
 have h1:(Str.ofString " ").length=1:=by decide
 have h2:(Str.ofString "=\"").length=2:=by decide
 have h3:(Str.ofString "\"").length=1:=by decide
 exact(Nat.le_antisymm (Nl fun hn2=>fk [_,_,_,_,_] (.e V0 K1 (.e V1 (.k 2) (.e V2 K1 (.e (.a (.a (.a V3 V4) (.k 4)) K1) (.a (.a (.a (.a V0 V3) V1) V4) V2) K0)))) rfl (El h1) (El h2) (El h3) hn2) (Nl fun hn3=>fk [_,_,_,_,_] (.e K1 V0 (.e (.k 2) V1 (.e K1 V2 (.e (.a (.a (.a (.a (.a V0 V3) V1) V4) V2) K1) (.a (.a V3 V4) (.k 4)) K0)))) rfl (Es h1) (Es h2) (Es h3) hn3))
theorem join_ok{al:List Pr}(hl:al.length≤50)(hq:∀ q∈al,q.1.length≤1000∧q.2.length≤100∧(Di q.2).length≤1000):JoinOk Str.empty (al.map Br)=true:=by
 have hb:∀ l:List Pr,(∀ q∈l,q.1.length≤1000∧q.2.length≤100∧(Di q.2).length≤1000)→((l.map Br).map (·.length)).sum≤2004 * l.length:=by
  intro l
  induction l with
  | nil=>intro _;simp
  | cons q l ih =>
   intro h
   have:=ih fun r hr=>h r (.tail _ hr)
   have h2:=h q (.head _)
   simp only [List.map_cons,List.sum_cons,List.length_cons,Ja]
   exact(Nl fun hn1=>fk [_,_,_,_] (.e V0 (.m 2004 V1) (.e V2 (.k 1000) (.e V3 (.k 1000) (.e (.a (.m 2004 (.s V1)) K1) (.a (.a (.a V2 V3) (.k 4)) V0) K0)))) rfl this h2.1 h2.2.2 hn1)
 have h2:=hb al hq
 have:=joinOk_filter (sep:=Str.empty) (ss:=al.map Br) (pz:=fun _=>true) (by rw [List.length_map];exact(Nl fun hn1=>fk [_,_] (.c 2005 V0 (.k 50) (.e V1 (.m 2004 V0) (.e (.s (.k 1048576)) (.a V1 V0) K0))) rfl hl h2 hn1)) (by decide)
 rw [List.filter_eq_self.mpr (fun _ _=>rfl)] at this
 rw [List.map_map] at this;exact this
end Mine
namespace Mine
open PySem.Calls
open PyProof.Rows.LCg
section
variable{prog:Program}{w:World}{A:Around}{E:Value→Shared→Prop}{s:Shared}{h₀:Heap}{L:Addr}{m:Str→Option Value}{news:List (Addr × Obj)}{env:Env}{os:OsState}
theorem Rf{d:Nat}{e target:PySem.Expr}{ipos:Pos}{emit:Sem Unit}{it acc:Value}{cenv:Env}{R:Result→Shared→Prop}(I:Nat→Shared→Prop)
  (hq:(Code.compLoop e d it acc cenv).quiet=true)
  (hden:∀ (s:Shared) (Q:PySem.Fin→Shared→Prop) (E':Value→Shared→Prop),wpAny (model prog w) A ((compTurn e d it acc cenv).onRaise (fun x=>do noteFrame x cenv;theTreesLotGoes x)) Q E' s→wpAny (model prog w) (A.under (.compLoop e d it acc cenv)) ((model prog w).den (.compLoop e d it acc cenv)) Q E' s)
  (ht:compTurn e d it acc cenv=(standAt ipos >>= fun _=>pyNext it >>= fun r=>match r with
   | none=>pure (.done .next)
   | some v=>letOwnedTupleGo target it v >>= fun _=>assign target cenv v >>= fun _=>emit >>= fun _=>again (.compLoop e d it acc cenv)))
  (turn:∀ n s,I n s→wpAny (model prog w) A (pyNext it) (fun r s₁=>match r with
   | none=>R (.ok .next) s₁
   | some v=>wpAny (model prog w) A (letOwnedTupleGo target it v) (fun _ s₂=>wpAny (model prog w) A (assign target cenv v) (fun _ s₃=>wpAny (model prog w) A emit (fun _ s₄=>∃ m,m<n∧I m s₄)
     (notedBy (model prog w) A cenv fun e s'=>R (.error e) s') s₃) (notedBy (model prog w) A cenv fun e s'=>R (.error e) s') s₂) (notedBy (model prog w) A cenv fun e s'=>R (.error e) s') s₁) (notedBy (model prog w) A cenv fun e s'=>R (.error e) s') s)
  (n:Nat) (h:I n s):codeAny (model prog w) A (.compLoop e d it acc cenv) R s:=by
 refine codeAny_loop hq I (fun n s hI=>hden _ _ _ ?_) n h
 refine wpAny_noted ?_;rw [ht]
 refine Wb (wpAny_standAt (Wb (wpAny_mono (turn n s hI) (fun r s₁ h₁=>?_) fun _ _ h'=>h')))
 cases r with
 | none=>exact Wp h₁
 | some v =>
  exact Wb (wpAny_mono h₁ (fun _ s₂ h₂=>Wb (wpAny_mono h₂ (fun _ s₃ h₃=>Wb (wpAny_mono h₃ (fun _ s₄ h₄=>Wp ⟨rfl,h₄⟩) fun _ _ h'=>h')) fun _ _ h'=>h')) fun _ _ h'=>h')
theorem Re{d:Nat}{e target:PySem.Expr}{ipos:Pos}{tail:Sem PySem.Fin}{it acc:Value}{cenv:Env}{R:Result→Shared→Prop}(I:Nat→Shared→Prop)
  (hq:(Code.compLoop e d it acc cenv).quiet=true)
  (hden:∀ (s:Shared) (Q:PySem.Fin→Shared→Prop) (E':Value→Shared→Prop),wpAny (model prog w) A ((compTurn e d it acc cenv).onRaise (fun x=>do noteFrame x cenv;theTreesLotGoes x)) Q E' s→wpAny (model prog w) (A.under (.compLoop e d it acc cenv)) ((model prog w).den (.compLoop e d it acc cenv)) Q E' s)
  (ht:compTurn e d it acc cenv=(standAt ipos >>= fun _=>pyNext it >>= fun r=>match r with
   | none=>pure (.done .next)
   | some v=>letOwnedTupleGo target it v >>= fun _=>assign target cenv v >>= fun _=>tail))
  (turn:∀ n s,I n s→wpAny (model prog w) A (pyNext it) (fun r s₁=>match r with
   | none=>R (.ok .next) s₁
   | some v=>wpAny (model prog w) A (letOwnedTupleGo target it v) (fun _ s₂=>wpAny (model prog w) A (assign target cenv v) (fun _ s₃=>wpAny (model prog w) A tail (fun f s₄=>f=.again (.compLoop e d it acc cenv)∧∃ m,m<n∧I m s₄)
     (notedBy (model prog w) A cenv fun e s'=>R (.error e) s') s₃) (notedBy (model prog w) A cenv fun e s'=>R (.error e) s') s₂) (notedBy (model prog w) A cenv fun e s'=>R (.error e) s') s₁) (notedBy (model prog w) A cenv fun e s'=>R (.error e) s') s)
  (n:Nat) (h:I n s):codeAny (model prog w) A (.compLoop e d it acc cenv) R s:=by
 refine codeAny_loop hq I (fun n s hI=>hden _ _ _ ?_) n h
 refine wpAny_noted ?_;rw [ht]
 refine Wb (wpAny_standAt (Wb (wpAny_mono (turn n s hI) (fun r s₁ h₁=>?_) fun _ _ h'=>h')))
 cases r with
 | none=>exact Wp h₁
 | some v =>
  exact Wb (wpAny_mono h₁ (fun _ s₂ h₂=>Wb (wpAny_mono h₂ (fun _ s₃ h₃=>wpAny_mono h₃ (fun f s₄ h₄=>by obtain⟨rfl,z⟩:=h₄;exact⟨rfl,z⟩) fun _ _ h'=>h') fun _ _ h'=>h')) fun _ _ h'=>h')
noncomputable def Du(w:World)(A:Around)(s:Shared)(prog:Program)(E:Value→Shared→Prop)(h₀:Heap)(L:Addr)(m:Str→Option Value)(env:Env)(os:OsState)(e target:PySem.Expr)(ipos:Pos)(scope:Scope)(cl:List (Str × Addr))(newAcc:Sem Value)(o0:Obj)(tail:Addr→Addr→Addr→Sem PySem.Fin)(ax:Addr)(its:Array Value)(news:List (Addr × Obj))(RR:Value→Addr→Result→Shared→Prop)(J:Addr→List Value→List (Addr × Obj)→Prop):Prop :=
 ∀ (B:List (Addr × Obj)→Value→(Str→Option Value)→Prop) (hacc:∀ (s:Shared) (Q:Value→Shared→Prop),Q (.ref s.heap.objs.size) { s with heap:=s.heap.push o0 }→wpAny (model prog w) A newAcc Q E s) (ho0:Obj.isFreed o0=false) (hst:∀ (I D C:Addr) (R:Result→Shared→Prop) (s:Shared),codeAny (model prog w) A (.compLoop e 0 (.ref I) (.ref D) (compEnvC scope cl C env)) R s →
   wpAny (model prog w) A (pyIter (.ref I)) (fun it' s'=>codeAny (model prog w) A (.compLoop e 0 it' (.ref D) (compEnvC scope cl C env)) R s') (notedBy (model prog w) A (compEnvC scope cl C env) fun x s'=>R (.error x) s') s→codeAny (model prog w) A (.compStart e 0 (.ref I) (.ref D) (compEnvC scope cl C env)) R s) (hq:∀ I D C,(Code.compLoop e 0 (.ref I) (.ref D) (compEnvC scope cl C env)).quiet=true) (hden:∀ (I D C:Addr) (s:Shared) (Q:PySem.Fin→Shared→Prop) (E':Value→Shared→Prop),wpAny (model prog w) A ((compTurn e 0 (.ref I) (.ref D) (compEnvC scope cl C env)).onRaise (fun x=>do noteFrame x (compEnvC scope cl C env);theTreesLotGoes x)) Q E' s→wpAny (model prog w) (A.under (.compLoop e 0 (.ref I) (.ref D) (compEnvC scope cl C env))) ((model prog w).den (.compLoop e 0 (.ref I) (.ref D) (compEnvC scope cl C env))) Q E' s) (ht:∀ I D C,compTurn e 0 (.ref I) (.ref D) (compEnvC scope cl C env)=(standAt ipos >>= fun _=>pyNext (.ref I) >>= fun r=>match r with
   | none=>pure (.done .next)
   | some v=>letOwnedTupleGo target (.ref I) v >>= fun _=>assign target (compEnvC scope cl C env) v >>= fun _=>tail I D C)) (hown:∀ (I:Addr) (i:Nat) (v:Value) (s:Shared) (Q:Unit→Shared→Prop) (E':Value→Shared→Prop),s.heap.IsListIter I ax i→v∈its.toList→Q () s→wpAny (model prog w) A (letOwnedTupleGo target (.ref I) v) Q E' s) (hasg:∀ (s1:Shared) (v:Value) (rem:List Value) (own:List (Addr × Obj)) (D C:Addr) (mC:Str→Option Value) (Q:Unit→Shared→Prop) (E':Value→Shared→Prop),J D (v::rem) own→(∀ b o,h₀.get? b=some o→s1.heap.get? b=some o)→(∀ p∈own,s1.heap.get? p.1=some p.2)→s1.heap.Ns C mC →
   (∀ h' tk m₂,h'.Ns C m₂→B own v m₂→(∀ b o,b≠C→s1.heap.get? b=some o→h'.get? b=some o)→Q () { s1 with heap:=h',toks:=tk })→wpAny (model prog w) A (assign target (compEnvC scope cl C env) v) Q E' s1) (hcell:∀ y∈scope.names,y.2≠.cell) (hkind:scope.kind=.function) (hh:A.handled=none) (F:Fr h₀ L s.heap m) (N:News h₀ L s.heap news) (hos:s.os=os) (hb:AllBare s.gens) (hsrc0:SrcAt h₀ ax its news) (hsz:its.size≤sizeLine) (hJ0:∀ D,(∀ p∈news,p.1<D)→J D its.toList ((D,o0)::news)) (hsrc:∀ D rem own,J D rem own→SrcAt h₀ ax its own) (step:∀ (s1:Shared) D v rem own I oI C oC m₂ (E':Value→Shared→Prop),J D (v::rem) own→NsObj oC m₂→B own v m₂→Fr h₀ L s1.heap m→News h₀ L s1.heap ((I,oI)::(C,oC)::own)→(∀ p∈own,p.1≠I∧p.1≠C)→I≠C→s1.os=os→AllBare s1.gens →
   wpAny (model prog w) A (tail I D C) (fun f s3=>f=.again (.compLoop e 0 (.ref I) (.ref D) (compEnvC scope cl C env))∧∃ own' oC' m₂',NsObj oC' m₂'∧J D rem own'∧Fr h₀ L s3.heap m∧News h₀ L s3.heap ((I,oI)::(C,oC')::own')∧(∀ p∈own',p.1≠I∧p.1≠C)∧s3.os=os∧AllBare s3.gens) E' s1) (fin:∀ (s1:Shared) D C own mC,J D [] own→Fr h₀ L s1.heap m→News h₀ L s1.heap own→s1.heap.Ns C mC→h₀.get? C=none→C≠L→(∀ p∈own,p.1≠C)→s1.os=os→AllBare s1.gens→RR (.ref D) C (.ok .next) s1),wpAny (model prog w) A (pyIter (.ref ax)) (fun it s₂=>wpAny (model prog w) A newAcc (fun acc s₃=>wpAny (model prog w) A (newFunctionEnv scope env.globals cl [] env.qual none .none (some env)) (fun cenv s₄ =>
   codeAny (model prog w) A (.compStart e 0 it acc { cenv with scope:=relabel scope env }) (RR acc cenv.locals) s₄) E s₃) E s₂) E s
theorem Jc:∀ a b c d e f g h i j k l m n o p q r s t u v w,Du a b c d e f g h i j k l m n o p q r s t u v w:=by
 refine Aa (Al neW)<|Aa neI<|Hj neI<|let_mvar% ?n:=(fun w A s prog E h₀ L m env os e target ipos scope cl newAcc o0 tail ax its news RR J=>?_:∀ a b c d e f g h i j k l m n o p q r s t u v w,Du a b c d e f g h i j k l m n o p q r s t u v w);?n _ _ _ _ _ _ _ _ _ _ _ _ _ _ _ _ _ _ _ _ _ _ _
 intro B hacc ho0 hst hq hden ht hown hasg hcell hkind hh F N hos hb hsrc0 hsz hJ0 hsrc step fin;have hl:=hsrc0.list F.keep N
 have hlt:ax<s.heap.objs.size:=by obtain⟨_,e,_⟩:=hl;exact Heap.lt_size e
 refine wpAny_pyIter_list hl ?_
 generalize hIeq:s.heap.objs.size=I
 have hI1:(s.heap.push { cls:=.type "list_iterator",data:=.fields #[.ref ax,.int 0 0] }).IsListIter I ax 0:=⟨_,by rw [← hIeq];exact Heap.get?_push_size _ rfl,rfl,rfl⟩
 have up1:∀ b o,s.heap.get? b=some o→(s.heap.push { cls:=.type "list_iterator",data:=.fields #[.ref ax,.int 0 0] }).get? b=some o:=fun b o e=>Heap.get?_push_of_some _ e
 have hz1:(s.heap.push { cls:=.type "list_iterator",data:=.fields #[.ref ax,.int 0 0] }).objs.size=I+1:=by rw [Heap.size_push,hIeq]
 generalize s.heap.push { cls:=.type "list_iterator",data:=.fields #[.ref ax,.int 0 0] }=H1 at hI1 up1 hz1
 refine hacc _ _ ?_;dsimp only;rw [hz1]
 have hD2:(H1.push o0).get? (I+1)=some o0:=by rw [← hz1];exact Heap.get?_push_size _ ho0
 have up2:∀ b o,H1.get? b=some o→(H1.push o0).get? b=some o:=fun b o e=>Heap.get?_push_of_some _ e
 have hz2:(H1.push o0).objs.size=I+1+1:=by rw [Heap.size_push,hz1]
 generalize H1.push o0=H2 at hD2 up2 hz2
 refine wpAny_newFunctionEnv hcell (by intro y hy;simp at hy) (fun h₁ hns₁ hsb₁=>?_) hkind
 dsimp only at hns₁ hsb₁ ⊢;rw [hz2] at hns₁ hsb₁ ⊢
 have up3:∀ b o,H2.get? b=some o→h₁.get? b=some o:=fun b o e=>hsb₁.extBut b o (Nat.ne_of_lt (by have:=Heap.lt_size e;rw [hz2] at this;exact this)) (Heap.get?_push_of_some _ e)
 have up:∀ b o,s.heap.get? b=some o→h₁.get? b=some o:=fun b o e=>up3 b o (up2 b o (up1 b o e))
 have hLI:L<I:=by rw [← hIeq];exact F.ns.lt
 have fresh₀:∀ a,L<a→h₀.get? a=none:=fun a ha=>Heap.get?_none_of_le (Nat.le_trans F.above (Nat.le_of_lt ha))
 have hI0:=fresh₀ I hLI;have hD0:=fresh₀ (I+1) (Nat.lt_succ_of_lt hLI);have hC0:=fresh₀ (I+1+1) (Nat.lt_succ_of_lt (Nat.lt_succ_of_lt hLI));have hIC:I≠I+1+1:=Nat.ne_of_lt (Nat.lt_succ_of_lt (Nat.lt_succ_self _));have hCL:I+1+1≠L:=Nat.ne_of_gt (Nat.lt_succ_of_lt (Nat.lt_succ_of_lt hLI));have hIL:I≠L:=Nat.ne_of_gt hLI
 have hnI:∀ p∈news,p.1<I:=fun p hp=>by rw [← hIeq];exact Heap.lt_size (N p hp).1
 have hj0:=hJ0 (I+1) fun p hp=>Nat.lt_succ_of_lt (hnI p hp)
 have hi1:h₁.IsListIter I ax 0:=by obtain⟨o,ho,r⟩:=hI1;exact⟨o,up3 _ _ (up2 _ _ ho),r⟩
 have loop:codeAny (model prog w) A (.compLoop e 0 (.ref I) (.ref (I+1)) (compEnvC scope cl (I+1+1) env)) (RR (.ref (I+1)) (I+1+1)) { s with heap:=h₁,toks:=s.toks+([]:List (Str × Value)).length }:=by
  refine Re (d:=0) (target:=target) (ipos:=ipos) (tail:=tail I (I+1) (I+1+1)) (fun k s'=>∃ i rem own mC,k=rem.length∧its.toList.drop i=rem∧i+rem.length=its.size∧J (I+1) rem own∧Fr h₀ L s'.heap m∧News h₀ L s'.heap own∧(∀ p∈own,p.1≠I∧p.1≠I+1+1) ∧
   s'.heap.Ns (I+1+1) mC∧s'.heap.IsListIter I ax i∧s'.os=os∧AllBare s'.gens) (hq _ _ _) (hden _ _ _) (ht _ _ _) ?_ its.size
   ⟨0,its.toList,(I+1,o0)::news,_,by simp,rfl,by simp,hj0,F.keeps up,fun p hp=>?_,fun p hp=>?_,hns₁,hi1,hos,hb⟩
  ·rintro k s' ⟨i,rem,own,mC,rfl,hrem,zd,hJ,F',N',off,hns,hit,hos',hb'⟩
   have hl':s'.heap.IsList ax its:=(hsrc _ _ _ hJ).list F'.keep N'
   cases rem with
   | nil =>
    refine wpAny_pyNext_list_end hh hit hl' ?_ fun h₂ he₂=>?_
    ·have:its.size≤i:=by simp at zd;exact(Es zd)
     simp;exact this
    ·dsimp only
     refine fin _ (I+1) (I+1+1) own mC hJ (Cr F' he₂ (Ne.symm hIL) hI0) (fun p hp=>⟨he₂ _ _ (off p hp).1 (N' p hp).1,(N' p hp).2⟩) ?_ hC0 hCL (fun p hp=>(off p hp).2) hos' hb'
     obtain⟨o,es,ep,e,r⟩:=hns;exact⟨o,es,ep,he₂ _ _ (Ne.symm hIC) e,r⟩
   | cons v rem =>
    have hlt':i<its.size:=by simp at zd;exact(Nt fun hn1=>fk [_,_,_] (.e (.a V0 (.s V1)) V2 (.e V2 V0 K0)) rfl (El zd) hn1)
    have hget:its[i]?=some v:=by
     rw [← Array.getElem?_toList];have:=congrArg (·[0]?) hrem
     simp only [List.getElem?_drop,Nat.add_zero,List.getElem?_cons_zero] at this
     exact this
    refine wpAny_pyNext_list_item hit hl' hget fun h₂ hit₂ hs₂=>?_
    dsimp only
    have hmem:v∈its.toList:=by rw [← Array.getElem?_toList] at hget;exact List.mem_of_getElem? hget
    refine hown I (i+1) v _ _ _ hit₂ hmem ?_;have F₂:=Cr F' hs₂.extBut (Ne.symm hIL) hI0
    have N₂:News h₀ L h₂ own:=fun p hp=>⟨hs₂.extBut _ _ (off p hp).1 (N' p hp).1,(N' p hp).2⟩
    have hns₂:h₂.Ns (I+1+1) mC:=by
     obtain⟨o,es,ep,e,r⟩:=hns;exact⟨o,es,ep,hs₂.extBut _ _ (Ne.symm hIC) e,r⟩
    refine hasg _ v rem own (I+1) (I+1+1) mC _ _ hJ F₂.keep (fun p hp=>(N₂ p hp).1) hns₂ fun h₃ tk₃ m₂ hns₃ hB hk₃=>?_
    obtain⟨oI,heI,hcI,hdI⟩:=id hit₂;obtain⟨oC,heC,hoC⟩:=ns_obj hns₃
    have F₃:Fr h₀ L h₃ m:=Cr F₂ (fun b o hb e=>hk₃ b o hb e) (Ne.symm hCL) hC0
    have N₃:News h₀ L h₃ ((I,oI)::(I+1+1,oC)::own):=fun p hp=>by
     rcases List.mem_cons.mp hp with rfl | hp
     ·exact⟨hk₃ _ _ hIC heI,hIL,hI0⟩
     ·rcases List.mem_cons.mp hp with rfl | hp
      ·exact⟨heC,hCL,hC0⟩
      ·exact⟨hk₃ _ _ (off p hp).2 (N₂ p hp).1,(N₂ p hp).2⟩
    refine wpAny_mono (step { s' with heap:=h₃,toks:=tk₃ } (I+1) v rem own I oI (I+1+1) oC m₂ _ hJ hoC hB F₃ N₃ off hIC hos' hb') (fun _ s₄ h₄=>?_) fun _ _ z=>z
    obtain⟨ef,own',oC',m₂',hoC',hJ',F₄,N₄,off₄,hos₄,hb₄⟩:=h₄
    refine⟨ef,rem.length,Nat.lt_succ_self _,i+1,rem,own',m₂',rfl,?_,by simp at zd ⊢;exact(Nat.le_antisymm (Nl fun hn2=>fk [_,_,_] (.e (.a V0 (.s V1)) V2 (.e (.s V2) (.a (.s V0) V1) K0)) rfl (El zd) hn2) (Nl fun hn3=>fk [_,_,_] (.e V0 (.a V1 (.s V2)) (.e (.a (.a (.s V1) V2) K1) V0 K0)) rfl (Es zd) hn3)),hJ',F₄,fun p hp=>N₄ p (.tail _ (.tail _ hp)),off₄,hoC'.ns (N₄ (I+1+1,oC') (.tail _ (.head _))).1,⟨oI,(N₄ (I,oI) (.head _)).1,hcI,hdI⟩,hos₄,hb₄⟩
    rw [← List.drop_drop,hrem];rfl
  ·rcases List.mem_cons.mp hp with rfl | hp
   ·exact⟨up3 _ _ hD2,Nat.ne_of_gt (Nat.lt_succ_of_lt hLI),hD0⟩
   ·exact⟨up _ _ (N p hp).1,(N p hp).2⟩
  ·rcases List.mem_cons.mp hp with rfl | hp
   ·exact⟨Nat.ne_of_gt (Nat.lt_succ_self _),Nat.ne_of_lt (Nat.lt_succ_self _)⟩
   ·exact⟨Nat.ne_of_lt (hnI p hp),Nat.ne_of_lt (Nat.lt_succ_of_lt (Nat.lt_succ_of_lt (hnI p hp)))⟩
 exact hst _ _ _ _ _ loop (wpAny_pyIter_listiter (s:={ s with heap:=h₁,toks:=s.toks+([]:List (Str × Value)).length }) hi1 loop)
theorem Ia{w A s prog E h₀ L m env os e target ipos scope cl newAcc o0 tail ax its news RR}(J):Du w A s prog E h₀ L m env os e target ipos scope cl newAcc o0 tail ax its news RR J:=Jc _ _ _ _ _ _ _ _ _ _ _ _ _ _ _ _ _ _ _ _ _ _ _
noncomputable def Gq(w:World)(A:Around)(s:Shared)(prog:Program)(E:Value→Shared→Prop)(h₀:Heap)(L:Addr)(m:Str→Option Value)(env:Env)(os:OsState)(e:PySem.Expr)(ipos:Pos)(x:Str)(px pe:Pos)(scope:Scope)(cl:List (Str × Addr))(ax I0 C D:Addr)(oI0 oC:Obj)(its:Array Value)(ys:List Value)(own:List (Addr × Obj))(m₂:Str→Option Value)(R:Result→Shared→Prop):Prop :=
 ∀ (hst:∀ (I:Addr) (R:Result→Shared→Prop) (s:Shared),codeAny (model prog w) A (.compLoop e 1 (.ref I) (.ref D) (compEnvC scope cl C env)) R s →
   wpAny (model prog w) A (pyIter (.ref I)) (fun it' s'=>codeAny (model prog w) A (.compLoop e 1 it' (.ref D) (compEnvC scope cl C env)) R s') (notedBy (model prog w) A (compEnvC scope cl C env) fun x s'=>R (.error x) s') s→codeAny (model prog w) A (.compStart e 1 (.ref I) (.ref D) (compEnvC scope cl C env)) R s) (hq:∀ I,(Code.compLoop e 1 (.ref I) (.ref D) (compEnvC scope cl C env)).quiet=true) (hden:∀ (I:Addr) (s:Shared) (Q:PySem.Fin→Shared→Prop) (E':Value→Shared→Prop),wpAny (model prog w) A ((compTurn e 1 (.ref I) (.ref D) (compEnvC scope cl C env)).onRaise (fun x=>do noteFrame x (compEnvC scope cl C env);theTreesLotGoes x)) Q E' s→wpAny (model prog w) (A.under (.compLoop e 1 (.ref I) (.ref D) (compEnvC scope cl C env))) ((model prog w).den (.compLoop e 1 (.ref I) (.ref D) (compEnvC scope cl C env))) Q E' s) (ht:∀ I,compTurn e 1 (.ref I) (.ref D) (compEnvC scope cl C env)=(standAt ipos >>= fun _=>pyNext (.ref I) >>= fun r=>match r with
   | none=>pure (.done .next)
   | some v=>letOwnedTupleGo (.Name x px) (.ref I) v >>= fun _=>assign (.Name x px) (compEnvC scope cl C env) v >>= fun _=>(eval (.Name x pe) (compEnvC scope cl C env) >>= fun y=>call (.builtin "list.append") [.ref D,y] >>= fun _=>pure ()) >>= fun _=>again (.compLoop e 1 (.ref I) (.ref D) (compEnvC scope cl C env)))) (hkind:scope.kind=.function) (hx:scope.names.lookup x=some .local) (hd:(x == ("__debug__":Str))=false) (hh:A.handled=none) (F:Fr h₀ L s.heap m) (N:News h₀ L s.heap ((I0,oI0)::(C,oC)::(D,lst ys)::own)) (hC:NsObj oC m₂) (off:Off3 I0 C D own) (hne:I0≠C∧I0≠D∧C≠D) (hos:s.os=os) (hb:AllBare s.gens) (hsrc:SrcAt h₀ ax its own) (hsz:ys.length+its.size≤1000) (fin:∀ (s1:Shared) oC' m₂',NsObj oC' m₂'→Fr h₀ L s1.heap m→News h₀ L s1.heap ((I0,oI0)::(C,oC')::(D,lst (ys++its.toList))::own)→s1.os=os→AllBare s1.gens→R (.ok .next) s1),wpAny (model prog w) A (pyIter (.ref ax)) (fun it s₂=>codeAny (model prog w) A (.compStart e 1 it (.ref D) (compEnvC scope cl C env)) R s₂) E s
theorem Rc:∀ {w A s prog E h₀ L m env os e ipos x px pe scope cl ax I0 C D oI0 oC its ys own m₂ R},Gq w A s prog E h₀ L m env os e ipos x px pe scope cl ax I0 C D oI0 oC its ys own m₂ R:=by
 refine @(Aa (Al neW)<|@(Aa neI<|@(Aa neI<|@(Ey neI<|let_mvar% ?n:=(fun w A s prog E h₀ L m env os e ipos x px pe scope cl ax I0 C D oI0 oC its ys own m₂ R=>?_:∀ a b c d e f g h i j k l m n o p q r s t u v w x y z a1 b1,Gq a b c d e f g h i j k l m n o p q r s t u v w x y z a1 b1);?n _ _ _ _ _ _ _ _ _ _ _ _ _ _ _ _ _ _ _ _ _ _ _ _ _ _ _ _))))
 intro hst hq hden ht hkind hx hd hh F N hC off hne hos hb hsrc hsz fin
 have No:News h₀ L s.heap own:=fun p hp=>N p (.tail _ (.tail _ (.tail _ hp)))
 have hl:=hsrc.list F.keep No;refine wpAny_pyIter_list hl ?_
 generalize hIeq:s.heap.objs.size=I
 have hI1:(s.heap.push { cls:=.type "list_iterator",data:=.fields #[.ref ax,.int 0 0] }).IsListIter I ax 0:=⟨_,by rw [← hIeq];exact Heap.get?_push_size _ rfl,rfl,rfl⟩
 have up1:∀ b o,s.heap.get? b=some o→(s.heap.push { cls:=.type "list_iterator",data:=.fields #[.ref ax,.int 0 0] }).get? b=some o:=fun b o e=>Heap.get?_push_of_some _ e
 have hLI:L<I:=by rw [← hIeq];exact F.ns.lt
 have hI0:h₀.get? I=none:=Heap.get?_none_of_le (Nat.le_trans F.above (Nat.le_of_lt hLI));have hIL:I≠L:=Nat.ne_of_gt hLI
 have nI:∀ p∈(I0,oI0)::(C,oC)::(D,lst ys)::own,p.1≠I:=fun p hp=>Nat.ne_of_lt (by rw [← hIeq];exact Heap.lt_size (N p hp).1)
 have nC:C≠I:=nI (C,oC) (.tail _ (.head _));have nD:D≠I:=nI (D,lst ys) (.tail _ (.tail _ (.head _)));have n0:I0≠I:=nI (I0,oI0) (.head _)
 have nO:∀ p∈own,p.1≠I:=fun p hp=>nI p (.tail _ (.tail _ (.tail _ hp)))
 have o3:=off.mem;have hC0:=(N (C,oC) (.tail _ (.head _))).2;have hD0:=(N (D,lst ys) (.tail _ (.tail _ (.head _)))).2
 have loop:codeAny (model prog w) A (.compLoop e 1 (.ref I) (.ref D) (compEnvC scope cl C env)) R { s with heap:=s.heap.push { cls:=.type "list_iterator",data:=.fields #[.ref ax,.int 0 0] } }:=by
  refine Rf (target:=.Name x px) (ipos:=ipos) (emit:=(eval (.Name x pe) (compEnvC scope cl C env) >>= fun y=>call (.builtin "list.append") [.ref D,y] >>= fun _=>pure ()))
   (fun k s'=>∃ i rem oC' mC,k=rem.length∧its.toList.drop i=rem∧i+rem.length=its.size∧NsObj oC' mC∧Fr h₀ L s'.heap m∧News h₀ L s'.heap ((I0,oI0)::(C,oC')::(D,lst (ys++its.toList.take i))::own)∧s'.heap.IsListIter I ax i∧s'.os=os∧AllBare s'.gens) (hq I) (hden I) (ht I) ?_ its.size
   ⟨0,its.toList,oC,m₂,by simp,rfl,by simp,hC,F.keeps up1,by rw [List.take_zero,List.append_nil];exact fun p hp=>⟨up1 _ _ (N p hp).1,(N p hp).2⟩,hI1,hos,hb⟩
  rintro k s' ⟨i,rem,oC',mC,rfl,hrem,zd,hC',F',N',hit,hos',hb'⟩
  have No':News h₀ L s'.heap own:=fun p hp=>N' p (.tail _ (.tail _ (.tail _ hp)))
  have hl':s'.heap.IsList ax its:=hsrc.list F'.keep No'
  cases rem with
  | nil =>
   have hi:its.size≤i:=by simp at zd;exact(Es zd)
   refine wpAny_pyNext_list_end hh hit hl' (by simp;exact hi) fun h₂ he₂=>?_
   dsimp only
   have et:its.toList.take i=its.toList:=List.take_of_length_le (by simpa using hi)
   rw [et] at N'
   refine fin _ oC' mC hC' (Cr F' he₂ (Ne.symm hIL) hI0) (fun p hp=>⟨he₂ _ _ ?_ (N' p hp).1,(N' p hp).2⟩) hos' hb'
   simp only [List.mem_cons] at hp
   rcases hp with rfl | rfl | rfl | hp
   ·exact n0
   ·exact nC
   ·exact nD
   ·exact nO p hp
  | cons v rem =>
   have hlt':i<its.size:=by simp at zd;exact(Nt fun hn1=>fk [_,_,_] (.e (.a V0 (.s V1)) V2 (.e V2 V0 K0)) rfl (El zd) hn1)
   have hget:its[i]?=some v:=by
    rw [← Array.getElem?_toList];have:=congrArg (·[0]?) hrem
    simp only [List.getElem?_drop,Nat.add_zero,List.getElem?_cons_zero] at this
    exact this
   refine wpAny_pyNext_list_item hit hl' hget fun h₂ hit₂ hs₂=>?_
   dsimp only;refine Wp ?_
   have N₂:News h₀ L h₂ ((I0,oI0)::(C,oC')::(D,lst (ys++its.toList.take i))::own):=fun p hp=>by
    refine⟨hs₂.extBut _ _ ?_ (N' p hp).1,(N' p hp).2⟩
    simp only [List.mem_cons] at hp
    rcases hp with rfl | rfl | rfl | hp
    ·exact n0
    ·exact nC
    ·exact nD
    ·exact nO p hp
   have F₂:=Cr F' hs₂.extBut (Ne.symm hIL) hI0;have zC:=N₂ (C,oC') (.tail _ (.head _))
   refine wpAny_assign_Name (wpAny_storeName_local (lookup_relabel_local hx) (hC'.ns zC.1) (fun h₃ hn₃ hs₃=>?_) (by simp [compEnvC,relabel,hkind]))
   obtain⟨oC3,heC,hoC⟩:=ns_obj hn₃;have F₃:Fr h₀ L h₃ m:=Cr F₂ hs₃.extBut (Ne.symm hC0.1) hC0.2
   have N₃:News h₀ L h₃ ((I0,oI0)::(C,oC3)::(D,lst (ys++its.toList.take i))::own):=fun p hp=>by
    rcases List.mem_cons.mp hp with rfl | hp
    ·have z:=N₂ (I0,oI0) (.head _)
     exact⟨hs₃.extBut _ _ hne.1 z.1,z.2⟩
    rcases List.mem_cons.mp hp with rfl | hp
    ·exact⟨heC,hC0⟩
    rcases List.mem_cons.mp hp with rfl | hp
    ·have z:=N₂ (D,lst (ys++its.toList.take i)) (.tail _ (.tail _ (.head _)))
     exact⟨hs₃.extBut _ _ (Ne.symm hne.2.2) z.1,z.2⟩
    ·have z:=N₂ p (.tail _ (.tail _ (.tail _ hp)))
     exact⟨hs₃.extBut _ _ (o3 p hp).2.1 z.1,z.2⟩
   have hit₃:h₃.IsListIter I ax (i+1):=by
    obtain⟨o,e1,r⟩:=hit₂;exact⟨o,hs₃.extBut _ _ (Ne.symm nC) e1,r⟩
   refine Wb (LCgL.ld_own (s:={ s' with heap:=h₃,toks:=s'.toks+1 }) (v:=v) N₃ (.tail _ (.head _)) hoC (by simp) ?_ (by simp [compEnvC,relabel,hkind]) (lookup_relabel_local hx) hd)
   have zD:=N₃ (D,lst (ys++its.toList.take i)) (.tail _ (.tail _ (.head _)))
   refine Wb (append_at (hsz:=by
    show (ys++its.toList.take i).toArray.size≤sizeLine
    rw [List.size_toArray,sizeLine_eq,List.length_append,List.length_take];exact(Nl fun hn1=>fk [_,_,_] (.e (.a V0 V1) (.k 1000) (.e V2 V1 (.e (.s (.k 16777216)) (.a V0 V2) K0))) rfl hsz (Nat.min_le_right _ _) hn1)) zD.1 fun h₅ hs₅ hD₅=>Wp ?_)
   have et:its.toList.take (i+1)=its.toList.take i++[v]:=by
    rw [List.take_succ_eq_append_getElem (by simpa using hlt')]
    have:=Array.getElem?_eq_getElem hlt';rw [this] at hget
    simp only [Option.some.injEq] at hget
    simp [hget]
   refine⟨rem.length,Nat.lt_succ_self _,i+1,rem,oC3,_,rfl,?_,by simp at zd ⊢;exact(Nat.le_antisymm (Nl fun hn2=>fk [_,_,_] (.e (.a V0 (.s V1)) V2 (.e (.s V2) (.a (.s V0) V1) K0)) rfl (El zd) hn2) (Nl fun hn3=>fk [_,_,_] (.e V0 (.a V1 (.s V2)) (.e (.a (.a (.s V1) V2) K1) V0 K0)) rfl (Es zd) hn3)),hoC,F₃.change hs₅ hD0.1 hD0.2,fun p hp=>?_,?_,hos',hb'⟩
   ·rw [← List.drop_drop,hrem];rfl
   ·rw [et,← List.append_assoc] at hp
    rcases List.mem_cons.mp hp with rfl | hp
    ·have z:=N₃ (I0,oI0) (.head _)
     exact⟨hs₅.extBut _ _ hne.2.1 z.1,z.2⟩
    rcases List.mem_cons.mp hp with rfl | hp
    ·have z:=N₃ (C,oC3) (.tail _ (.head _))
     exact⟨hs₅.extBut _ _ hne.2.2 z.1,z.2⟩
    rcases List.mem_cons.mp hp with rfl | hp
    ·exact⟨hD₅.trans (congrArg some (lst_snoc _ v)),hD0⟩
    ·have z:=N₃ p (.tail _ (.tail _ (.tail _ hp)))
     exact⟨hs₅.extBut _ _ (o3 p hp).2.2 z.1,z.2⟩
   ·obtain⟨o,e1,r⟩:=hit₃
    exact⟨o,hs₅.extBut _ _ (Ne.symm nD) e1,r⟩
 exact hst _ _ _ loop (wpAny_pyIter_listiter (s:={ s with heap:=s.heap.push { cls:=.type "list_iterator",data:=.fields #[.ref ax,.int 0 0] } }) hI1 loop)
end
end Mine
namespace Mine
open PySem.Calls
open PyProof.Rows.LCg
section
variable{prog:Program}{w:World}{A:Around}{E:Value→Shared→Prop}{s:Shared}{h₀:Heap}{L:Addr}{m:Str→Option Value}{env:Env}{os:OsState}
theorem Lk{elt target iter ifs g0 rest scope pos it acc}{env:Env}{R:Result→Shared→Prop}
  (h0:codeAny (model prog w) A (.compLoop (.ListComp elt (g0::⟨target,iter,ifs,0⟩::rest) scope pos) 1 it acc env) R s)
  (h:wpAny (model prog w) A (pyIter it) (fun it' s'=>codeAny (model prog w) A (.compLoop (.ListComp elt (g0::⟨target,iter,ifs,0⟩::rest) scope pos) 1 it' acc env) R s') (notedBy (model prog w) A env fun x s'=>R (.error x) s') s) :
  codeAny (model prog w) A (.compStart (.ListComp elt (g0::⟨target,iter,ifs,0⟩::rest) scope pos) 1 it acc env) R s:=by
 refine codeAny_of_tree ?_
 show wpAny _ _ ((compStart (.ListComp elt (g0::⟨target,iter,ifs,0⟩::rest) scope pos) 1 it acc env).onRaise (fun x=>do noteFrame x env;standAt theWindowsPlace)) _ _ s
 refine wpAny_notedAt ?_;unfold compStart
 show wpAny _ _ (ask >>= _) _ _ s
 refine Wb (wpAny_askSetting (wpAny_ite ?_))
 split
 ·first
   | exact Wb (Wp (Wp (And.intro rfl h0)))
   | exact Wp (And.intro rfl h0)
 ·exact Wb (wpAny_rule (Wb (wpAny_standAt (Wb (wpAny_mono h (fun it' s' h'=>Wp (And.intro rfl h')) fun _ _ x=>x)))))
theorem Xf{iter:PySem.Expr}{x1 x2:Str}{pa pb pc pd:Pos}{scope:Scope}{cl:List (Str × Addr)}{pos:Pos}{RR:Value→Addr→Result→Shared→Prop}{lv:Addr}{lvs:List (Addr × Array Value)}{news:List (Addr × Obj)}{s₁:Shared}
  (hcell:∀ y∈scope.names,y.2≠.cell) (hkind:scope.kind=.function) (hx1:scope.names.lookup x1=some .local) (hx2:scope.names.lookup x2=some .local) (hd1:(x1 == ("__debug__":Str))=false) (hd2:(x2 == ("__debug__":Str))=false)
  (hh:A.handled=none) (F:Fr h₀ L s₁.heap m) (N:News h₀ L s₁.heap news) (ho:s₁.os=os) (hb:AllBare s₁.gens) (S:SrcAt h₀ lv (lvs.map fun l=>.ref l.1).toArray news) (Sl:∀ l∈lvs,SrcAt h₀ l.1 l.2 news) (hz1:lvs.length≤1000) (hz2:(lvs.flatMap fun l=>l.2.toList).length≤1000)
  (hfin:∀ s1 D C mC,Fr h₀ L s1.heap m→News h₀ L s1.heap ((D,lst (lvs.flatMap fun l=>l.2.toList))::news)→(∀ p∈news,p.1≠D)→s1.heap.Ns C mC→h₀.get? C=none→C≠L→(∀ p∈(D,lst (lvs.flatMap fun l=>l.2.toList))::news,p.1≠C)→s1.os=os→AllBare s1.gens→RR (.ref D) C (.ok .next) s1) :
  wpAny (model prog w) A (pyIter (.ref lv)) (fun it s₂=>wpAny (model prog w) A (newList []) (fun acc s₃=>wpAny (model prog w) A (newFunctionEnv scope env.globals cl [] env.qual none .none (some env)) (fun cenv s₄ =>
   codeAny (model prog w) A (.compStart (.ListComp (.Name x2 pa) [⟨.Name x1 pb,iter,[],0⟩,⟨.Name x2 pc,.Name x1 pd,[],0⟩] scope pos) 0 it acc { cenv with scope:=relabel scope env }) (RR acc cenv.locals) s₄) E s₃) E s₂) E s₁:=by
 refine Ia (o0:=lst []) (target:=.Name x1 pb) (ipos:=iter.pos) (os:=os) (tail:=fun I D C=>eval (.Name x1 pd) (compEnvC scope cl C env) >>= fun x=>standAt pd >>= fun _=>foldedSetIterable (.Name x1 pd) (compEnvC scope cl C env) x >>= fun x=>holding [x] (pyIter x) >>= fun it=>runOwn (.compStart (.ListComp (.Name x2 pa) [⟨.Name x1 pb,iter,[],0⟩,⟨.Name x2 pc,.Name x1 pd,[],0⟩] scope pos) 1 it (.ref D) (compEnvC scope cl C env)) (compEnvC scope cl C env) >>= fun _=>again (.compLoop (.ListComp (.Name x2 pa) [⟨.Name x1 pb,iter,[],0⟩,⟨.Name x2 pc,.Name x1 pd,[],0⟩] scope pos) 0 (.ref I) (.ref D) (compEnvC scope cl C env)))
  (fun D rem own=>∃ l1 l2,lvs=l1++l2∧rem=l2.map (fun l=>.ref l.1)∧own=(D,lst (l1.flatMap fun l=>l.2.toList))::news∧(∀ p∈news,p.1≠D)) (fun own v m₂=>m₂ x1=some v)
  (fun s Q h=>wpAny_newList h) rfl (fun I D C R s h1 h2=>codeAny_compStart_list h1 h2) (fun _ _ _=>rfl) (fun _ _ _ _ _ _ z=>z) (fun _ _ _=>rfl) ?_ ?_ hcell hkind hh F N ho hb S ?_ ?_ ?_ ?_ ?_
 ·intro I i v s1 Q E' _ _ hq
  exact Wp hq
 ·rintro s1 v rem own D C mC Q E' _ hk hown hns h
  exact wpAny_assign_Name (wpAny_storeName_local (lookup_relabel_local hx1) hns (fun h₃ hn₃ hs₃=>h h₃ _ _ hn₃ (by simp) hs₃.extBut) (by simp [compEnvC,relabel,hkind]))
 ·rw [sizeLine_eq];simp only [List.size_toArray,List.length_map];exact(Nl fun hn1=>fk [_] (.e V0 (.k 1000) (.e (.s (.k 16777216)) V0 K0)) rfl hz1 hn1)
 ·intro D hD
  exact⟨[],lvs,rfl,rfl,rfl,fun p hp=>Nat.ne_of_lt (hD p hp)⟩
 ·rintro D rem own ⟨l1,l2,_,_,rfl,_⟩
  rcases S with z | ⟨o,hm,r⟩
  ·exact .inl z
  ·exact .inr ⟨o,.tail _ hm,r⟩
 ·rintro s1 D v rem own I oI C oC m₂ E' ⟨l1,l2,e1,e2,rfl,offD⟩ hC hB F1 N1 off hIC ho1 hb1
  obtain⟨l,l2,rfl⟩:∃ l l2',l2=l::l2':=by
   cases l2 with
   | nil=>exact absurd e2 (by simp)
   | cons l l2=>exact⟨l,l2,rfl⟩
  rw [List.map_cons] at e2
  injection e2 with e2 e3
  subst e2 e3;have hoD:=off (D,_) (.head _)
  refine Wb (LCgL.ld_own (v:=.ref l.1) N1 (.tail _ (.head _)) hC hB ?_ (by simp [compEnvC,relabel,hkind]) (lookup_relabel_local hx1) hd1)
  refine Wb (wpAny_standAt ?_);refine Wb (Wp ?_)
  refine Wb (wpAny_holding (wpAny_mono (Rc (e:=.ListComp (.Name x2 pa) [⟨.Name x1 pb,iter,[],0⟩,⟨.Name x2 pc,.Name x1 pd,[],0⟩] scope pos) (env:=env) (scope:=scope) (cl:=cl) (C:=C) (D:=D) (os:=os) (x:=x2) (px:=pc) (pe:=pa) (ipos:=pd) (its:=l.2) (own:=news) (R:=fun r s'=>match r with | .ok f=>wpAny (model prog w) A (again (.compLoop (.ListComp (.Name x2 pa) [⟨.Name x1 pb,iter,[],0⟩,⟨.Name x2 pc,.Name x1 pd,[],0⟩] scope pos) 0 (.ref I) (.ref D) (compEnvC scope cl C env))) _ _ s' | .error e=>cameBackBy (model prog w) A (compEnvC scope cl C env) _ e s')
   (fun I' R s h1 h2=>Lk h1 h2) (fun _=>rfl) (fun _ _ _ _ z=>z) (fun _=>rfl) hkind hx2 hd2 hh F1 N1 hC (Off3.of fun p hp=>⟨(off p (.tail _ hp)).1,(off p (.tail _ hp)).2,offD p hp⟩) ⟨hIC,Ne.symm hoD.1,Ne.symm hoD.2⟩ ho1 hb1 (Sl l (by rw [e1];simp)) ?_ ?_) (fun it s₂ h₂=>Wb (wpAny_runOwn h₂)) fun _ _ z=>z))
  ·rw [e1] at hz2
   simp only [List.flatMap_append,List.flatMap_cons,List.length_append,Array.length_toList] at hz2
   exact(Nl fun hn1=>fk [_,_,_] (.e (.a V0 (.a V1 V2)) (.k 1000) (.e (.s (.k 1000)) (.a V0 V1) K0)) rfl hz2 hn1)
  ·intro s2 oC' m₂' hC' F2 N2 o2 b2
   refine Wp ⟨rfl,_,oC',m₂',hC',⟨l1++[l],l2,by rw [e1];simp,rfl,rfl,offD⟩,F2,?_,?_,o2,b2⟩
   ·simpa using N2
   ·intro p hp
    rcases List.mem_cons.mp hp with rfl | hp
    ·exact hoD
    ·exact off p (.tail _ hp)
 ·rintro s1 D C own mC ⟨l1,l2,e1,e2,rfl,offD⟩ F1 N1 hns hC0 hCL hoC ho1 hb1
  have:l2=[]:=List.map_eq_nil_iff.mp e2.symm;subst this;rw [List.append_nil] at e1;subst e1;exact hfin s1 D C mC F1 N1 offD hns hC0 hCL hoC ho1 hb1
theorem Ov{y:Str}{py:Pos}{D C:Addr}{mC:Str→Option Value}{news:List (Addr × Obj)}{s1:Shared}{Q:Shared→Prop}{E':Value→Shared→Prop}
  (hL:env.locals=L) (hy:env.kindOf y=some .local) (hp:(env.scope.kind == .class || (env.scope.kind == .module && env.locals != env.globals))=false)
  (F1:Fr h₀ L s1.heap m) (N1:News h₀ L s1.heap news) (hns:s1.heap.Ns C mC) (hC0:h₀.get? C=none) (hCL:C≠L) (hoC:∀ p∈news,p.1≠C)
  (hfin:∀ h' tk,Fr h₀ L h' (fun z=>if z=y then some (.ref D) else m z)→News h₀ L h' news→Q { s1 with heap:=h',toks:=tk }) :
  wpAny (model prog w) A (assign (.Name y py) env (.ref D)) (fun _ s'=>∃ m,s'.heap.Ns C m∧∀ h',s'.heap.SameBut C h'→Q { s' with heap:=h' }) E' s1:=by
 subst hL
 refine wpAny_assign_Name (wpAny_storeName_local hy F1.ns (fun h₂ hn₂ hs₂=>?_) hp)
 have hL₀:h₀.get? env.locals=none:=Heap.get?_none_of_le F1.above
 have F₂:Fr h₀ env.locals h₂ (fun z=>if z=y then some (.ref D) else m z):=⟨hn₂,fun b o e=>hs₂.extBut b o (fun q=>by rw [q,hL₀] at e;cases e) (F1.keep b o e),F1.above⟩
 refine⟨mC,hns.sameBut hs₂ hCL,fun h'' hs''=>?_⟩
 refine hfin h'' _ (F₂.change hs'' hCL hC0) (fun q hq=>?_)
 have z:=N1 q hq;exact⟨hs''.extBut _ _ (hoC q hq) (hs₂.extBut _ _ z.2.1 z.1),z.2⟩
theorem Jl{iter:PySem.Expr}{x1 x2 y:Str}{pa pb pc pd pos py spos:Pos}{scope:Scope}{cl:List (Str × Addr)}{Q:Flow→Shared→Prop}
  (hL:env.locals=L) (hsw:swapsWith (.ListComp (.Name x2 pa) [⟨.Name x1 pb,iter,[],0⟩,⟨.Name x2 pc,.Name x1 pd,[],0⟩] scope pos) (some (.Name y py)) spos.line env=pure true) (hclos:closureFor scope env=pure cl) (hcell:∀ y∈scope.names,y.2≠.cell) (hkind:scope.kind=.function) (hnames:∀ y∈scope.names,y.2=.local→scope.names.lookup y.1=some .local) (hx1:scope.names.lookup x1=some .local) (hx2:scope.names.lookup x2=some .local) (hd1:(x1 == ("__debug__":Str))=false) (hd2:(x2 == ("__debug__":Str))=false)
  (hfs:∀ x,foldedSetIterable iter env x=pure x) (hy:env.kindOf y=some .local) (hp:(env.scope.kind == .class || (env.scope.kind == .module && env.locals != env.globals))=false)
  (h:wpAny (model prog w) A (eval iter env) (fun xv s₁=>∃ (lv:Addr) (lvs:List (Addr × Array Value)) (news:List (Addr × Obj)),xv=.ref lv∧A.handled=none∧Fr h₀ L s₁.heap m∧News h₀ L s₁.heap news∧s₁.os=os∧AllBare s₁.gens∧SrcAt h₀ lv (lvs.map fun l=>.ref l.1).toArray news∧(∀ l∈lvs,SrcAt h₀ l.1 l.2 news)∧lvs.length≤1000∧(lvs.flatMap fun l=>l.2.toList).length≤1000 ∧
   ∀ D s',Fr h₀ L s'.heap (fun z=>if z=y then some (.ref D) else m z)→News h₀ L s'.heap ((D,lst (lvs.flatMap fun l=>l.2.toList))::news)→(∀ p∈news,p.1≠D)→s'.os=os→AllBare s'.gens→Q .next s') E s) :
  wpAny (model prog w) A (exec (.Assign [.Name y py] (.ListComp (.Name x2 pa) [⟨.Name x1 pb,iter,[],0⟩,⟨.Name x2 pc,.Name x1 pd,[],0⟩] scope pos) spos) env) Q E s:=by
 rw [exec_Assign_Name_used _ _ _ _ hsw];refine Wb (wpAny_standAt (Wb ?_))
 show wpAny _ A (do let _ ← comprehension (.ListComp (.Name x2 pa) [⟨.Name x1 pb,iter,[],0⟩,⟨.Name x2 pc,.Name x1 pd,[],0⟩] scope pos) scope env _ (newList []) false (eval iter env) (some (assign (.Name y py) env))) _ _ s
 refine Wb (wpAny_mono (wpAny_comprehension_free (use:=some (assign (.Name y py) env)) (Q:=fun _ s'=>Q .next s') rfl hfs hclos hkind hnames (wpAny_mono h (fun xv s₁ h₁=>?_) fun _ _ e=>e)) (fun _ s' hq=>Wp (Wp hq)) fun _ _ e=>e)
 obtain⟨lv,lvs,news,rfl,hh,F,N,ho,hb,S,Sl,hz1,hz2,k⟩:=h₁;refine Xf (os:=os) (lvs:=lvs) hcell hkind hx1 hx2 hd1 hd2 hh F N ho hb S Sl hz1 hz2 ?_;intro s1 D C mC F1 N1 hnD hns hC0 hCL hoC ho1 hb1
 exact Ov (Q:=fun s'=>Q .next s') hL hy hp F1 N1 hns hC0 hCL hoC fun h' tk F2 N2=>k D _ F2 N2 hnD ho1 hb1
theorem Tq{iter test:PySem.Expr}{x:Str}{pe px:Pos}{scope:Scope}{cl:List (Str × Addr)}{pos:Pos}{RR:Value→Addr→Result→Shared→Prop}{ax:Addr}{its:Array Value}{news:List (Addr × Obj)}{s₁:Shared}(ok:Value→Bool)
  (hcell:∀ y∈scope.names,y.2≠.cell) (hkind:scope.kind=.function) (hx:scope.names.lookup x=some .local) (hd:(x == ("__debug__":Str))=false)
  (hh:A.handled=none) (F:Fr h₀ L s₁.heap m) (N:News h₀ L s₁.heap news) (ho:s₁.os=os) (hb:AllBare s₁.gens) (S:SrcAt h₀ ax its news) (hz:its.size≤1000)
  (htest:∀ v C oC m₂ (s':Shared) (QT:Bool→Shared→Prop) (E':Value→Shared→Prop),v∈its.toList→NsObj oC m₂→m₂ x=some v→Fr h₀ L s'.heap m→News h₀ L s'.heap ((C,oC)::news)→(∀ tk,QT (ok v) { s' with toks:=tk })→wpAny (model prog w) A (isTrue test (compEnvC scope cl C env) (eval test (compEnvC scope cl C env))) QT E' s')
  (hfin:∀ s1 D C mC,Fr h₀ L s1.heap m→News h₀ L s1.heap ((D,lst (its.toList.filter ok))::news)→(∀ p∈news,p.1≠D)→s1.heap.Ns C mC→h₀.get? C=none→C≠L→(∀ p∈(D,lst (its.toList.filter ok))::news,p.1≠C)→s1.os=os→AllBare s1.gens→RR (.ref D) C (.ok .next) s1) :
  wpAny (model prog w) A (pyIter (.ref ax)) (fun it s₂=>wpAny (model prog w) A (newList []) (fun acc s₃=>wpAny (model prog w) A (newFunctionEnv scope env.globals cl [] env.qual none .none (some env)) (fun cenv s₄ =>
   codeAny (model prog w) A (.compStart (.ListComp (.Name x pe) [⟨.Name x px,iter,[test],0⟩] scope pos) 0 it acc { cenv with scope:=relabel scope env }) (RR acc cenv.locals) s₄) E s₃) E s₂) E s₁:=by
 refine Ia (o0:=lst []) (target:=.Name x px) (ipos:=iter.pos) (os:=os) (tail:=fun I D C=>(forIn [test] true (fun c r=>if r=true then(isTrue c (compEnvC scope cl C env) (eval c (compEnvC scope cl C env)) >>= fun ok=>pure (ForInStep.yield ok)) else pure (ForInStep.yield r))) >>= fun ok=>if ok=true then((eval (.Name x pe) (compEnvC scope cl C env) >>= fun x=>call (.builtin "list.append") [.ref D,x] >>= fun _=>pure ()) >>= fun _=>again (.compLoop (.ListComp (.Name x pe) [⟨.Name x px,iter,[test],0⟩] scope pos) 0 (.ref I) (.ref D) (compEnvC scope cl C env))) else again (.compLoop (.ListComp (.Name x pe) [⟨.Name x px,iter,[test],0⟩] scope pos) 0 (.ref I) (.ref D) (compEnvC scope cl C env)))
  (fun D rem own=>∃ dn,its.toList=dn++rem∧own=(D,lst (dn.filter ok))::news∧(∀ p∈news,p.1≠D)) (fun own v m₂=>m₂ x=some v)
  (fun s Q h=>wpAny_newList h) rfl (fun I D C R s h1 h2=>codeAny_compStart_list h1 h2) (fun _ _ _=>rfl) (fun _ _ _ _ _ _ z=>z) (fun _ _ _=>rfl) ?_ ?_ hcell hkind hh F N ho hb S ?_ ?_ ?_ ?_ ?_
 ·intro I i v s1 Q E' _ _ hq
  exact Wp hq
 ·rintro s1 v rem own D C mC Q E' _ hk hown hns h
  exact wpAny_assign_Name (wpAny_storeName_local (lookup_relabel_local hx) hns (fun h₃ hn₃ hs₃=>h h₃ _ _ hn₃ (by simp) hs₃.extBut) (by simp [compEnvC,relabel,hkind]))
 ·rw [sizeLine_eq];exact Nat.le_trans hz (by decide)
 ·intro D hD
  exact⟨[],rfl,rfl,fun p hp=>Nat.ne_of_lt (hD p hp)⟩
 ·rintro D rem own ⟨dn,_,rfl,_⟩
  rcases S with z | ⟨o,hm,r⟩
  ·exact .inl z
  ·exact .inr ⟨o,.tail _ hm,r⟩
 ·rintro s1 D v rem own I oI C oC m₂ E' ⟨dn,e1,rfl,offD⟩ hC hB F1 N1 off hIC ho1 hb1
  have hoD:=off (D,_) (.head _)
  have hmem:v∈its.toList:=by rw [e1];exact Mr _ (.head _)
  have e2:its.toList=(dn++[v])++rem:=by rw [e1,List.append_assoc];rfl
  refine Wb (wpAny_tests_one (htest v C oC m₂ _ _ _ hmem hC hB F1 (News.sub N1 fun p hp=>?_) fun tk=>?_))
  ·rcases List.mem_cons.mp hp with rfl | hp
   ·exact .tail _ (.head _)
   ·exact .tail _ (.tail _ (.tail _ hp))
  cases hok:ok v with
  | false =>
   refine Wp ⟨rfl,_,oC,m₂,hC,⟨dn++[v],e2,rfl,offD⟩,F1,?_,fun p hp=>?_,ho1,hb1⟩
   ·rw [List.filter_append,List.filter_cons,hok]
    simpa using N1
   ·rcases List.mem_cons.mp hp with rfl | hp
    ·exact hoD
    ·exact off p (.tail _ hp)
  | true =>
   refine Wb (Wb (LCgL.ld_own (s:={ s1 with toks:=tk }) (v:=v) N1 (.tail _ (.head _)) hC hB ?_ (by simp [compEnvC,relabel,hkind]) (lookup_relabel_local hx) hd))
   have zD:=N1 (D,lst (dn.filter ok)) (.tail _ (.tail _ (.head _)))
   have hyl:(dn.filter ok).length≤1000:=by
    have h1:=List.length_filter_le ok dn;have h2:=congrArg List.length e1
    simp only [List.length_append,Array.length_toList] at h2
    omega
   refine Wb (append_at (hsz:=by show (dn.filter ok).toArray.size≤sizeLine;rw [List.size_toArray,sizeLine_eq];exact Nat.le_trans hyl (by decide)) zD.1 fun h₅ hs₅ hD₅=>Wp (Wp ?_))
   refine⟨rfl,_,oC,m₂,hC,⟨dn++[v],e2,rfl,offD⟩,F1.change hs₅ zD.2.1 zD.2.2,fun p hp=>?_,fun p hp=>?_,ho1,hb1⟩
   ·rcases List.mem_cons.mp hp with rfl | hp
    ·have z:=N1 (I,oI) (.head _)
     exact⟨hs₅.extBut _ _ (Ne.symm hoD.1) z.1,z.2⟩
    rcases List.mem_cons.mp hp with rfl | hp
    ·have z:=N1 (C,oC) (.tail _ (.head _))
     exact⟨hs₅.extBut _ _ (Ne.symm hoD.2) z.1,z.2⟩
    rcases List.mem_cons.mp hp with rfl | hp
    ·refine⟨hD₅.trans ?_,zD.2⟩
     rw [List.filter_append,List.filter_cons,hok];exact congrArg some (lst_snoc _ _)
    ·have z:=N1 p (.tail _ (.tail _ (.tail _ hp)))
     exact⟨hs₅.extBut _ _ (offD p hp) z.1,z.2⟩
   ·rcases List.mem_cons.mp hp with rfl | hp
    ·exact hoD
    ·exact off p (.tail _ hp)
 ·rintro s1 D C own mC ⟨dn,e1,rfl,offD⟩ F1 N1 hns hC0 hCL hoC ho1 hb1
  rw [List.append_nil] at e1;subst e1;exact hfin s1 D C mC F1 N1 offD hns hC0 hCL hoC ho1 hb1
theorem Ol{iter test:PySem.Expr}{x y:Str}{pe px pos py spos:Pos}{scope:Scope}{cl:List (Str × Addr)}{Q:Flow→Shared→Prop}(ok:Value→Bool)
  (hL:env.locals=L) (hsw:swapsWith (.ListComp (.Name x pe) [⟨.Name x px,iter,[test],0⟩] scope pos) (some (.Name y py)) spos.line env=pure true) (hclos:closureFor scope env=pure cl) (hcell:∀ y∈scope.names,y.2≠.cell) (hkind:scope.kind=.function) (hnames:∀ y∈scope.names,y.2=.local→scope.names.lookup y.1=some .local) (hx:scope.names.lookup x=some .local) (hd:(x == ("__debug__":Str))=false)
  (hfs:∀ x,foldedSetIterable iter env x=pure x) (hy:env.kindOf y=some .local) (hp:(env.scope.kind == .class || (env.scope.kind == .module && env.locals != env.globals))=false)
  (h:wpAny (model prog w) A (eval iter env) (fun xv s₁=>∃ (ax:Addr) (its:Array Value) (news:List (Addr × Obj)),xv=.ref ax∧A.handled=none∧Fr h₀ L s₁.heap m∧News h₀ L s₁.heap news∧s₁.os=os∧AllBare s₁.gens∧SrcAt h₀ ax its news∧its.size≤1000 ∧
   (∀ v C oC m₂ (s':Shared) (QT:Bool→Shared→Prop) (E':Value→Shared→Prop),v∈its.toList→NsObj oC m₂→m₂ x=some v→Fr h₀ L s'.heap m→News h₀ L s'.heap ((C,oC)::news)→(∀ tk,QT (ok v) { s' with toks:=tk })→wpAny (model prog w) A (isTrue test (compEnvC scope cl C env) (eval test (compEnvC scope cl C env))) QT E' s') ∧
   ∀ D s',Fr h₀ L s'.heap (fun z=>if z=y then some (.ref D) else m z)→News h₀ L s'.heap ((D,lst (its.toList.filter ok))::news)→(∀ p∈news,p.1≠D)→s'.os=os→AllBare s'.gens→Q .next s') E s) :
  wpAny (model prog w) A (exec (.Assign [.Name y py] (.ListComp (.Name x pe) [⟨.Name x px,iter,[test],0⟩] scope pos) spos) env) Q E s:=by
 rw [exec_Assign_Name_used _ _ _ _ hsw];refine Wb (wpAny_standAt (Wb ?_))
 show wpAny _ A (do let _ ← comprehension (.ListComp (.Name x pe) [⟨.Name x px,iter,[test],0⟩] scope pos) scope env _ (newList []) false (eval iter env) (some (assign (.Name y py) env))) _ _ s
 refine Wb (wpAny_mono (wpAny_comprehension_free (use:=some (assign (.Name y py) env)) (Q:=fun _ s'=>Q .next s') rfl hfs hclos hkind hnames (wpAny_mono h (fun xv s₁ h₁=>?_) fun _ _ e=>e)) (fun _ s' hq=>Wp (Wp hq)) fun _ _ e=>e)
 obtain⟨ax,its,news,rfl,hh,F,N,ho,hb,S,hz,ht,k⟩:=h₁;refine Tq (os:=os) ok hcell hkind hx hd hh F N ho hb S hz ht ?_;intro s1 D C mC F1 N1 hnD hns hC0 hCL hoC ho1 hb1
 exact Ov (Q:=fun s'=>Q .next s') hL hy hp F1 N1 hns hC0 hCL hoC fun h' tk F2 N2=>k D _ F2 N2 hnD ho1 hb1
end
end Mine
namespace Mine
open PySem.Calls
noncomputable def EndTrue(tabs:List (Addr × Addr))(s₁:Shared)(r:Result)(s':Shared):Prop :=
 r=.ok (.ret (.bool true))∧(∀ b o,(ghostOf s₁.heap tabs).get? b=some o→s'.heap.get? b=some o)∧s'.os=s₁.os∧AllBare s'.gens∧GrownAll tabs s'.heap
theorem Vi{M:Model}{A:Around}{cd:Code}{s s₁:Shared}{cw:ClaimW}{cl:Str→Option Addr}{zr:ExcName→Option Value}{args:List WData}{tabs:List (Addr × Addr)}(hT:TabsAt tabs s₁.heap)(hr:∀ a x,cw.raises a x=false)(hp:cw.post args (.bool true) args=true)
  (h:codeAny M A cd (EndTrue tabs s₁) s):codeAny M A cd (GoodWG cw cl zr args s₁) s:=by
 refine codeAny_mono h fun r s' z=>?_
 obtain⟨hv,hk,hos,hg,hgr⟩:=z
 have two:∀ b o,s₁.heap.get? b=some o→s'.heap.get? b=some o∨(isCodeTable s₁.heap b∧o=tabObj #[]∧∃ ps,s'.heap.get? b=some (tabObj ps)):=by
  intro b o e
  by_cases hb:b∈tabs.map (·.2)
  ·right
   obtain⟨q,hq,rfl⟩:=List.mem_map.mp hb;obtain⟨c1,c2⟩:=hT q hq;rw [c2] at e
   injection e with e
   exact⟨(c1.tab c2).isCodeTable,e.symm,hgr.get q hq⟩
  ·exact .inl (hk b o (ghost_ne e hb))
 subst hv
 refine⟨.inl ⟨.bool true,.bool true,[],rfl,fun c=>hr args c,.bool ..,hp,fun _=>⟨.nil,fun _ z=>nomatch z⟩⟩,⟨fun b o e=>?_,fun b o e=>?_⟩,hos,hg⟩
 ·rcases two b o e with z | ⟨z1,rfl,ps,z3⟩
  ·exact .inl z
  ·exact .inr (.inl ⟨z1,rfl,#[],ps,rfl,by simpa using z3⟩)
 ·rcases two b o e with z | ⟨_,_,ps,z3⟩
  ·exact⟨o,z⟩
  ·exact⟨_,z3⟩
noncomputable def Bf(xs:List (Int × Tok)):List Value:=xs.map fun x=>.int x.1 x.2
theorem Vy:∀ {vs:List Value} {xs:List Int},IntsAre vs xs→∃ zs:List (Int × Tok),vs=Bf zs∧zs.map (·.1)=xs:=by
 intro vs xs h
 induction h with
 | nil=>exact⟨[],rfl,rfl⟩
 | cons n t _ ih=>obtain⟨zs,e1,e2⟩:=ih;exact⟨(n,t)::zs,by rw [e1];rfl,by rw [← e2];rfl⟩
end Mine
namespace Mine

open_top hd03 for PySem.Challenge.rw_dn0283_03
end Mine
namespace Mine
open PySem.Calls
section
variable{prog:Program}{w:World}{A A₀:Around}{E:Value→Shared→Prop}{s:Shared}{base g G h₀:Heap}{outer:List Env}{L a:Addr}{m:Str→Option Value}{name:Str}{scope:Scope}{cd:Value}{os:OsState}
theorem RaisedS.wide{G' h:Heap}{l:List Env}{e t:Addr}{cls:Value}{vs:List Value}{own rest:List (Addr × Obj)}(R:RaisedS base G l e cls t vs own h)(hG:∀ b o,G'.get? b=some o→G.get? b=some o)
  (hr:∀ q∈rest,G.get? q.1=some q.2∧q.1∉l.filterMap (·.frame)∧G'.get? q.1=none∧base.get? q.1=none):RaisedS base G' l e cls t vs (own++rest) h:=by
 obtain⟨⟨B,hB,hBG,hl,hfl,hnew⟩,htup⟩:=R
 refine⟨⟨B,hB,fun b o q nm=>hBG b o (hG b o q) nm,fun q hq=>?_,hfl,hnew⟩,htup⟩
 rcases List.mem_append.mp hq with hq | hq
 ·exact⟨(hl q hq).1,kts_none hG (hl q hq).2.1,(hl q hq).2.2⟩
 ·obtain⟨h1,h2,h3,h4⟩:=hr q hq
  exact⟨hBG _ _ h1 h2,h3,h4⟩
theorem KtsTurn.stay{fs:List Addr}{g':Heap}(T:KtsTurn fs g g')(D:KtsDicts fs g){b:Addr}{o:Obj}(e:g.get? b=some o)(hd:∀ es n,o.data≠.dict es n):g'.get? b=some o :=
 T.other b o e fun z=>by
  obtain⟨o',es,n,h,h'⟩:=D b z;rw [e] at h;cases h;exact hd es n h'
theorem call_subT{f:Value}{args:List Value}{Q:Value→Shared→Prop}{news:List (Addr × Obj)}(own rest:List (Addr × Obj))(B:Below A₀ base outer g)(D:KtsDicts (outer.filterMap (·.frame)) g)(F:Fr g L s.heap m)(N:News g L s.heap news)(hos:s.os=os)(hb:AllBare s.gens)
  (h1:∀ p∈own,p∈news) (h2:∀ p∈rest,p∈news) (h3:∀ p∈rest,p.1∉own.map (·.1))
  (h:∀ g₂,Ok g₂ os own s→(∀ b o,g.get? b=some o→g₂.get? b=some o)→(∀ p∈rest,g₂.get? p.1=some p.2)→Below (A₀.deeper (envOf name scope L a cd)) base (envOf name scope L a cd::outer) g₂→KtsDicts ((envOf name scope L a cd::outer).filterMap (·.frame)) g₂ →
   (∀ s' own',Ok g₂ os own' s'→Fr g L s'.heap m∧News g L s'.heap (own'++rest)∧(∀ p∈own',∀ q∈rest,p.1≠q.1)∧s'.os=os∧AllBare s'.gens) →
   (∀ (s':Shared) own' e cls t vs,RaisedS base g₂ (envOf name scope L a cd::outer) e cls t vs own' s'.heap→g₂.UpToSlots s'.heap→(∀ p∈own',∀ q∈rest,p.1≠q.1)∧∃ G',Fr g L G' m∧G'.UpToSlots s'.heap∧RaisedS base G' (envOf name scope L a cd::outer) e cls t vs (own'++rest) s'.heap) →
   codeAny (model prog w) (A₀.deeper (envOf name scope L a cd)) (.call f ⟨args,[]⟩) (fun r s'=>match r with | .ok (.ret v)=>Q v s' | .ok _=>False | .error e=>E e s') s)
  (hk:scope.kind=.function:=by rfl):wpAny (model prog w) (A₀.deeper (envOf name scope L a cd)) (call f args) Q E s:=by
 have N1:News g L s.heap own:=fun p hp=>N p (h1 p hp)
 have N2:News g L s.heap (own++rest):=fun p hp=>N p ((List.mem_append.mp hp).elim (h1 p) (h2 p))
 obtain⟨a1,b1,c1,d1⟩:=Eb (own:=own) (rest:=rest) F N hos hb h1 h2 h3;obtain⟨oL,es,ep,hLg,hLd,_,_,st,B₂⟩:=kts_enter (A:=A₀.deeper (envOf name scope L a cd)) (cn:=name) (cs:=scope) (a:=a) (ccd:=cd) B F N1 (Around.frames_deeper B.stack) hk;obtain⟨_,_,_,hL2,_,hN2,_,st2,_⟩:=kts_enter (A:=A₀.deeper (envOf name scope L a cd)) (cn:=name) (cs:=scope) (a:=a) (ccd:=cd) B F N2 (Around.frames_deeper B.stack) hk
 refine wpAny_call (h _ a1 b1 c1 B₂ (fun b hb'=>?_) (fun s' own' H=>?_) fun s' own' e cls t vs R U=>⟨fun p hp q hq z=>?_,?_⟩)
 ·rcases kts_mem hb' with rfl | hb'
  ·exact⟨oL,es,ep,hLg,hLd⟩
  ·obtain⟨o,es',n',ho',hd'⟩:=D b hb'
   exact⟨o,es',n',st b o ho',hd'⟩
 ·obtain⟨x1,x2,x3,x4⟩:=d1 s' own' H
  exact⟨x1,x2,(fun p hp q hq z=>by have:=(H.own p hp).2;rw [z,c1 q hq] at this;cases this),x3,x4⟩
 ·obtain⟨⟨_,_,_,hl,_⟩,_⟩:=R
  have:=(hl p hp).2.1;rw [z,c1 q hq] at this;cases this
 ·have sub:∀ b o,(hideAll s.heap ((own++rest).map (·.1))).get? b=some o→(hideAll s.heap (own.map (·.1))).get? b=some o:=fun b o e=>by
   refine hideAll_get _ (of_hideAll _ e) fun z=>?_
   rw [hideAll_none _ (by rw [List.map_append];exact List.mem_append_left _ z)] at e
   cases e
  refine⟨_,⟨hN2 _ hL2,st2,F.above⟩,(Heap.UpToSlots.of_keeps sub).trans U,RaisedS.wide R sub fun q hq=>⟨c1 q hq,fun z=>?_,hideAll_none _ (by rw [List.map_append];exact List.mem_append_right _ (List.mem_map_of_mem hq)),?_⟩⟩
  ·rcases kts_mem z with z | z
   ·exact(N q (h2 q hq)).2.1 z
   ·obtain⟨_,o,ho,_⟩:=B.frames.mem z
    rw [(N q (h2 q hq)).2.2] at ho;cases ho
  ·cases z:base.get? q.1 with
   | none=>rfl
   | some o=>have:=B.stays _ _ z;rw [(N q (h2 q hq)).2.2] at this;cases this
theorem Ti{f:Value}{args:List Value}{Q:Value→Shared→Prop}{news:List (Addr × Obj)}(own rest:List (Addr × Obj))(B:Below A₀ base [] g)(F:Fr g L s.heap m)(N:News g L s.heap news)(hos:s.os=os)(hb:AllBare s.gens)
  (h1:∀ p∈own,p∈news) (h2:∀ p∈rest,p∈news) (h3:∀ p∈rest,p.1∉own.map (·.1))
  (h:∀ g₂,Ok g₂ os own s→(∀ b o,g.get? b=some o→g₂.get? b=some o)→(∀ p∈rest,g₂.get? p.1=some p.2∧p.1∉[envOf name scope L a cd].filterMap (·.frame))→Below (A₀.deeper (envOf name scope L a cd)) base [envOf name scope L a cd] g₂→KtsDicts ([envOf name scope L a cd].filterMap (·.frame)) g₂ →
   (∀ s' own' g₃,KtsTurn ([envOf name scope L a cd].filterMap (·.frame)) g₂ g₃→Ok g₃ os own' s'→Fr g L s'.heap m∧News g L s'.heap (own'++rest)∧s'.os=os∧AllBare s'.gens) →
   codeAny (model prog w) (A₀.deeper (envOf name scope L a cd)) (.call f ⟨args,[]⟩) (fun r s'=>match r with | .ok (.ret v)=>Q v s' | .ok _=>False | .error e=>E e s') s)
  (hk:scope.kind=.function:=by rfl):wpAny (model prog w) (A₀.deeper (envOf name scope L a cd)) (call f args) Q E s:=by
 have N1:News g L s.heap own:=fun p hp=>N p (h1 p hp)
 obtain⟨a1,b1,c1,d1⟩:=Eb (own:=own) (rest:=rest) F N hos hb h1 h2 h3;obtain⟨oL,es,ep,hLg,hLd,_,hNs,st,B₂⟩:=kts_enter (A:=A₀.deeper (envOf name scope L a cd)) (cn:=name) (cs:=scope) (a:=a) (ccd:=cd) B F N1 (Around.frames_deeper B.stack) hk
 have nf:∀ {b:Addr},b≠L→b∉[envOf name scope L a cd].filterMap (·.frame):=fun hb z=>by
  rcases kts_mem z with z | z
  ·exact hb z
  ·simp at z
 have gL:g.get? L=none:=kts_self F
 refine wpAny_call (h _ a1 b1 (fun p hp=>⟨c1 p hp,nf (N p (h2 p hp)).2.1⟩) B₂ (fun b hb'=>?_) fun s' own' g₃ T H=>?_)
 ·rcases kts_mem hb' with rfl | hb'
  ·exact⟨oL,es,ep,hLg,hLd⟩
  ·simp at hb'
 ·obtain⟨sl,hs⟩:=T.up hLg
  have kp:∀ b o,g.get? b=some o→g₃.get? b=some o:=fun b o e=>T.other b o (st b o e) (nf fun z=>by rw [z,gL] at e;cases e)
  refine⟨⟨hNs sl _ (H.keep _ _ hs),fun b o e=>H.keep _ _ (kp b o e),F.above⟩,fun p hp=>?_,H.os,H.bare⟩
  rcases List.mem_append.mp hp with q | q
  ·refine⟨(H.own p q).1,fun z=>?_,?_⟩
   ·have:=(H.own p q).2;rw [z,hs] at this;cases this
   ·cases z:g.get? p.1 with
    | none=>rfl
    | some o=>have:=(H.own p q).2;rw [kp _ _ z] at this;cases this
  ·exact⟨H.keep _ _ (T.other _ _ (c1 p q) (nf (N p (h2 p q)).2.1)),(N p (h2 p q)).2.1,(N p (h2 p q)).2.2⟩
theorem enter_R{own:List (Addr × Obj)}{K:Frag}{p:Program}{zw:List Str}{zr:ExcName→Option Value}{mg mb:Str→Option Value}
  {R:Result→Shared→Prop} {qual:Str} {params:Arguments} {body:List Stmt} {dV kV doc pm cdv ct oc:Value} {an od:Option Addr} {osl:Array (Option Value)} {f:Addr} {args:Args} {binds:List (Str × Value)}
  (H:Ok g os own s) (X:K.In g) (T:Top p zw zr mg mb g)
  (ho:K.lookup f=some ⟨oc,od,.func (fnOf name qual params body scope dV kV doc pm an cdv ct),osl⟩) (hcd:codeIn K cdv qual=true) (zq:A.depth<recursionLimit)
  (zg:BindsTo s (fnOf name qual params body scope dV kV doc pm an cdv ct) args binds) (hloc:∀ y∈binds,scope.names.lookup y.1=some .local)
  (h:∀ L' h₁,Fr g L' h₁ (fun y=>binds.reverse.lookup y)→News g L' h₁ own→(∀ p∈own,p.1<L') →
   wpAny (model prog w) (A.deeper (envOf qual scope L' f cdv)) (execs body (envOf qual scope L' f cdv))
    (fun fl s'=>R (.ok (.ret (match fl with | .ret v=>v | _=>.none))) s')
    (fun e s'=>wpAny (model prog w) (A.deeper (envOf qual scope L' f cdv)) (leaving (envOf qual scope L' f cdv) e) (fun _ s''=>R (.error e) s'') (fun e' s''=>R (.error e') s'') s')
    { s with heap:=h₁,toks:=s.toks+binds.length })
  (hco:scope.isCoroutine=false:=by rfl) (hgen:scope.isGenerator=false:=by rfl) (hk:scope.kind=.function:=by rfl)
  (hcell:∀ x∈scope.names,x.2≠.cell:=by decide):codeAny (model prog w) A (.call (.ref f) args) R s:=by
 refine codeAny_call_def (fd:=fnOf name qual params body scope dV kV doc pm an cdv ct) (body:=body) (binds:=binds) zq ((X.keeps H.keep) _ _ ho) rfl (T.nolimit.keeps H.keep) (codeRec_of (X.keeps H.keep) hcd) rfl zg hcell hloc (fun h₁ hns hk₁=>?_) hco hgen hk
 exact h s.heap.objs.size h₁ ⟨hns,fun b o e=>hk₁ b o (H.keep b o e),H.size⟩
  (fun p hp=>⟨hk₁ _ _ (H.own p hp).1,Nat.ne_of_lt (Heap.lt_size (H.own p hp).1),(H.own p hp).2⟩) (fun p hp=>Heap.lt_size (H.own p hp).1)
theorem for_turn{x:Str}{px:Pos}{body:List Stmt}{R:Result→Shared→Prop}{I:Addr}{fp:List Addr}{n:Nat}{P:Nat→Value→Prop}{St:Nat→Heap→Prop}{own:List (Addr × Obj)}{oI:Obj}
  (J:Heap→Nat→(Str→Option Value)→List (Addr × Obj)→Prop) (W:Walks prog w A I fp [I] n P St) (hfp:∀ g i m own,J g i m own→∀ b∈fp,b≠I→∃ o,(b,o)∈own)
  (hfix:∀ g i m own g' i' m' own' b o o',J g i m own→J g' i' m' own'→b∈fp→b≠I→(b,o)∈own→(b,o')∈own'→o=o')
  (step:∀ (s1:Shared) g i v m own oI tk h1,i<n→P i v→J g i m own→Fr g L h1 (fun y=>if y=x then some v else m y)→News g L h1 ((I,oI)::own)→(∀ p∈own,p.1≠I)→s1.os=os→AllBare s1.gens →
   wpAny (model prog w) A (execs body (envOf name scope L a cd)) (fun f s3=>match f with
    | .next | .cont=>∃ g' m' own',J g' (i+1) m' own'∧Fr g' L s3.heap m'∧News g' L s3.heap ((I,oI)::own')∧(∀ p∈own',p.1≠I)∧s3.os=os∧AllBare s3.gens
    | .brk=>R (.ok .next) s3
    | .ret v=>R (.ok (.ret v)) s3) (notedBy (model prog w) A (envOf name scope L a cd) fun e s'=>R (.error e) s') { s1 with heap:=h1,toks:=tk })
  (done:∀ (s1:Shared) g m own,J g n m own→Fr g L s1.heap m→News g L s1.heap own→s1.os=os→AllBare s1.gens→R (.ok .next) s1)
  (hJ:J g 0 m own) (hst:St 0 s.heap) (F:Fr g L s.heap m) (N:News g L s.heap ((I,oI)::own)) (hoff:∀ p∈own,p.1≠I) (hos:s.os=os) (hb:AllBare s.gens)
  (hlive:∀ i h,St i h→∃ o,h.get? I=some o)
  (hk:scope.kind=.function:=by rfl) (hl:(envOf name scope L a cd).kindOf x=some .local:=by rfl) :
  codeAny (model prog w) A (.forLoop (.Name x px) (.ref I) body [] (envOf name scope L a cd)) R s:=by
 refine codeAny_forLoop_any (fun k s'=>∃ i g m own oI,k=n - i∧i≤n∧J g i m own∧St i s'.heap∧Fr g L s'.heap m∧News g L s'.heap ((I,oI)::own)∧(∀ p∈own,p.1≠I)∧s'.os=os∧AllBare s'.gens) ?_ n
  ⟨0,g,m,own,oI,rfl,Nat.zero_le _,hJ,hst,F,N,hoff,hos,hb⟩
 rintro k s' ⟨i,g,m,own,oI,rfl,hi,hJ,hst,F',N',hoff,hos',hb'⟩;have hIL:I≠L:=(N' (I,oI) (.head _)).2.1;have hI0:g.get? I=none:=(N' (I,oI) (.head _)).2.2
 by_cases hlt:i<n
 ·refine W.item i s' _ _ hlt hst fun v h' tk hP hst' hkeep=>?_
  dsimp only;refine wpAny_of_eq (rfl:letOwnedTupleGo (.Name x px) (.ref I) v=pure ()) ?_;obtain⟨oL,es,ep,hL,rL⟩:=F'.ns
  have F₂:Fr g L h' m:=⟨⟨oL,es,ep,hkeep _ _ (by simpa using Ne.symm hIL) hL,rL⟩,fun b o e=>hkeep _ _ (fun z=>by rw [List.mem_singleton.mp z,hI0] at e;cases e) (F'.keep b o e),F'.above⟩
  obtain⟨oI',hoI⟩:=hlive _ _ hst'
  have N₂:News g L h' ((I,oI')::own):=fun p hp=>by
   rcases List.mem_cons.mp hp with rfl | hp
   ·exact⟨hoI,hIL,hI0⟩
   ·exact⟨hkeep _ _ (fun z=>hoff p hp (List.mem_singleton.mp z)) (N' p (.tail _ hp)).1,(N' p (.tail _ hp)).2⟩
  refine PyProof.Rows.assign_Name (stN F₂ N₂ (fun h3 F3 N3=>?_) hk hl)
  have hst3:∀ h4 own4 g4 m4,J g4 (i+1) m4 own4→News g4 L h4 ((I,oI')::own4)→St (i+1) h4:=fun h4 own4 g4 m4 J4 N4=>by
   refine W.frame _ h' h4 hst' fun b hb o e=>?_
   by_cases hbI:b=I
   ·subst hbI
    rw [hoI] at e;cases e;exact(N4 _ (.head _)).1
   ·obtain⟨o1,ho1⟩:=hfp _ _ _ _ hJ b hb hbI
    obtain⟨o2,ho2⟩:=hfp _ _ _ _ J4 b hb hbI;have:=hfix _ _ _ _ _ _ _ _ b o1 o2 hJ J4 hb hbI ho1 ho2;subst this;have e1:=(N₂ _ (.tail _ ho1)).1;rw [e] at e1;cases e1;exact(N4 _ (.tail _ ho2)).1
  refine wpAny_mono (step s' g i v m own oI' _ h3 hlt hP hJ F3 N3 hoff hos' hb') (fun f s₄ h₄=>?_) fun _ _ z=>z
  cases f with
  | brk=>exact h₄
  | ret v=>exact h₄
  | _ =>
   obtain⟨g',m'',own',hJ',F₄,N₄,off₄,hos₄,hb₄⟩:=h₄
   exact⟨n - (i+1),by omega,i+1,g',m'',own',oI',rfl,hlt,hJ',hst3 _ _ _ _ hJ' N₄,F₄,N₄,off₄,hos₄,hb₄⟩
 ·have hin:i=n:=Nat.le_antisymm hi (Nat.le_of_not_lt hlt)
  subst hin
  refine W.done s' _ _ hst fun h' tk hkeep=>?_
  dsimp only;obtain⟨oL,es,ep,hL,rL⟩:=F'.ns
  exact Wp (done _ g m own hJ ⟨⟨oL,es,ep,hkeep _ _ (by simpa using Ne.symm hIL) hL,rL⟩,fun b o e=>hkeep _ _ (fun z=>by rw [List.mem_singleton.mp z,hI0] at e;cases e) (F'.keep b o e),F'.above⟩
   (fun p hp=>⟨hkeep _ _ (fun z=>hoff p hp (List.mem_singleton.mp z)) (N' p (.tail _ hp)).1,(N' p (.tail _ hp)).2⟩) hos' hb')
end
end Mine
namespace Mine
open PySem.Calls
section
variable{prog:Program}{w:World}{A:Around}{E:Value→Shared→Prop}{s:Shared}
theorem set_in{a:Addr}{S:Str→Bool}{n:Nat}{y:Str}{ty:Tok}{Q:Value→Shared→Prop}(hS:s.heap.SetOf (strKind prog w) a S n)
  (h:Q (.bool (S y)) { s with toks:=s.toks+1 }):wpAny (model prog w) A (compareOp .In (.str y ty) (.ref a)) Q E s :=
 wpAny_inSet_of (knd:=strKind prog w) (k:=y) (by simp [PySem.strKind,Value.isStrOf]) rfl hS h
theorem Om{g h:Heap}{a:Addr}{S:Str→Bool}{n:Nat}(k:∀ b o,g.get? b=some o→h.get? b=some o)(x:g.SetOf (strKind prog w) a S n):h.SetOf (strKind prog w) a S n:=by
 obtain⟨o,ho,hO⟩:=Bi.of x;exact hO.at (k _ _ ho)
end
noncomputable def Qs(prog:Program)(w:World)(g:Heap)(xt:Value)(S:Str→Bool):Prop :=
 (xt=.none∧∀ y,S y=false)∨∃ sx n,xt=.ref sx∧g.SetOf (strKind prog w) sx S n
end Mine
namespace Mine
open PySem.Calls
section
variable{prog:Program}{w:World}{A:Around}{E:Value→Shared→Prop}{s:Shared}{h₀:Heap}{L:Addr}{m:Str→Option Value}{news:List (Addr × Obj)}
noncomputable def Lb(w:World)(A:Around)(s:Shared)(prog:Program)(E:Value→Shared→Prop)(h₀:Heap)(L:Addr)(m:Str→Option Value)(news:List (Addr × Obj))(v d:Addr)(k1 u1 k2 u2 k3 u3 k4 u4 k5 u5 k6 u6 k7 u7:Str)(x1 y1 x2 y2 x3 y3 x4 y4 x5 y5 x6 y6 x7 y7:Tok)(n:Nat)(Q:Value→Shared→Prop):Prop :=
 ∀ (hh:A.handled=none) (F:Fr h₀ L s.heap m) (N:News h₀ L s.heap news) (hd:s.heap.get? d=some (dictOf (Bb w.params [((k1,x1),(u1,y1)),((k2,x2),(u2,y2)),((k3,x3),(u3,y3)),((k4,x4),(u4,y4)),((k5,x5),(u5,y5)),((k6,x6),(u6,y6)),((k7,x7),(u7,y7))]) n)) (hn:(([((k1,x1),(u1,y1)),((k2,x2),(u2,y2)),((k3,x3),(u3,y3)),((k4,x4),(u4,y4)),((k5,x5),(u5,y5)),((k6,x6),(u6,y6)),((k7,x7),(u7,y7))]:List ((Str × Tok) × (Str × Tok))).map (·.1.1)).Nodup) (hv:(v,{ cls:=.type "dict_items",data:=.fields #[.ref d] })∈news) (h:∀ (B a1 a2 a3 a4 a5 a6 a7:Addr) (t1 t2 t3 t4 t5 t6 t7:Tok) (c:Nat) h' tk,(@LT.lt Nat instLTNat B a1∧@LT.lt Nat instLTNat B a2∧@LT.lt Nat instLTNat B a3∧@LT.lt Nat instLTNat B a4∧@LT.lt Nat instLTNat B a5∧@LT.lt Nat instLTNat B a6∧@LT.lt Nat instLTNat B a7)→(∀ q∈news,q.1<B)→Fr h₀ L h' m→News h₀ L h' ((a1,Ad #[.str k1 t1,.str u1 y1])::(a2,Ad #[.str k2 t2,.str u2 y2])::(a3,Ad #[.str k3 t3,.str u3 y3])::(a4,Ad #[.str k4 t4,.str u4 y4])::(a5,Ad #[.str k5 t5,.str u5 y5])::(a6,Ad #[.str k6 t6,.str u6 y6])::(a7,Ad #[.str k7 t7,.str u7 y7])::(B,listOf #[.ref a1,.ref a2,.ref a3,.ref a4,.ref a5,.ref a6,.ref a7] c)::news)→Q (.ref B) { s with heap:=h',toks:=tk }),wpAny (model prog w) A (call (.type "list") [.ref v]) Q E s
theorem Wz:∀ {w A s prog E h₀ L m news v d k1 u1 k2 u2 k3 u3 k4 u4 k5 u5 k6 u6 k7 u7 x1 y1 x2 y2 x3 y3 x4 y4 x5 y5 x6 y6 x7 y7 n Q},Lb w A s prog E h₀ L m news v d k1 u1 k2 u2 k3 u3 k4 u4 k5 u5 k6 u6 k7 u7 x1 y1 x2 y2 x3 y3 x4 y4 x5 y5 x6 y6 x7 y7 n Q:=by
 refine @(Aa (Al neW)<|@(Aa neI<|@(Aa neI<|@(Aa neI<|@(Aa neI<|@(Bg neI<|let_mvar% ?n:=(fun w A s prog E h₀ L m news v d k1 u1 k2 u2 k3 u3 k4 u4 k5 u5 k6 u6 k7 u7 x1 y1 x2 y2 x3 y3 x4 y4 x5 y5 x6 y6 x7 y7 n Q=>?_:∀ a b c d e f g h i j k l m n o p q r s t u v w x y z a1 b1 c1 d1 e1 f1 g1 h1 i1 j1 k1 l1 m1 n1 o1,Lb a b c d e f g h i j k l m n o p q r s t u v w x y z a1 b1 c1 d1 e1 f1 g1 h1 i1 j1 k1 l1 m1 n1 o1);?n _ _ _ _ _ _ _ _ _ _ _ _ _ _ _ _ _ _ _ _ _ _ _ _ _ _ _ _ _ _ _ _ _ _ _ _ _ _ _ _ _))))))
 intro hh F N hd hn hv h
 refine ss_list hh F N hd hn (by rw [sizeLine_eq];exact Nat.le_of_ble_eq_true rfl) hv fun B tl c h' tk ha hp hb hl F' N'=>?_
 obtain⟨⟨a1,o1⟩,tl1,rfl,⟨t1,e1⟩,ha1⟩:=All2.uncons ha;dsimp only at e1;subst e1;obtain⟨⟨a2,o2⟩,tl2,rfl,⟨t2,e2⟩,ha2⟩:=All2.uncons ha1;dsimp only at e2;subst e2;obtain⟨⟨a3,o3⟩,tl3,rfl,⟨t3,e3⟩,ha3⟩:=All2.uncons ha2;dsimp only at e3;subst e3;obtain⟨⟨a4,o4⟩,tl4,rfl,⟨t4,e4⟩,ha4⟩:=All2.uncons ha3;dsimp only at e4;subst e4;obtain⟨⟨a5,o5⟩,tl5,rfl,⟨t5,e5⟩,ha5⟩:=All2.uncons ha4;dsimp only at e5;subst e5;obtain⟨⟨a6,o6⟩,tl6,rfl,⟨t6,e6⟩,ha6⟩:=All2.uncons ha5;dsimp only at e6;subst e6;obtain⟨⟨a7,o7⟩,tl7,rfl,⟨t7,e7⟩,ha7⟩:=All2.uncons ha6;dsimp only at e7;subst e7;obtain rfl:=All2.unnil ha7;exact h B a1 a2 a3 a4 a5 a6 a7 t1 t2 t3 t4 t5 t6 t7 c h' tk ⟨hb _ (.head _),hb _ (.tail _ (.head _)),hb _ (.tail _ (.tail _ (.head _))),hb _ (.tail _ (.tail _ (.tail _ (.head _)))),hb _ (.tail _ (.tail _ (.tail _ (.tail _ (.head _))))),hb _ (.tail _ (.tail _ (.tail _ (.tail _ (.tail _ (.head _)))))),hb _ (.tail _ (.tail _ (.tail _ (.tail _ (.tail _ (.tail _ (.head _)))))))⟩ hl F' N'
end
end Mine
namespace Mine
open PySem.Calls
open PySem.Builtin PySem.Builtin.Str PySem.Builtin.Int
set_option genSizeOf false in
set_option genInjectivity false in
structure WS where
 seen:Bool
 done:Bool
 decl:List (List Pr)
 nss:List (List Pr)
 pre:List Bool
 data:List Str
 out:List Str
set_option genSizeOf false in
structure KS where
 seen:Bool
 done:Bool
 decl:List (List Pr)
 nss:List (List Pr)
 pre:List Bool
set_option genSizeOf false in
inductive Told where
 | start (tag:Str) (attrs:List Pr)
 | stop (tag:Str)
 | data (x:Str)
 | comment (x:Str)
 | pi (x:Str)
 | sns (p u:Str)
noncomputable def flat(lv:List (List Pr)):List Pr:=lv.reverse.flatten
noncomputable def Ed{α:Type}(q:α)(l:List (List α)):List (List α):=l.dropLast++[l.getLastD []++[q]]
theorem Ex{α:Type}(q:α)(l:List (List α))(a:List α):Ed q (l++[a])=l++[a++[q]]:=by
 unfold Ed;rw [List.dropLast_concat]
 simp [List.getLastD_eq_getLast?]
noncomputable def KS.last(k:KS):Bool:=k.pre.getLastD false
noncomputable def KS.names(k:KS)(tag:Str)(attrs:List Pr):List Pr × List (Str × Parsed):=declare (flat k.decl) (flat k.nss) (Am Av (tag::attrs.map (·.1))) [] []
noncomputable def KS.step(k:KS):Told→KS
 | .start tag attrs=>{ seen:=true,done:=k.done,decl:=k.decl++[(k.names tag attrs).1],nss:=k.nss++[[]],pre:=k.pre++[Be k.last attrs] }
 | .stop _=>{ seen:=k.seen,done:=decide (k.pre.length=2),decl:=k.decl.dropLast,nss:=k.nss.dropLast,pre:=k.pre.dropLast }
 | .sns p u=>{ k with nss:=Ed (u,p) k.nss }
 | _=>k
noncomputable def KS.flush(k:KS)(data:List Str):List Str:=Bn k.seen (Bq true (Txt.join Str.empty data))
noncomputable def KS.endText(k:KS)(tag:Str):Str:=match qn (flat k.decl) (flat k.nss) (cutName tag).1 (cutName tag).2 with
 | some (t,_)=>t
 | none=>Str.empty
noncomputable def KS.says(k:KS)(data:List Str):Told→List Str
 | .start tag attrs=>k.flush data++Bm (k.names tag attrs).1 (k.names tag attrs).2 tag attrs
 | .stop tag=>k.flush data++["</"++k.endText tag++">"]
 | .comment x=>if k.done=true then ["\n","<!--"++Lm x++"-->"] else k.flush data++["<!--"++Lm x++"-->"]
 | .pi x=>k.flush data++["<?"++"i"++" "++Lm x++"?>"]
 | .sns _ _=>k.flush data
 | .data _=>[]
noncomputable def KS.holds(k:KS)(data:List Str):Told→List Str
 | .data x=>data++[x]
 | .comment _=>if k.done=true then data else []
 | _=>[]
noncomputable def WS.core(w:WS):KS:=⟨w.seen,w.done,w.decl,w.nss,w.pre⟩
noncomputable def WS.tell(w:WS)(c:Told):WS :=
 ⟨(w.core.step c).seen,(w.core.step c).done,(w.core.step c).decl,(w.core.step c).nss,(w.core.step c).pre,w.core.holds w.data c,w.out++w.core.says w.data c⟩
noncomputable def WS.run(w:WS)(cs:List Told):WS:=cs.foldl WS.tell w
noncomputable def KS.run(k:KS)(cs:List Told):KS:=cs.foldl KS.step k
theorem Us(w:WS)(c:Told):(w.tell c).core=w.core.step c:=rfl
theorem run_core(w:WS)(cs:List Told):(w.run cs).core=w.core.run cs:=by
 induction cs generalizing w with
 | nil=>rfl
 | cons c cs ih=>exact(ih (w.tell c)).trans (by rw [Us];rfl)
end Mine
namespace Mine
open PySem.Calls
open PySem.Builtin PySem.Builtin.Str PySem.Builtin.Int
noncomputable abbrev xsUri:Str:="http://www.w3.org/2001/XMLSchema"
noncomputable def pick{α:Type}(d:α)(l:List α)(i:Int):α:=l.getD i.toNat d
noncomputable def uriAt(i:Int):Str:=pick Str.empty ["","{urn:a}","{urn:b}","{http://www.w3.org/2001/XMLSchema}"] i
noncomputable def attrsAt(x:Int):List Pr :=
 if x / 8 / 4 % 3 > 0 then [(uriAt (x / 8 / 12 % 4)++Str.ofString "k",Str.ofString "1")] else []
noncomputable def tagAt(x:Int):Str:=if x % 8<2 then uriAt (x / 8 % 4)++Str.ofString "t" else pick Str.empty ["x","{urn:a}x"] (x / 8 % 2)
noncomputable def En(st:List Told × List Str)(x:Int):List Told × List Str :=
 if x % 8<3∧st.2.length<7 then(st.1++[.start (tagAt x) (attrsAt x)],st.2++[tagAt x])
 else if x % 8<5∧1<st.2.length then(st.1++[.stop (st.2.getLastD Str.empty)],st.2.dropLast)
 else if x % 8=6 then(st.1++[if x / 8 % 2=0 then .comment "c" else .pi "c"],st.2)
 else if x % 8=7∧x / 8 % 5=0 then(st.1++[.sns "" ""],st.2)
 else if x % 8=7 then(st.1++[.sns (pick Str.empty ["","p","q","z"] (x / 8 / 3 % 4)) (pick Str.empty ["urn:a","urn:b",xsUri] (x / 8 % 3))],st.2)
 else(st.1++[.data (pick Str.empty ["t"," ","<u","&",""] (x / 8 % 5))],st.2)
noncomputable def Sy:List Told × List Str:=([.sns "p" "urn:a",.sns "q" "urn:b",.start "r" []],["r"])
noncomputable def Hs(xs:List Int):List Told × List Str:=(([5,2,21,4]:List Int)++xs).foldl En Sy
noncomputable def scriptCalls(xs:List Int):List Told:=(Hs xs).1++(Hs xs).2.reverse.map .stop
structure ScriptOk (st:List Told × List Str):Prop where
 some:1≤st.2.length
 few:st.2.length≤7
theorem ScriptOk.step{st:List Told × List Str}(h:ScriptOk st)(x:Int):ScriptOk (En st x):=by
 have hs:=h.some;have hf:=h.few;unfold En
 split
 ·rename_i hx
  exact⟨by simp,by simp;exact Nat.le_of_lt_succ hx.2⟩
 split
 ·rename_i hx
  exact⟨by simp;exact Nat.le_sub_of_add_le hx.2,by simp;exact Nat.le_trans hf (by decide)⟩
 (repeat' split)<;>exact⟨hs,hf⟩
theorem Rx:ScriptOk Sy:=⟨by decide,by decide⟩
theorem Uj(xs:List Int):∀ st,ScriptOk st→ScriptOk (xs.foldl En st):=by
 induction xs with
 | nil=>exact fun _ h=>h
 | cons x xs ih=>exact fun st h=>ih _ (h.step x)
theorem Xh(xs:List Int):ScriptOk (Hs xs):=Uj _ _ Rx
end Mine
namespace Mine
open PySem.Calls
open PySem.Builtin PySem.Builtin.Str PySem.Builtin.Int
def Ec(q:Pr):Prop:=q.1.length≤100∧q.2.length≤200∧(Di q.1).length≤1000
theorem Pq{q:Pr}{l:List (List Pr)}:q∈flat l↔∃ a∈l,q∈a:=by
 unfold flat;simp [List.mem_flatten]
theorem Bs(l:List (List Pr))(a:List Pr):flat (l++[a])=a++flat l:=by
 unfold flat;simp
theorem Dm{α:Type}{l:List α}(h:1≤l.length):∃ b t,l=b++[t]:=by
 rcases List.eq_nil_or_concat l with rfl | ⟨b,t,rfl⟩
 ·simp at h
 ·exact⟨b,t,by rw [List.concat_eq_append]⟩
structure Fit (n:Nat) (w:WS):Prop where
 d1:w.data.length≤n
 d2:∀ d∈w.data,d.length≤2
 o1:w.out.length≤4 * n
 l1:w.decl.length=w.pre.length
 l2:w.nss.length=w.pre.length+1
 l3:w.pre.length≤n+1
 l4:1≤w.pre.length
 f1:(flat w.decl).length≤4 * n+1
 f2:(flat w.nss).length≤n+7
 g1:∀ q∈flat w.decl,Ec q
 g2:∀ q∈flat w.nss,Ec q
def Ji(w:WS)(n:Str):Prop:=Cc n=true∧known (flat w.nss) (cutName n).1
noncomputable def Cz(w:WS):Told→Prop
 | .start tag attrs=>(tag::attrs.map (·.1)).Nodup∧attrs.length≤3∧(∀ n∈tag::attrs.map (·.1),Ji w n)∧∀ a∈attrs,a.2.length≤100∧(Di a.2).length≤1000
 | .stop tag=>Ji w tag∧2≤w.pre.length∧w.seen=true
 | .data x=>x.length≤2
 | .comment x=>x.length≤2∧(Lm x).length≤1000∧w.seen=true∧w.done=false
 | .pi x=>x.length≤2∧(Lm x).length≤1000∧w.seen=true∧w.done=false∧((x.length:Int) != 0)=true
 | .sns p u=>Ec (u,p)
theorem Vq(k:KS)(d:List Str):(k.flush d).length≤1:=Ff _ _
theorem Ua{w:WS}{tag:Str}{attrs:List Pr}(h:∀ n∈tag::attrs.map (·.1),Ji w n) :
  (∀ q∈(w.core.names tag attrs).1,q∈flat w.nss)∧(w.core.names tag attrs).1.length≤attrs.length+1:=by
 have hi:=Bk (flat w.decl) (flat w.nss) (Am Av (tag::attrs.map (·.1))) [] [] (fun n hn=>(h n ((Aj _ _).mem_iff.mp hn)).2)
 refine⟨fun q hq=>?_,?_⟩
 ·rcases hi.2.1 q hq with z | z
  ·exact nomatch z
  ·exact z
 ·have h2:=(Aj Av (tag::attrs.map (·.1))).length_eq
  have h3:=hi.2.2
  simp at h2 h3
  show (declare (flat w.decl) (flat w.nss) (Am Av (tag::attrs.map (·.1))) [] []).1.length≤_
  exact(Nl fun hn1=>fk [_,_,_] (.e V0 (.s V1) (.e V2 V0 (.e (.a (.s V1) K1) V2 K0))) rfl (El h2) h3 hn1)
theorem Lc(lv:List Pr)(ps:List (Str × Parsed))(tag:Str)(attrs:List Pr):(Bm lv ps tag attrs).length≤3:=by
 unfold Bm
 split<;>simp
theorem Fit.tell{n:Nat}{w:WS}(h:Fit n w){c:Told}(hc:Cz w c):Fit (n+1) (w.tell c):=by
 obtain⟨d1,d2,o1,l1,l2,l3,l4,f1,f2,g1,g2⟩:=h;have hfl:=Vq w.core w.data
 cases c with
 | start tag attrs =>
  obtain⟨c1,c2,c3,c4⟩:=hc;obtain⟨n1,n2⟩:=Ua c3;have hp:=Lc (w.core.names tag attrs).1 (w.core.names tag attrs).2 tag attrs
  refine⟨Nat.zero_le _,(fun _ z=>nomatch z),?_,?_,?_,?_,?_,?_,?_,?_,?_⟩
  ·show (w.out++(w.core.flush w.data++Bm _ _ tag attrs)).length≤_
   rw [List.length_append,List.length_append];exact(Nl fun hn1=>fk [_,_,_,_] (.e V0 (.m 4 V1) (.e V2 K1 (.e V3 (.k 3) (.e (.a (.m 4 (.s V1)) K1) (.a V0 (.a V2 V3)) K0)))) rfl o1 hfl hp hn1)
  ·show (w.decl++[_]).length=(w.pre++[_]).length
   simp [l1]
  ·show (w.nss++[_]).length=(w.pre++[_]).length+1
   simp [l2]
  ·show (w.pre++[_]).length≤_
   simp;exact l3
  ·show 1≤(w.pre++[_]).length
   simp
  ·show (flat (w.decl++[_])).length≤_
   rw [Bs,List.length_append];exact(Nl fun hn1=>fk [_,_,_,_] (.e V0 (.a (.m 4 V1) K1) (.e V2 (.k 3) (.e V3 (.s V2) (.e (.a (.a (.m 4 (.s V1)) K1) K1) (.a V3 V0) K0)))) rfl f1 c2 n2 hn1)
  ·show (flat (w.nss++[[]])).length≤_
   rw [Bs,List.nil_append];exact(Nl fun hn1=>fk [_,_] (.e V0 (.a V1 (.k 7)) (.e (.a (.a (.s V1) (.k 7)) K1) V0 K0)) rfl f2 hn1)
  ·show ∀ q∈flat (w.decl++[_]),Ec q
   intro q hq;rw [Bs] at hq
   rcases List.mem_append.mp hq with z | z
   ·exact g2 q (n1 q z)
   ·exact g1 q z
  ·show ∀ q∈flat (w.nss++[[]]),Ec q
   rw [Bs,List.nil_append];exact g2
 | stop tag =>
  obtain⟨c1,c2,c3⟩:=hc
  obtain⟨b1,t1,e1⟩:=Dm (l:=w.decl) (by exact(Nl fun hn1=>fk [_,_] (.e V0 V1 (.e (.k 2) V0 (.e (.s V1) K1 K0))) rfl (Es l1) c2 hn1))
  obtain⟨b2,t2,e2⟩:=Dm (l:=w.nss) (by exact(Nl fun hn1=>fk [_,_] (.e (.s V0) V1 (.e (.s V1) K1 K0)) rfl (Es l2) hn1))
  rw [e1,Bs] at f1 g1;rw [e2,Bs] at f2 g2;rw [List.length_append] at f1 f2
  refine⟨Nat.zero_le _,(fun _ z=>nomatch z),?_,?_,?_,?_,?_,?_,?_,?_,?_⟩
  ·show (w.out++(w.core.flush w.data++[_])).length≤_
   simp only [List.length_append,List.length_cons,List.length_nil];exact(Nl fun hn1=>fk [_,_,_] (.e V0 (.m 4 V1) (.e V2 K1 (.e (.a (.m 4 (.s V1)) K1) (.a V0 (.a V2 (.s K0))) K0))) rfl o1 hfl hn1)
  ·show w.decl.dropLast.length=w.pre.dropLast.length
   simp [l1]
  ·show w.nss.dropLast.length=w.pre.dropLast.length+1
   simp [l2];exact(Nat.le_antisymm (Nl fun hn2=>fk [_,_] (.e (.a (.s V0) K1) V1 (.e V1 (.s V0) K0)) rfl hn2 Ln.sba) (Nl fun hn3=>fk [_,_] (.e (.s V0) (.s V1) (.e (.s V1) V0 K0)) rfl hn3 (Nat.le_of_eq (Nat.sub_add_cancel l4))))
  ·show w.pre.dropLast.length≤_
   simp;exact(Nl fun hn1=>fk [_,_] (.e V0 (.s V1) (.e (.a (.a (.a (.s V1) K1) K1) K1) V0 K0)) rfl l3 hn1)
  ·show 1≤w.pre.dropLast.length
   simp;exact(Nl fun hn1=>fk [_,_] (.e (.k 2) V0 (.e (.s V1) K1 (.e V0 (.s V1) K0))) rfl c2 hn1 Ln.sba)
  ·show (flat w.decl.dropLast).length≤_
   rw [e1,List.dropLast_concat];exact(Nl fun hn1=>fk [_,_,_] (.e (.a V0 V1) (.a (.m 4 V2) K1) (.e (.a (.a (.m 4 (.s V2)) K1) K1) V1 K0)) rfl f1 hn1)
  ·show (flat w.nss.dropLast).length≤_
   rw [e2,List.dropLast_concat];exact(Nl fun hn1=>fk [_,_,_] (.e (.a V0 V1) (.a V2 (.k 7)) (.e (.a (.a (.s V2) (.k 7)) K1) V1 K0)) rfl f2 hn1)
  ·show ∀ q∈flat w.decl.dropLast,Ec q
   rw [e1,List.dropLast_concat];exact fun q hq=>g1 q (Mr _ hq)
  ·show ∀ q∈flat w.nss.dropLast,Ec q
   rw [e2,List.dropLast_concat];exact fun q hq=>g2 q (Mr _ hq)
 | data x =>
  refine⟨?_,?_,?_,l1,l2,Nat.le_succ_of_le l3,l4,Nat.le_trans f1 (by exact(Nl fun hn1=>fk [_] (.e (.a (.a (.m 4 (.s V0)) K1) K1) (.a (.m 4 V0) K1) K0) rfl hn1)),Nat.le_trans f2 (by exact(Nl fun hn1=>fk [_] (.e (.a (.a (.s V0) (.k 7)) K1) (.a V0 (.k 7)) K0) rfl hn1)),g1,g2⟩
  ·show (w.data++[x]).length≤_
   simp;exact d1
  ·show ∀ d∈w.data++[x],d.length≤2
   intro d hd
   rcases List.mem_append.mp hd with z | z
   ·exact d2 d z
   ·rw [List.mem_singleton.mp z];exact hc
  ·show (w.out++[]).length≤_
   simp;exact(Nl fun hn1=>fk [_,_] (.e V0 (.m 4 V1) (.e (.a (.m 4 (.s V1)) K1) V0 K0)) rfl o1 hn1)
 | comment x =>
  refine⟨?_,?_,?_,l1,l2,Nat.le_succ_of_le l3,l4,Nat.le_trans f1 (by exact(Nl fun hn1=>fk [_] (.e (.a (.a (.m 4 (.s V0)) K1) K1) (.a (.m 4 V0) K1) K0) rfl hn1)),Nat.le_trans f2 (by exact(Nl fun hn1=>fk [_] (.e (.a (.a (.s V0) (.k 7)) K1) (.a V0 (.k 7)) K0) rfl hn1)),g1,g2⟩
  ·show (if w.core.done=true then w.data else []).length≤_
   split
   ·exact(Nl fun hn1=>fk [_,_] (.e V0 V1 (.e (.a (.s V1) K1) V0 K0)) rfl d1 hn1)
   ·exact Nat.zero_le _
  ·show ∀ d∈(if w.core.done=true then w.data else []),d.length≤2
   split
   ·exact d2
   ·exact fun _ z=>nomatch z
  ·show (w.out++(if w.core.done=true then _ else w.core.flush w.data++[_])).length≤_
   split<;>simp<;>lia
 | pi x =>
  refine⟨Nat.zero_le _,(fun _ z=>nomatch z),?_,l1,l2,Nat.le_succ_of_le l3,l4,Nat.le_trans f1 (by exact(Nl fun hn1=>fk [_] (.e (.a (.a (.m 4 (.s V0)) K1) K1) (.a (.m 4 V0) K1) K0) rfl hn1)),Nat.le_trans f2 (by exact(Nl fun hn1=>fk [_] (.e (.a (.a (.s V0) (.k 7)) K1) (.a V0 (.k 7)) K0) rfl hn1)),g1,g2⟩
  show (w.out++(w.core.flush w.data++[_])).length≤_
  simp only [List.length_append,List.length_cons,List.length_nil];exact(Nl fun hn1=>fk [_,_,_] (.e V0 (.m 4 V1) (.e V2 K1 (.e (.a (.m 4 (.s V1)) K1) (.a V0 (.a V2 (.s K0))) K0))) rfl o1 hfl hn1)
 | sns p u =>
  obtain⟨b2,t2,e2⟩:=Dm (l:=w.nss) (by exact(Nl fun hn1=>fk [_,_] (.e (.s V0) V1 (.e (.s V1) K1 K0)) rfl (Es l2) hn1))
  have e3:Ed (u,p) w.nss=b2++[t2++[(u,p)]]:=by rw [e2,Ex]
  rw [e2,Bs] at f2 g2;rw [List.length_append] at f2
  refine⟨Nat.zero_le _,(fun _ z=>nomatch z),?_,l1,?_,Nat.le_succ_of_le l3,l4,Nat.le_trans f1 (by exact(Nl fun hn1=>fk [_] (.e (.a (.a (.m 4 (.s V0)) K1) K1) (.a (.m 4 V0) K1) K0) rfl hn1)),?_,g1,?_⟩
  ·show (w.out++w.core.flush w.data).length≤_
   rw [List.length_append];exact(Nl fun hn1=>fk [_,_,_] (.e V0 (.m 4 V1) (.e V2 K1 (.e (.a (.m 4 (.s V1)) K1) (.a V0 V2) K0))) rfl o1 hfl hn1)
  ·show (Ed (u,p) w.nss).length=w.pre.length+1
   rw [e3,← l2,e2];simp
  ·show (flat (Ed (u,p) w.nss)).length≤_
   rw [e3,Bs];simp;exact(Nl fun hn1=>fk [_,_,_] (.e (.a V0 V1) (.a V2 (.k 7)) (.e (.a (.a (.s V2) (.k 7)) K1) (.a V0 (.s V1)) K0)) rfl f2 hn1)
  ·show ∀ q∈flat (Ed (u,p) w.nss),Ec q
   rw [e3,Bs];intro q hq
   simp only [List.mem_append,List.mem_singleton] at hq
   rcases hq with (z | rfl) | z
   ·exact g2 q (Ml _ z)
   ·exact hc
   ·exact g2 q (Mr _ z)
end Mine
namespace Mine
open PySem.Calls
open PySem.Builtin PySem.Builtin.Str PySem.Builtin.Int
theorem Tj{n:Nat}{w:WS}(h:Fit n w)(hn:n≤100):JoinOk Str.empty w.data=true∧(Txt.join Str.empty w.data).length≤2000:=by
 have hb:∀ l:List Str,(∀ d∈l,d.length≤2)→(l.map (·.length)).sum≤2 * l.length:=by
  intro l
  induction l with
  | nil=>intro _;simp
  | cons q l ih =>
   intro h
   have:=ih fun r hr=>h r (.tail _ hr)
   have h2:=h q (.head _)
   simp only [List.map_cons,List.sum_cons,List.length_cons]
   exact(Nl fun hn1=>fk [_,_,_] (.e V0 (.m 2 V1) (.e V2 (.k 2) (.e (.a (.m 2 (.s V1)) K1) (.a V2 V0) K0))) rfl this h2 hn1)
 have h2:=hb w.data h.d2;have h1:=h.d1
 constructor
 ·have:=joinOk_filter (sep:=Str.empty) (ss:=w.data) (pz:=fun _=>true) (by exact(Nl fun hn1=>fk [_,_,_] (.c 3 V0 (.k 100) (.e V1 (.m 2 V2) (.c 3 V2 V0 (.e (.s (.k 1048576)) (.a V1 V2) K0)))) rfl hn h2 h1 hn1)) (by decide)
  rw [List.filter_eq_self.mpr (fun _ _=>rfl)] at this
  simpa using this
 ·have h3:(Txt.join Str.empty w.data).length≤(w.data.map (·.length)).sum+w.data.length * Str.empty.length:=by
   show (Builtin.Str.glued Str.empty w.data).length≤_
   rw [StrLaws.glued_eq_join];exact StrLaws.join_length_le Str.empty w.data
  have h4:Str.empty.length=0:=rfl;rw [h4] at h3
  exact(Nl fun hn1=>fk [_,_,_,_] (.c 2 V0 (.k 100) (.e V1 (.m 2 V2) (.c 2 V2 V0 (.e V3 (.a V1 (.w V2 0)) (.e (.s (.k 2000)) V3 K0))))) rfl hn h2 h1 h3 hn1)
end Mine
namespace Mine
open PySem.Calls
noncomputable def Uw(prog:Program)(w:World)(xs:List (Addr × Obj))(ev:Value)(S:Str→Bool):Prop :=
 (ev=.none∧xs=[]∧∀ y,S y=false)∨∃ sx o c,ev=.ref sx∧xs=[(sx,o)]∧Bi prog w o S c∧∃ y,S y=true
theorem Uw.leaves{prog:Program}{w:World}{xs:List (Addr × Obj)}{ev:Value}{S:Str→Bool}{g:Heap}(h:Uw prog w xs ev S)(hg:∀ p∈xs,g.get? p.1=some p.2):Qs prog w g ev S:=by
 rcases h with ⟨h1,_,h3⟩ | ⟨sx,o,c,h1,h2,h3,_⟩
 ·exact .inl ⟨h1,h3⟩
 ·exact .inr ⟨sx,c,h1,h3.at (hg (sx,o) (by rw [h2];exact .head _))⟩
noncomputable def Tells(g:Heap)(xv:Value)(S:Str→Bool):Prop :=
 (xv=.none∧∀ y,S y=false)∨∃ gl ts,xv=.ref gl∧g.IsList gl (strValues ts).toArray∧0<ts.length∧ts.length<9∧∀ y,S y=true↔y∈ts.map (·.1)
theorem Tells.keeps{g h:Heap}{xv:Value}{S:Str→Bool}(x:Tells g xv S)(k:∀ b o,g.get? b=some o→h.get? b=some o):Tells h xv S:=by
 rcases x with x | ⟨gl,ts,h1,h2,h3⟩
 ·exact .inl x
 ·exact .inr ⟨gl,ts,h1,Ae k h2,h3⟩
theorem Ok.sub{g:Heap}{os:OsState}{own own':List (Addr × Obj)}{s:Shared}(h:Ok g os own s)(k:∀ q∈own',q∈own):Ok g os own' s:=⟨h.size,h.keep,fun q hq=>h.own q (k q hq),h.os,h.bare⟩
end Mine
namespace Mine
open PySem.Calls PySem.Builtin PySem.Builtin.List
section
variable{prog:Program}{w:World}{A:Around}{E:Value→Shared→Prop}{s:Shared}{h₀:Heap}{L:Addr}{m:Str→Option Value}{news:List (Addr × Obj)}
theorem upd_to{M:Model}{l:Addr}{its its':Array Value}{n:Nat}{f:Array Value→Array Value}{Q:Unit→Shared→Prop}(hl:s.heap.get? l=some (listOf its n))(hz:its.size≤sizeLine)(hf:f its=its')(hz':its'.size≤sizeLine)
  (h:∀ h' n',Heap.SameBut l s.heap h'→h'.get? l=some (listOf its' n')→Q () { s with heap:=h' }):wpAny M A (updateSeq l f) Q E s:=by
 have e:Obj.mapSeq f (listOf its n)=listOf its' (if (f its).size == its.size then n else n+1):=by unfold Obj.mapSeq;simp only [hf]
 refine wpAny_updateSeq hl rfl (h _ (if (f its).size == its.size then n else n+1) (Heap.SameBut.update ..) ?_) hz (by rw [hf];exact Nat.le_succ_of_le hz')
 rw [Heap.get?_update_self _ hl (by rw [e];rfl),e]
noncomputable abbrev Mv(k:Nat)(t:Tok):Obj:={ cls:=.type "slice",data:=.fields #[.int k t,.none,.none] }
theorem Vx(k j:Nat):sliceIndices (.int k 0) .none .none (k+j)=pure ((k:Int),((k+j:Nat):Int),1):=by
 have h1:asIndex (.int (k:Int) 0)=pure (k:Int):=rfl;unfold sliceIndices
 rw [if_pos (by decide)]
 simp only [pure_bind,h1]
 have h2:¬ ((k:Int)<0):=by omega
 have h3:max (0:Int) (min (k:Int) ((k:Int)+(j:Int)))=(k:Int):=by omega
 simp [h2,h3]
theorem filt_to{α:Type}(l1 l2:List α)(p:Nat→Bool)(h1:∀ i,i<l1.length→p i=false)(h2:∀ i,l1.length≤i→i<l1.length+l2.length→p i=true):(l1++l2).zipIdx.filterMap (fun x=>if p x.2=true then none else some x.1)=l1:=by
 rw [List.zipIdx_append,List.filterMap_append]
 have e2:(l2.zipIdx (0+l1.length)).filterMap (fun x=>if p x.2=true then none else some x.1)=[]:=by
  refine List.filterMap_eq_nil_iff.mpr fun x hx=>if_pos ?_
  obtain⟨a,i⟩:=x;have:=List.mem_zipIdx hx
  exact h2 i (by exact(Nat.le_of_not_lt fun hn1=>fk [_,_] (.c 1 (.a (.k 0) (.v 0)) (.v 1) (.c 1 (.a (.v 1) (.k 1)) (.v 0) (.k 0))) rfl this.1 hn1)) (by exact(Nat.lt_of_not_le fun hn1=>fk [_,_,_] (.c 1 (.a (.v 0) (.k 1)) (.a (.a (.k 0) (.v 1)) (.v 2)) (.c 1 (.a (.v 1) (.v 2)) (.v 0) (.k 0))) rfl this.2.1 hn1))
 have e1:∀ (l:List α) (k:Nat),(∀ i,k≤i→i<k+l.length→p i=false)→(l.zipIdx k).filterMap (fun x=>if p x.2=true then none else some x.1)=l:=by
  intro l
  induction l with
  | nil=>intro k _;rfl
  | cons a l ih =>
   intro k h;rw [List.zipIdx_cons,List.filterMap_cons]
   rw [if_neg (by rw [h k (Nat.le_refl _) (by simp)];exact Bool.false_ne_true)]
   rw [ih (k+1) fun i h3 h4=>h i (by exact(Nat.le_of_not_lt fun hn1=>fk [_,_] (.c 1 (.a (.v 0) (.k 1)) (.v 1) (.c 1 (.a (.v 1) (.k 1)) (.v 0) (.k 0))) rfl h3 hn1)) (by rw [List.length_cons];exact(Nat.lt_of_not_le fun hn1=>fk [_,_,_] (.c 1 (.a (.v 0) (.k 1)) (.a (.a (.v 1) (.k 1)) (.v 2)) (.c 1 (.a (.v 1) (.a (.v 2) (.k 1))) (.v 0) (.k 0))) rfl h4 hn1))]
 rw [e2,e1 l1 0 fun i _ h=>h1 i (by exact(Nat.lt_of_not_le fun hn1=>fk [_,_] (.c 1 (.a (.v 0) (.k 1)) (.a (.k 0) (.v 1)) (.c 1 (.v 1) (.v 0) (.k 0))) rfl h hn1)),List.append_nil]
theorem Vc{l sl:Addr}{its ex:Array Value}{n:Nat}{t:Tok}{Q:Unit→Shared→Prop}(hl:s.heap.get? l=some (listOf (its++ex) n))(hs:s.heap.get? sl=some (Mv its.size t))(hz:(its++ex).size≤sizeLine)(h:∀ h' n',Heap.SameBut l s.heap h'→h'.get? l=some (listOf its n')→Q () { s with heap:=h' }):wpAny (model prog w) A (delItem (.ref l) (.ref sl)) Q E s:=by
 refine wpAny_delItem_slot ⟨_,hl,rfl⟩ (by decide) F.slot_list_delitem ?_
 refine wpAny_call_entry F.slot_list_delitem ⟨_,hl,rfl⟩ F.entry_list_delitem ?_ (F.args_list_delitem_2 _ _);unfold Builtin.«list.__delitem__»;refine Wb (wpAny_of_eq (a:=(.ref l,[.ref sl])) rfl ?_);dsimp only;refine Wb ?_;unfold listSubscript?;refine Wb (wpAny_specialOf (T:="slice") ⟨_,hs,rfl⟩ Ea ?_);refine Wp ?_;dsimp only;refine Wb (wpAny_typeOf (T:="slice") ⟨_,hs,rfl⟩ ?_)
 rw [if_neg (by decide +kernel)]
 refine Wb ?_;unfold listSliceParts;dsimp only;refine Wb (wpAny_field hs rfl (x:=.none) rfl ?_)
 rw [if_pos (by decide)]
 refine Wb (Wp ?_)
 rw [if_neg (by decide)]
 refine Wb (wpAny_field hs rfl (x:=.int its.size t) rfl ?_);rw [if_neg (show ¬ ((Value.int (its.size:Int) t == Value.none)=true) from Bool.false_ne_true)];refine Wb (Wb (wpAny_specialOf (T:="int") (typeIs_int _ _ _) int_index ?_))
 rw [if_neg (by decide)]
 refine Wb (wpAny_of_eq (a:=(its.size:Int)) rfl (Wp ?_));refine Wb (wpAny_field hs rfl (x:=.none) rfl ?_)
 rw [if_pos (by decide)]
 refine Wb (Wp (Wp ?_));refine Wb (m:=listItems _) (Wb (wpAny_seqItems hl rfl (Wp ?_)));refine Wb (wpAny_of_eq (a:=((its.size:Int),((its.size+ex.size:Nat):Int),(1:Int))) ?_ ?_)
 ·rw [Array.size_append];exact Vx its.size ex.size
 refine Wb (wpAny_rule (Wb ?_))
 have hsel:∀ i:Nat,(if (1:Int) > 0 then decide ((its.size:Int)≤(i:Int)) && decide ((i:Int)<((its.size+ex.size:Nat):Int)) && (((i:Int) - its.size) % 1 == 0) else decide (((its.size+ex.size:Nat):Int)<(i:Int)) && decide ((i:Int)≤its.size) && (((its.size:Int) - i) % (-1) == 0))=(decide (its.size≤i) && decide (i<its.size+ex.size)):=by
  intro i
  rw [if_pos (by decide),show decide ((its.size:Int)≤(i:Int))=decide (its.size≤i) from decide_eq_decide.mpr (by omega),show decide ((i:Int)<((its.size+ex.size:Nat):Int))=decide (i<its.size+ex.size) from decide_eq_decide.mpr (by omega),Int.emod_one]
  simp
 refine upd_to (its':=its) hl hz ?_ (by rw [Array.size_append] at hz;exact(Nat.le_of_not_lt fun hn1=>fk [_,_,_] (.c 1 (.a (.v 0) (.v 1)) (.v 2) (.c 1 (.a (.v 2) (.k 1)) (.v 0) (.k 0))) rfl hz hn1)) fun h' n' hsb ho=>?_
 ·have:=filt_to its.toList ex.toList (fun i=>if (1:Int) > 0 then decide ((its.size:Int)≤(i:Int)) && decide ((i:Int)<((its.size+ex.size:Nat):Int)) && (((i:Int) - its.size) % 1 == 0) else decide (((its.size+ex.size:Nat):Int)<(i:Int)) && decide ((i:Int)≤its.size) && (((its.size:Int) - i) % (-1) == 0)) (fun i h=>by rw [hsel];rw [Array.length_toList] at h;simp;omega) (fun i h1 h2=>by rw [hsel];rw [Array.length_toList] at h1 h2;rw [Array.length_toList] at h2;simp;exact⟨h1,h2⟩)
  rw [Array.toList_append];exact congrArg List.toArray this
 ·exact Wb (Wc (Wp ⟨_,rfl,h h' n' hsb ho⟩))
theorem Rg{l:Addr}{its ex:Array Value}{n:Nat}{t:Tok}{news':Nat→List (Addr × Obj)}{Q:Unit→Shared→Prop}(hF:Fr h₀ L s.heap m)(N:News h₀ L s.heap news)(U:∀ n',Upd l (listOf (its++ex) n) (listOf its n') news (news' n'))(hz:(its++ex).size≤sizeLine)(h:∀ h' n',Fr h₀ L h' m→News h₀ L h' (news' n')→Q () { s with heap:=h' }) :
  wpAny (model prog w) A (delItem (.ref l) (.ref s.heap.objs.size)) Q E { s with heap:=s.heap.push (Mv its.size t) }:=by
 obtain⟨pre,post,e1,_,_,_⟩:=(U 0).split
 have z:=N (l,listOf (its++ex) n) (by rw [e1];exact List.mem_append.mpr (.inr (.head _)))
 refine Vc (t:=t) (Heap.get?_push_of_some _ z.1) (Heap.get?_push_size _ rfl) hz fun h' n' hsb ho'=>?_
 obtain⟨pre,post,e1,e2,a,b⟩:=(U n').split;refine h h' n' (Fr.change (Fr.pushS hF _) hsb z.2.1 z.2.2) ?_;rw [e2];rw [e1] at N
 exact news_set (fun p hp=>⟨Heap.get?_push_of_some _ (N p hp).1,(N p hp).2⟩) a b hsb ho'
end
end Mine
namespace Mine
open PySem.Calls
section
variable{prog:Program}{w:World}{A A₀:Around}{E:Value→Shared→Prop}{s:Shared}{base g G h₀:Heap}{outer:List Env}{L a:Addr}{m:Str→Option Value}{name:Str}{scope:Scope}{cd:Value}{os:OsState}{cl:List (Str × Addr)}
theorem Below.swap{A':Around}{e1 e2:Env}(B:Below A base (e1::outer) g)(hA:A'.frames=some (e2::outer))(hf:e2.frame=e1.frame)(hk:e2.scope.kind≠.module):Below A' base (e2::outer) g:=by
 obtain⟨_,st,⟨_,⟨L,o,h1,h2,h3,h4⟩,hr⟩⟩:=B;exact⟨hA,st,⟨hk,⟨L,o,hf.trans h1,h2,h3,h4⟩,hr⟩⟩
theorem neAS{α:Type}[Inhabited α]:Nonempty (α × Shared):=⟨(default,{})⟩
theorem memX{b:Addr}(hm:b∈(envX name scope L a cd cl::outer).filterMap (·.frame)):b=L∨b∈outer.filterMap (·.frame):=List.mem_cons.mp hm
theorem Lx{f:Value}{args:List Value}{Q:Value→Shared→Prop}{news:List (Addr × Obj)}(own rest:List (Addr × Obj))(B:Below A₀ base outer g)(D:KtsDicts (outer.filterMap (·.frame)) g)(F:Fr g L s.heap m)(N:News g L s.heap news)(hos:s.os=os)(hb:AllBare s.gens)
  (h1:∀ p∈own,p∈news) (h2:∀ p∈rest,p∈news) (h3:∀ p∈rest,p.1∉own.map (·.1))
  (h:∀ g₂,Ok g₂ os own s→(∀ b o,g.get? b=some o→g₂.get? b=some o)→(∀ p∈rest,g₂.get? p.1=some p.2)→Below (A₀.deeper (envX name scope L a cd cl)) base (envX name scope L a cd cl::outer) g₂→KtsDicts ((envX name scope L a cd cl::outer).filterMap (·.frame)) g₂ →
   (∀ s' own',Ok g₂ os own' s'→Fr g L s'.heap m∧News g L s'.heap (own'++rest)∧(∀ p∈own',∀ q∈rest,p.1≠q.1)∧s'.os=os∧AllBare s'.gens) →
   (∀ (s':Shared) own' e cls t vs,RaisedS base g₂ (envX name scope L a cd cl::outer) e cls t vs own' s'.heap→g₂.UpToSlots s'.heap→(∀ p∈own',∀ q∈rest,p.1≠q.1)∧∃ G',Fr g L G' m∧G'.UpToSlots s'.heap∧RaisedS base G' (envX name scope L a cd cl::outer) e cls t vs (own'++rest) s'.heap) →
   codeAny (model prog w) (A₀.deeper (envX name scope L a cd cl)) (.call f ⟨args,[]⟩) (fun r s'=>match r with | .ok (.ret v)=>Q v s' | .ok _=>False | .error e=>E e s') s)
  (hk:scope.kind=.function:=by rfl):wpAny (model prog w) (A₀.deeper (envX name scope L a cd cl)) (call f args) Q E s:=by
 have N1:News g L s.heap own:=fun p hp=>N p (h1 p hp)
 have N2:News g L s.heap (own++rest):=fun p hp=>N p ((List.mem_append.mp hp).elim (h1 p) (h2 p))
 obtain⟨a1,b1,c1,d1⟩:=Eb (own:=own) (rest:=rest) F N hos hb h1 h2 h3;obtain⟨oL,es,ep,hLg,hLd,_,_,st,B₀⟩:=kts_enter (A:=A₀.deeper (envOf name scope L a cd)) (cn:=name) (cs:=scope) (a:=a) (ccd:=cd) B F N1 (Around.frames_deeper B.stack) hk
 have B₂:Below (A₀.deeper (envX name scope L a cd cl)) base (envX name scope L a cd cl::outer) (hideAll s.heap (own.map (·.1))):=Below.swap B₀ (Around.frames_deeper B.stack) rfl (by show scope.kind≠.module;rw [hk];decide)
 obtain⟨_,_,_,hL2,_,hN2,_,st2,_⟩:=kts_enter (A:=A₀.deeper (envOf name scope L a cd)) (cn:=name) (cs:=scope) (a:=a) (ccd:=cd) B F N2 (Around.frames_deeper B.stack) hk
 refine wpAny_call (h _ a1 b1 c1 B₂ (fun b hb'=>?_) (fun s' own' H=>?_) fun s' own' e cls t vs R U=>⟨fun p hp q hq z=>?_,?_⟩)
 ·rcases memX hb' with rfl | hb'
  ·exact⟨oL,es,ep,hLg,hLd⟩
  ·obtain⟨o,es',n',ho',hd'⟩:=D b hb'
   exact⟨o,es',n',st b o ho',hd'⟩
 ·obtain⟨x1,x2,x3,x4⟩:=d1 s' own' H
  exact⟨x1,x2,(fun p hp q hq z=>by have:=(H.own p hp).2;rw [z,c1 q hq] at this;cases this),x3,x4⟩
 ·obtain⟨⟨_,_,_,hl,_⟩,_⟩:=R
  have:=(hl p hp).2.1;rw [z,c1 q hq] at this;cases this
 ·have sub:∀ b o,(hideAll s.heap ((own++rest).map (·.1))).get? b=some o→(hideAll s.heap (own.map (·.1))).get? b=some o:=fun b o e=>by
   refine hideAll_get _ (of_hideAll _ e) fun z=>?_
   rw [hideAll_none _ (by rw [List.map_append];exact List.mem_append_left _ z)] at e
   cases e
  refine⟨_,⟨hN2 _ hL2,st2,F.above⟩,(Heap.UpToSlots.of_keeps sub).trans U,RaisedS.wide R sub fun q hq=>⟨c1 q hq,fun z=>?_,hideAll_none _ (by rw [List.map_append];exact List.mem_append_right _ (List.mem_map_of_mem hq)),?_⟩⟩
  ·rcases memX z with z | z
   ·exact(N q (h2 q hq)).2.1 z
   ·obtain⟨_,o,ho,_⟩:=B.frames.mem z
    rw [(N q (h2 q hq)).2.2] at ho;cases ho
  ·cases z:base.get? q.1 with
   | none=>rfl
   | some o=>have:=B.stays _ _ z;rw [(N q (h2 q hq)).2.2] at this;cases this
theorem Hp{env:Env}{target:PySem.Expr}{body:List Stmt}{R:Result→Shared→Prop}{I:Addr}{fp:List Addr}{n:Nat}{P:Nat→Value→Prop}{St:Nat→Heap→Prop}{own:List (Addr × Obj)}{oI:Obj}
  (J:Heap→Nat→(Str→Option Value)→List (Addr × Obj)→Prop) (W:Walks prog w A I fp [I] n P St) (hfp:∀ b∈fp,b≠I→∃ o,∀ g i m own,J g i m own→(b,o)∈own)
  (step:∀ (s1:Shared) g i v m own oI tk h1,i<n→P i v→J g i m own→Fr g L h1 m→News g L h1 ((I,oI)::own)→(∀ p∈own,p.1≠I)→s1.os=os→AllBare s1.gens →
   wpAny (model prog w) A (assign target env v) (fun _ s2=>wpAny (model prog w) A (execs body env) (fun f s3=>match f with
    | .next | .cont=>∃ g' m' own',J g' (i+1) m' own'∧Fr g' L s3.heap m'∧News g' L s3.heap ((I,oI)::own')∧(∀ p∈own',p.1≠I)∧s3.os=os∧AllBare s3.gens
    | .brk=>R (.ok .next) s3
    | .ret v=>R (.ok (.ret v)) s3) (notedBy (model prog w) A env fun e s'=>R (.error e) s') s2) (notedBy (model prog w) A env fun e s'=>R (.error e) s') { s1 with heap:=h1,toks:=tk })
  (done:∀ (s1:Shared) g m own,J g n m own→Fr g L s1.heap m→News g L s1.heap own→s1.os=os→AllBare s1.gens→R (.ok .next) s1)
  (hJ:J g 0 m own) (hst:St 0 s.heap) (F:Fr g L s.heap m) (N:News g L s.heap ((I,oI)::own)) (hoff:∀ p∈own,p.1≠I) (hos:s.os=os) (hb:AllBare s.gens)
  (hlive:∀ i h,St i h→∃ o,h.get? I=some o)
  (hown:∀ v (s:Shared) (Q:Unit→Shared→Prop) (E':Value→Shared→Prop),Q () s→wpAny (model prog w) A (letOwnedTupleGo target (.ref I) v) Q E' s) :
  codeAny (model prog w) A (.forLoop (target) (.ref I) body [] env) R s:=by
 refine codeAny_forLoop_any (fun k s'=>∃ i g m own oI,k=n - i∧i≤n∧J g i m own∧St i s'.heap∧Fr g L s'.heap m∧News g L s'.heap ((I,oI)::own)∧(∀ p∈own,p.1≠I)∧s'.os=os∧AllBare s'.gens) ?_ n
  ⟨0,g,m,own,oI,rfl,Nat.zero_le _,hJ,hst,F,N,hoff,hos,hb⟩
 rintro k s' ⟨i,g,m,own,oI,rfl,hi,hJ,hst,F',N',hoff,hos',hb'⟩;have hIL:I≠L:=(N' (I,oI) (.head _)).2.1;have hI0:g.get? I=none:=(N' (I,oI) (.head _)).2.2
 by_cases hlt:i<n
 ·refine W.item i s' _ _ hlt hst fun v h' tk hP hst' hkeep=>?_
  dsimp only;refine hown _ _ _ _ ?_;obtain⟨oL,es,ep,hL,rL⟩:=F'.ns
  have F₂:Fr g L h' m:=⟨⟨oL,es,ep,hkeep _ _ (by simpa using Ne.symm hIL) hL,rL⟩,fun b o e=>hkeep _ _ (fun z=>by rw [List.mem_singleton.mp z,hI0] at e;cases e) (F'.keep b o e),F'.above⟩
  obtain⟨oI',hoI⟩:=hlive _ _ hst'
  have N₂:News g L h' ((I,oI')::own):=fun p hp=>by
   rcases List.mem_cons.mp hp with rfl | hp
   ·exact⟨hoI,hIL,hI0⟩
   ·exact⟨hkeep _ _ (fun z=>hoff p hp (List.mem_singleton.mp z)) (N' p (.tail _ hp)).1,(N' p (.tail _ hp)).2⟩
  have hst3:∀ h4 own4 g4 m4,J g4 (i+1) m4 own4→News g4 L h4 ((I,oI')::own4)→St (i+1) h4:=fun h4 own4 g4 m4 J4 N4=>by
   refine W.frame _ h' h4 hst' fun b hb o e=>?_
   by_cases hbI:b=I
   ·subst hbI
    rw [hoI] at e;cases e;exact(N4 _ (.head _)).1
   ·obtain⟨o1,ho⟩:=hfp b hb hbI
    have ho1:=ho _ _ _ _ hJ;have ho2:=ho _ _ _ _ J4;have e1:=(N₂ _ (.tail _ ho1)).1;rw [e] at e1;cases e1;exact(N4 _ (.tail _ ho2)).1
  refine wpAny_mono (step s' g i v m own oI' _ _ hlt hP hJ F₂ N₂ hoff hos' hb') (fun _ s₃ h₃=>wpAny_mono h₃ (fun f s₄ h₄=>?_) fun _ _ z=>z) fun _ _ z=>z
  cases f with
  | brk=>exact h₄
  | ret v=>exact h₄
  | _ =>
   obtain⟨g',m'',own',hJ',F₄,N₄,off₄,hos₄,hb₄⟩:=h₄
   exact⟨n - (i+1),by omega,i+1,g',m'',own',oI',rfl,hlt,hJ',hst3 _ _ _ _ hJ' N₄,F₄,N₄,off₄,hos₄,hb₄⟩
 ·have hin:i=n:=Nat.le_antisymm hi (Nat.le_of_not_lt hlt)
  subst hin
  refine W.done s' _ _ hst fun h' tk hkeep=>?_
  dsimp only;obtain⟨oL,es,ep,hL,rL⟩:=F'.ns
  exact Wp (done _ g m own hJ ⟨⟨oL,es,ep,hkeep _ _ (by simpa using Ne.symm hIL) hL,rL⟩,fun b o e=>hkeep _ _ (fun z=>by rw [List.mem_singleton.mp z,hI0] at e;cases e) (F'.keep b o e),F'.above⟩
   (fun p hp=>⟨hkeep _ _ (fun z=>hoff p hp (List.mem_singleton.mp z)) (N' p (.tail _ hp)).1,(N' p (.tail _ hp)).2⟩) hos' hb')
theorem Jp{env:Env}{e t:Addr}{vs:List Value}{n x:Str}{b₀:Stmt}{suite:List Stmt}{pos np:Pos}{rest:List ExceptHandler}{Q:Flow→Shared→Prop}{news:List (Addr × Obj)}{X T':String}{s':Shared}(hf:env.frame=some L)
  (R:RaisedS base G (env::outer) e (.type X) t vs news s'.heap) (F:Fr g L G m) (K:Below A₀ base outer g) (hsm:G.UpToSlots s'.heap) (D:KtsDicts (outer.filterMap (·.frame)) g)
  (hexc:isSubtype (.type T') (.type "BaseException")=pure true) (hnt:isSubtype (.type ((Manifest.find? T').elim "type" fun y=>y.metatype)) (.type "tuple")=pure false) (hsub:isSubtype (.type X) (.type T')=pure true)
  (hname:∀ (s:Shared) g' (Q:Value→Shared→Prop) (E:Value→Shared→Prop),Fr g' L s.heap m→Below A₀ base outer g'→Q (.type T') s→wpAny (model prog w) ((A₀.deeper env).mark (some (.ref e))) (eval (.Name x np) env) Q E s)
  (hstore:∀ (s:Shared) g' (news:List (Addr × Obj)) (Q:Unit→Shared→Prop) (E:Value→Shared→Prop),Fr g' L s.heap m→News g' L s.heap news→(∀ h' tk,Fr g' L h' (fun y=>if y=n then some (.ref e) else m y)→News g' L h' news→Q () { s with heap:=h',toks:=tk })→wpAny (model prog w) ((A₀.deeper env).mark (some (.ref e))) (storeName env n (.ref e)) Q E s)
  (k:∀ h' g' news₂ tk,KtsTurn (outer.filterMap (·.frame)) g g'→Fr g' L h' (fun y=>if y=n then some (.ref e) else m y)→News g' L h' (news₂++news)→Got news₂ e t (.type X) vs→Below A₀ base outer g'→KtsDicts (outer.filterMap (·.frame)) g' →
   wpAny (model prog w) ((A₀.deeper env).mark (some (.ref e))) (execs (b₀::suite) env)
    (fun f s₄=>wpAny (model prog w) (A₀.deeper env) (do bindName env n .none;unbindBehindTheSuite env n pos) (fun _ s₅=>Q f s₅) E s₄)
    (AsSuiteRaised (model prog w) ((A₀.deeper env).mark (some (.ref e))) env n pos (notedBy (model prog w) ((A₀.deeper env).mark (some (.ref e))) env (cameBackBy (model prog w) (A₀.deeper env) env E)))
    { s' with heap:=h',toks:=tk }) :
  wpAny (model prog w) (A₀.deeper env) (noteFrame (.ref e) env)
   (fun _ s₂=>wpAny (model prog w) (A₀.deeper env) (setFlight (.ref e) none) (fun _ s₃ =>
    wpAny (model prog w) (A₀.deeper env) (handleBy (.ref e) env (.ExceptHandler (some (.Name x np)) (some n) (b₀::suite) pos::rest)) Q E s₃) E s₂) E s':=by
 obtain⟨⟨B,hB,hBG,hl,hfl,hnew⟩,htup⟩:=R
 have ef:(env::outer).filterMap (·.frame)=L::outer.filterMap (·.frame):=by rw [List.filterMap_cons,hf]
 rw [ef] at hBG
 have hL:B.get? L=none:=by
  obtain⟨_,⟨L',_,hf',hn',_⟩,_⟩:=hfl.2.2.1;rw [hf] at hf';rw [Option.some.inj hf'];exact hn'
 -- what stands in g and is no frame stands in B
 have old:∀ b o,g.get? b=some o→b∉outer.filterMap (·.frame)→B.get? b=some o:=fun b o q nm=>hBG b o (F.keep b o q) fun z=>by
  rcases List.mem_cons.mp z with z | z
  ·rw [z,kts_self F] at q;cases q
  ·exact nm z
 have turn:∀ h,B.StaysIn h→G.UpToSlots h→∃ g',KtsTurn (outer.filterMap (·.frame)) g g'∧Fr g' L h m∧Below A₀ base outer g':=fun h hb hs =>
  kts_ground (name:=Str.empty) (scope:=env.scope) (a:=0) (cd:=.none) K F hBG hb hs
 refine wpAny_looks_onW (Around.frames_deeper K.stack) hf hfl fun h₄ held₄ up₄=>?_
 refine wpAny_landsW held₄ fun h₅ held₅ up₅=>?_
 have up₅':=hsm.trans (up₄.trans up₅);obtain⟨g₅,T₅,F₅,K₅⟩:=turn h₅ held₅.1 up₅';obtain⟨ob,hob,hobc⟩:=held₅.there;refine wpAny_handleBy_builtin_as (X:=X) (T:=T') (b:=true) hexc hnt hsub (hname _ g₅ _ _ F₅ K₅ ⟨rfl,⟨ob,hob,hobc⟩,?_⟩)
 refine lands_againW held₅ fun h₆ held₆ up₆=>?_
 have up₆':=up₅'.trans up₆;obtain⟨g₆,T₆,F₆,K₆⟩:=turn h₆ held₆.1 up₆'
 obtain⟨oe,ws,hoe,hoec,hoed,hoe0⟩:=held₆.first
 obtain⟨ot,nt,hot,hotc,hotd⟩:=(htup.of_slots (up₄.trans up₅)).of_slots up₆
 -- the error and its texts are new
 have new:∀ b,B.get? b=none→(∀ o es c,g.get? b=some o→o.data=.dict es c→False)→g₆.get? b=none:=fun b hb hd=>T₆.none_ _ (by
  cases q:g.get? b with
  | none=>rfl
  | some o =>
   by_cases z:b∈outer.filterMap (·.frame)
   ·obtain⟨o',es,c,ho',hd'⟩:=D b z
    rw [q] at ho';cases ho';exact(hd o es c q hd').elim
   ·rw [old b o q z] at hb;cases hb)
 have ne₆:g₆.get? e=none:=new e held₆.2.1 fun o es c ho hd=>by
  obtain⟨sl,hs⟩:=up₆' _ _ (F.keep _ _ ho) (fun vs q=>by rw [hd] at q;cases q)
  rw [hoe] at hs;cases hs;have z:=hd.symm.trans hoed
  cases z
 have nt₆:g₆.get? t=none:=new t hnew fun o es c ho hd=>by
  obtain⟨sl,hs⟩:=up₆' _ _ (F.keep _ _ ho) (fun vs q=>by rw [hd] at q;cases q)
  rw [hot] at hs;cases hs;have z:=hd.symm.trans hotd
  cases z
 have N₆:=News.more F₆ (News.more F₆ News.nil hot (fun es n q=>by rw [hotd] at q;cases q) nt₆) hoe (fun es n q=>by rw [hoed] at q;cases q) ne₆
 refine hstore _ g₆ (_++news) _ _ F₆ (Fp N₆ fun q hq=>⟨held₆.1 _ _ (hl q hq).1,(fun z=>by have:=(hl q hq).1;rw [z,hL] at this;cases this),T₆.none_ _ (kts_none F.keep (hl q hq).2.1)⟩) fun h₇ tk F₇ N₇=>?_
 exact k h₇ g₆ _ _ T₆ F₇ N₇ ⟨oe,ot,ws,nt,.head _,.tail _ (.head _),hoec,hoed,hoe0,hotc,hotd⟩ K₆ (D.turn T₆)
theorem Kl{M:Model}{n:Str}{pos:Pos}{Q:Unit→Shared→Prop}{news:List (Addr × Obj)}(F:Fr h₀ L s.heap m)(N:News h₀ L s.heap news)
  (h:∀ h' v,Fr h₀ L h' (fun x=>if x=n then v else m x)→News h₀ L h' news→Q () { s with heap:=h',toks:=s.toks+1 })
  (hk:scope.kind=.function:=by rfl) (hl:(envX name scope L a cd cl).kindOf n=some .local:=by rfl) :
  wpAny M A (do bindName (envX name scope L a cd cl) n .none;unbindBehindTheSuite (envX name scope L a cd cl) n pos) Q E s :=
 wpAny_nameGoes_keeps hl F.ns (by show (scope.kind == .class || (scope.kind == .module && L != mainGlobals))=false;rw [hk];rfl) fun h' v hn hs=>h h' v (F.set hn hs) (N.set hs)
theorem Vj{own:List (Addr × Obj)}{K:Frag}{p:Program}{zw:List Str}{zr:ExcName→Option Value}{mg mb:Str→Option Value}{R:Result→Shared→Prop}{name qual:Str}{params:Arguments}{body:List Stmt}{scope:Scope}{dV kV doc pm cdv ct oc:Value}{an od:Option Addr}{osl:Array (Option Value)}{f:Addr}{args:Args}{binds:List (Str × Value)}(m0:Str→Option Value)
  (H:Ok g os own s) (X:K.In g) (T:Top p zw zr mg mb g) (ho:K.lookup f=some ⟨oc,od,.func (fnOf name qual params body scope dV kV doc pm an cdv ct),osl⟩) (hcd:codeIn K cdv qual=true) (zq:A.depth<recursionLimit) (zg:BindsTo s (fnOf name qual params body scope dV kV doc pm an cdv ct) args binds) (hkind:∀ n,∀ x∈binds,scope.names.lookup x.1=some .local∨(scope.names.lookup x.1=some .cell∧((cellsFrom n scope.names []).lookup x.1).isSome=true)) (hnd:((cellsFrom 0 scope.names []).map (·.1)).Nodup) (hm:∀ L',bindL (envOfC qual scope L' f cdv).kindOf binds (fun _=>none)=m0)
  (h:∀ L' h₁ tk cells,Fr g L' h₁ m0→News g L' h₁ (cells++own)→CellsAre (bindC (envOfC qual scope L' f cdv).kindOf binds fun _=>none) (cellsFrom (L'+1) scope.names []) cells→(∀ p∈own,p.1<L') →
   wpAny (model prog w) (A.deeper (envOfC qual scope L' f cdv)) (execs body (envOfC qual scope L' f cdv))
    (fun fl s'=>R (.ok (.ret (match fl with | .ret v=>v | _=>.none))) s')
    (fun e s'=>wpAny (model prog w) (A.deeper (envOfC qual scope L' f cdv)) (leaving (envOfC qual scope L' f cdv) e) (fun _ s''=>R (.error e) s'') (fun e' s''=>R (.error e') s'') s')
    { s with heap:=h₁,toks:=tk }) (hco:scope.isCoroutine=false) (hgen:scope.isGenerator=false) (hk:scope.kind=.function):codeAny (model prog w) A (.call (.ref f) args) R s:=by
 refine codeAny_call_function zq ((X.keeps H.keep) _ _ ho) rfl hco hgen rfl (codeRec_of (X.keeps H.keep) hcd) (zg _ _ _ _ ?_)
 refine wpAny_newFunctionEnv_cells hk (hkind _) fun env' he s' x=>?_
 subst he
 refine⟨(T.nolimit.keeps H.keep).keeps x.toInCall.keep,codeAny_func ?_⟩
 obtain⟨h₁,tk,rfl,_⟩:=x.done;have hk₁:=x.toInCall.keep
 obtain⟨cells,NC,Y⟩:=Cl.news (h₀:=s.heap) (Nat.le_refl _) fun n c hm=>⟨x.cell n c (lookup_of_mem_nodup (cellsFrom_names scope.names 0 (s.heap.objs.size+1) [] [] rfl ▸ hnd) hm),x.above n c hm⟩
 have F0:Fr g s.heap.objs.size h₁ m0:=by
  rw [← hm s.heap.objs.size]
  exact⟨x.toInCall.ns,fun b o e=>hk₁ b o (H.keep b o e),H.size⟩
 refine h s.heap.objs.size h₁ tk cells F0 (fun p hp=>?_) Y (fun p hp=>Heap.lt_size (H.own p hp).1)
 ·rcases List.mem_append.mp hp with hp | hp
  ·refine⟨(NC p hp).1,(NC p hp).2.1,?_⟩
   cases q:g.get? p.1 with
   | none=>rfl
   | some o=>have:=H.keep _ _ q;rw [(NC p hp).2.2] at this;cases this
  ·exact⟨hk₁ _ _ (H.own p hp).1,Nat.ne_of_lt (Heap.lt_size (H.own p hp).1),(H.own p hp).2⟩
end
end Mine
namespace Mine
open PySem.Calls
local macro_rules | `(tactic| walk_at "eval Name")=>`(tactic| k_dflt (first
  | (refine' nameX_L ?_ ?_ ?_ ?_ ?_;k_asm;rotate_left 2;iterate 3 rfl;k_whole)
  | (refine' nameX_K ?_ ?_ ?_ ?_ ?_ ?_ ?_;iterate 3 k_asm;rotate_left 2;iterate 2 rfl;k_is;k_whole)
  | (refine' nameX_B ?_ ?_ ?_ ?_ ?_ ?_ ?_ ?_ ?_;iterate 3 k_asm;rotate_left 4;iterate 2 rfl;k_is;boot_fast;decide;k_whole)))
local macro_rules | `(tactic| walk_at "ite")=>`(tactic| first | refine ite_pos (by with_reducible assumption) ?_ | refine ite_neg (ne_true_of_eq_false (by with_reducible assumption)) ?_ | refine ite_pos (Eq.refl true) ?_ | refine ite_neg Bool.false_ne_true ?_ | refine ite_pos Bool.not_false ?_ | refine ite_neg nnt ?_ | (k_closed;k_dflt (first | refine ite_pos (by decide) ?_ | refine ite_neg (by decide) ?_)) | ((refine Bo ?_ ?_<;>intro hq)<;>try (exfalso;revert hq;decide;done)))
local macro_rules | `(tactic| walk_at "getMethod ref")=>`(tactic| k_dflt (refine method_inst (by k_asm) (by k_asm) (by k_inst) (by k_is) (by k_is) (by k_is) (by k_get) ?_;k_whole))
local macro_rules | `(tactic| walk_at "getAttr ref")=>`(tactic| k_dflt (refine get_own (by k_asm) (by k_asm) (by k_inst) (by k_is) (by k_is) (by k_is) (by k_is) (by k_get) (by k_handed) ?_;k_whole))
local macro_rules | `(tactic| walk_at "callWith ref")=>`(tactic| k_dflt (refine callWith_K (by k_asm) (by k_is) ?_;k_whole))
local macro_rules | `(tactic| walk_at "exec Assign")=>`(tactic| refine wpAny_Assign_Name ?_)
local macro_rules | `(tactic| walk_at "exec Expr")=>`(tactic| refine wpAny_Expr_any ?_)
local macro_rules | `(tactic| walk_at "exec If")=>`(tactic| refine wpAny_If ?_)
local macro_rules | `(tactic| walk_at "eval Call Attribute")=>`(tactic| refine MethodCall_ ?_)
local macro_rules | `(tactic| walk_at "eval Call")=>`(tactic| refine Call_ ?_)
local macro_rules | `(tactic| walk_at "isTrue Compare")=>`(tactic| refine wpAny_isTrue_Compare1 ?_)
local macro_rules | `(tactic| walk_at "eval Attribute Name")=>`(tactic| refine Attribute_Name_ ?_)
local macro_rules | `(tactic| walk_at "eval Tuple")=>`(tactic| refine Tuple_ ?_)
local macro_rules | `(tactic| walk_at "eval IfExp")=>`(tactic| with_reducible refine IfExp_ ?_)
local macro_rules | `(tactic| walk_at "execs cons")=>`(tactic| refine wpAny_execs_cons ?_)
local macro_rules | `(tactic| walk_at "execs nil")=>`(tactic| refine wpAny_execs_nil ?_)
local macro_rules | `(tactic| walk_at "in")=>`(tactic| (intros;(try k_sweep)))
local macro_rules | `(tactic| walk_at "storeName")=>`(tactic| (k_dflt (refine storeX_L (by k_asm) (by k_asm) ?_ (by rfl) (by rfl);k_whole);walk_at "eps";walk_at "in"))
local macro_rules | `(tactic| walk_at "compareOp Eq str str")=>`(tactic| refine eq_str ?_)
local macro_rules | `(tactic| walk_at "truthy bool")=>`(tactic| refine wpAny_truthy_bool ?_)
local macro_rules | `(tactic| walk_at "isTrue BoolOp")=>`(tactic| with_reducible first | refine isTrue_and_nil ?_ | refine isTrue_or_nil ?_ | refine isTrue_and ?_ | refine isTrue_or ?_)
local macro_rules | `(tactic| walk_at "go1")=>`(tactic| first | (k_unfold;(try dsimp only)) | ((with_reducible first | show wpAny _ _ _ _ _ _ | show (if _ then _ else _) | show _∧_ | show _≤sizeLine);walk1))
local macro_rules | `(tactic| walk_at "go")=>`(tactic| first | walk_at "go1" | (dsimp only;walk_at "go1"))
local macro_rules | `(tactic| walk_at "l_mem")=>`(tactic| repeat' (first | exact List.forall_mem_nil _ | refine Fc (by k_mem) ?_))
local macro_rules | `(tactic| walk_at "l_ne")=>`(tactic| ((try dsimp only);first | (with_reducible assumption) | (exact Ne.symm (by with_reducible assumption)) | k_ne))
local macro_rules | `(tactic| walk_at "l_allne")=>`(tactic| first | (with_reducible assumption) | exact List.forall_mem_nil _ | (refine Fc ?_ ?_;walk_at "l_ne";walk_at "l_allne"))
local macro_rules | `(tactic| walk_at "l_notin")=>`(tactic| repeat' (first | exact List.forall_mem_nil _ | refine Fc ?_ ?_ | exact An | refine Ab ?_ ?_ | walk_at "l_ne"))
local macro_rules | `(tactic| walk_at "l_upd")=>`(tactic| first | (refine' Upd.head ?a;(case a=>walk_at "l_allne")) | (refine' Upd.tail ?a ?b;(case a=>walk_at "l_ne");(case b=>walk_at "l_upd")))
local macro_rules | `(tactic| walk_at "eps")=>`(tactic| with_reducible refine let_mvar% ?n:=(fun z=>?_:Fa _);Aw neI (tie:Tie _ (type_of% ?n)) (?n _))
local macro_rules | `(tactic| walk_at "eps2")=>`(tactic| with_reducible refine let_mvar% ?n:=(fun y z=>?_:Fa2 _);Ah neI (Ar:Tie _ (type_of% ?n)) (?n _ _))
local macro_rules | `(tactic| walk_at "newList")=>`(tactic| (k_dflt (refine newList_K (by k_asm) (by k_asm) ?_;k_whole);walk_at "eps2";intro F' N' l1;(try k_lt l1);(try k_sweep)))
local macro_rules | `(tactic| walk_at "newTuple")=>`(tactic| (k_dflt (refine kup_newTuple (by k_asm) (by k_asm) ?_ ?_;rotate_left;kmk_size);walk_at "eps2";intro F' N' l1;(try k_lt l1);(try k_sweep)))
local macro_rules | `(tactic| walk_at "call builtin:list.append")=>`(tactic| (k_dflt (refine append_K (by k_asm) (by k_asm) (by k_upd) ?_ ?_;rotate_left;size_fits;k_whole);walk_at "eps";walk_at "in"))
local macro_rules | `(tactic| walk_at "setAttr ref")=>`(tactic| (k_dflt (refine set_dict (by k_asm) (by k_asm) (by k_asm) (by k_inst) (by rfl) (by k_is) (by k_is) (by k_is) (by k_is) (by k_get) (by k_put) (by k_upd) (by k_units) ?_;k_whole);walk_at "eps";walk_at "in"))
local macro_rules | `(tactic| walk_at "eval Dict nil nil")=>`(tactic| (k_dflt (refine newDict_K (by k_asm) (by k_asm) (TopRead.nolimit (by k_asm)) ?_;k_whole);walk_at "eps2";walk_at "eps";intro F' N' l1 lo' hs' fs' hi' fi';(try k_lt l1);(try k_sweep)))
local macro_rules | `(tactic| walk_at "l_in")=>`(tactic| with_reducible first | exact List.mem_cons_self | assumption | (refine Ml _ ?_;walk_at "l_in") | (refine Mr _ ?_;walk_at "l_in") | (refine List.mem_cons_of_mem _ ?_;walk_at "l_in"))
local macro_rules | `(tactic| walk_at "l_sub")=>`(tactic| repeat' (first | (with_reducible first | exact List.forall_mem_nil _ | refine Fp ?_ ?_ | refine Fc ?_ ?_) | walk_at "l_in" | (intro q hq;walk_at "l_in")))
local macro_rules | `(tactic| k_ne)=>`(tactic| first | exact Je (by with_reducible assumption) (by k_mem) | exact Jd (by with_reducible assumption) (by k_mem))
local macro_rules | `(tactic| walk_at "s_le")=>`(tactic| first | with_reducible assumption | exact Nat.le_of_eq (by kln_w) | exact Et | (apply KT.len_app;walk_at "s_le";walk_at "s_le"))
local macro_rules | `(tactic| walk_at "And")=>`(tactic| ((with_reducible show Str.length (_++_)≤sizeLine∧wpAny _ _ (joinParts _ _) _ _ _);k_dflt (refine And.intro (Er (by walk_at "s_le") (by exact rfl)) ?_)))
theorem rs1:True∧True:=by
 (try walk1);(try w_top off)
 all_goals (first | trivial | exact ⟨trivial,trivial⟩)
section

local macro_rules | `(tactic| walk_at "call type:set nil nil")=>`(tactic| (k_dflt (refine kse_new (by k_asm) (by k_asm) ?_);with_reducible refine let_mvar% ?n:=(fun x y z=>?_:Fa3 _);Au neI (Cv:Tie _ (type_of% ?n)) (?n _ _ _);intro F' N' l1 hs' hz';(try k_lt l1)))
local macro_rules | `(tactic| walk_at "call builtin:str.rsplit")=>`(tactic| (refine Sx (by k_asm) (by k_asm) (by assumption) (by assumption) ?_;intro h' t1 t2 tk F' N';(try k_sweep)))
local macro_rules | `(tactic| walk_at "compareOp NotIn")=>`(tactic| ((with_reducible show wpAny _ _ (compareOp CmpOp.NotIn (.str _ _) (.ref _)) _ _ _);refine Mt (by k_asm) (by k_mem) (by assumption) ?_))
theorem map_if{a k:Str}{o:Option Value}{v:Value}{l:List (Str × Value)}:(fun y=>if y=a then o else List.lookup y ((k,v)::l))=fun y=>if y=a then o else if y=k then some v else List.lookup y ((k,v)::l):=by
 funext y
 by_cases h:y=k
 ·subst h;simp
 ·simp [h]
theorem Td{n:Int}(h:(!(n != 0))=true):n=0:=by simpa using h
theorem nil_of{n:Int}(h:¬ (n != 0)=true):n=0:=by simpa using h
noncomputable def Io(w:World)(A:Around)(s:Shared)(g:Heap)(os:OsState)(p:Program)(zw:List Str)(zr:ExcName→Option Value)(mg mb:Str→Option Value)(R:Result→Shared→Prop)(x dx dl:Addr)(hsh:Nat→Int)(tkn:Nat→Tok)(wr da de ns pm pr:Addr)(rs rd:Bool)(ig:Int)(its:Array Value)(ep n:Nat)(q uri tag:Str)(tq:Tok)(dlv nlv:List (Addr × Array Value))(dps nps:List Pr)(ev:Value)(base:Heap)(outer:List Env)(args:List Value)(v:Value):Prop :=
 ∀ (X:(hd03.heap_39 w.params).In g) (T:Top p zw zr mg mb g) (H:Ok g os [(x,instObj 150 dx),(dx,dictOf (wd hsh tkn (.bool false) (.bool false) .none ev (.bool false) .none .none .none wr da de ns pm pr rs rd ig) ep),(dl,listOf its n)] s) (hDe:g.IsList de ((dlv++[(dl,its)]).map fun p=>.ref p.1).toArray) (hDl:∀ p∈dlv,g.IsList p.1 p.2) (hDz:∀ p∈dlv++[(dl,its)],(p.2.size:Int)<2 ^ 63) (hDp:All2 (As g) (comes (dlv++[(dl,its)])) dps) (hDn:dps.length<3000) (hDs:∀ q∈dps,q.1.length≤1000∧q.2.length≤1000) (hNs:g.IsList ns (nlv.map fun p=>.ref p.1).toArray) (hNl:∀ p∈nlv,g.IsList p.1 p.2∧(p.2.size:Int)<2 ^ 63) (hNp:All2 (As g) (comes nlv) nps) (hNq:∀ q∈nps,q.1.length≤1000∧q.2.length≤1000) (hxl:x≠dl) (hdl:dx≠dl) (hitz:its.size≤sizeLine) (hh:A.handled=none) (zq:A.depth<900) (hq:q.length≤1000) (hut:uri.length≤1000∧tag.length≤1000) (hn:(args=[.str q tq]∧v=.none∧Ek q uri tag=true)∨(∃ tu,args=[.str q tq,v]∧v=.str uri tu∧tag=q)) (hN1:∀ s' txt ta t1 t2 t3,qn dps nps uri tag=some (txt,none)→x<ta→dx<ta→dl<ta→Ok g os [(ta,Ad #[.str txt t1,.str tag t2,.str uri t3]),(x,instObj 150 dx),(dx,dictOf (wd hsh tkn (.bool false) (.bool false) .none ev (.bool false) .none .none .none wr da de ns pm pr rs rd ig) ep),(dl,listOf its n)] s'→R (.ok (.ret (.ref ta))) s') (hN2:∀ s' txt pf ta tb t1 t2 t3 t4 t5,qn dps nps uri tag=some (txt,some (uri,pf))→x<ta→dx<ta→dl<ta→x<tb→dx<tb→dl<tb→ta≠tb→Ok g os [(ta,Ad #[.str txt t1,.str tag t2,.str uri t3]),(tb,Ad #[.str uri t4,.str pf t5]),(x,instObj 150 dx),(dx,dictOf (wd hsh tkn (.bool false) (.bool false) .none ev (.bool false) .none .none .none wr da de ns pm pr rs rd ig) ep),(dl,listOf (its.push (.ref tb)) (n+1))] s'→R (.ok (.ret (.ref ta))) s') (hK:qn dps nps uri tag=none→Below A base outer g) (hE:∀ (e t:Addr) (msg:Str) (tm:Tok) (s':Shared),qn dps nps uri tag=none→msg=Str.ofString "Namespace \""++uri++Str.ofString "\" is not declared in scope"→RaisedS base g outer e (.type "ValueError") t [.str msg tm] [(x,instObj 150 dx),(dx,dictOf (wd hsh tkn (.bool false) (.bool false) .none ev (.bool false) .none .none .none wr da de ns pm pr rs rd ig) ep),(dl,listOf its n)] s'.heap→g.UpToSlots s'.heap→s'.os=os→AllBare s'.gens→R (.error (.ref e)) s'),codeAny (model rw_dn0283_03.row.prog w) A (.call (.ref 90) ⟨.ref x::args,[]⟩) R s
theorem Mo:∀ {w A s g os p zw zr mg mb R x dx dl hsh tkn wr da de ns pm pr rs rd ig its ep n q uri tag tq dlv nlv dps nps ev base outer args v},Io w A s g os p zw zr mg mb R x dx dl hsh tkn wr da de ns pm pr rs rd ig its ep n q uri tag tq dlv nlv dps nps ev base outer args v:=by
 refine @(Aa (Al neW)<|@(Aa neI<|@(Aa neI<|@(Aa neI<|@(Eg neI<|@(Ey neI<|let_mvar% ?n:=(fun w A s g os p zw zr mg mb R x dx dl hsh tkn wr da de ns pm pr rs rd ig its ep n q uri tag tq dlv nlv dps nps ev base outer args v=>?_:∀ a b c d e f g h i j k l m n o p q r s t u v w x y z a1 b1 c1 d1 e1 f1 g1 h1 i1 j1 k1 l1 m1 n1 o1,Io a b c d e f g h i j k l m n o p q r s t u v w x y z a1 b1 c1 d1 e1 f1 g1 h1 i1 j1 k1 l1 m1 n1 o1);?n _ _ _ _ _ _ _ _ _ _ _ _ _ _ _ _ _ _ _ _ _ _ _ _ _ _ _ _ _ _ _ _ _ _ _ _ _ _ _ _ _))))))
 intro X T H hDe hDl hDz hDp hDn hDs hNs hNl hNp hNq hxl hdl hitz hh zq hq hut hn hN1 hN2 hK hE
 have hq1:q.length≤sizeLine:=by rw [sizeLine_eq];exact(Nl fun hn1=>fk [_] (.e V0 (.k 1000) (.e (.s (.k 16777216)) V0 K0)) rfl hq hn1)
 have hDe':g.IsList de (dlv.map (fun(p:Addr × Array Value)=>Value.ref p.1)++[Value.ref dl]).toArray:=by simpa using hDe
 revert X
 k_fill
 intro X
 refine' Dy (binds:=[("self",.ref x),("qname",.str q tq),("uri",v)]) H X T ?k6 ?k7 (Nat.lt_trans zq (by decide)) ?k9 ?kB ?_ ?c1 ?c2 ?c3 ?c4
 (case k6=>k_is)
 (case k7=>k_is)
 (case k9 =>
  rcases hn with ⟨ha,hv,_⟩ | ⟨tu,ha,hv,_⟩
  ·rw [ha,hv];exact binds_K (X.keeps H.keep) rfl (by k_is) rfl rfl rfl
  ·rw [ha];first | exact BindsTo.of_eq rfl | exact binds_K (X.keeps H.keep) rfl (by k_is) rfl rfl rfl)
 (case kB=>exact locs rfl)
 (case c1=>exact rfl)
 (case c2=>exact rfl)
 (case c3=>exact rfl)
 (case c4=>decide)
 k_whole;walk_at "eps2";rename_i L' h1;intro F0 N1 l1;k_lt l1;(try dsimp only)
 have F1:Fr g L' h1 (fun y=>List.lookup y [("uri",v),("qname",.str q tq),("self",.ref x)]):=F0
 clear F0
 (try k_fold)
 -- the name is cut
 refine wpAny_execs_cons (Bz (R:=fun s'=>∃ h2 t1 t2 k,s'={ s with heap:=h2,toks:=k }∧Fr g L' h2 (fun y=>if y="tag" then some (.str tag t2) else if y="uri" then some (.str uri t1) else List.lookup y [("uri",v),("qname",.str q tq),("self",.ref x)]) ∧
   News g L' h2 [(x,instObj 150 dx),(dx,dictOf (wd hsh tkn (.bool false) (.bool false) .none ev (.bool false) .none .none .none wr da de ns pm pr rs rd ig) ep),(dl,listOf its n)]) ?_ ?_)
 ·rcases hn with ⟨_,hv,hn⟩ | ⟨tu,_,hv,htq⟩
  ·rw [hv] at F1
   unfold Ek at hn
   cases hc:Txt.slice q none (some 1) == "{" with
   | true =>
    rw [hc] at hn;have hq2:(Txt.slice q (some 1) none).length≤sizeLine:=Nat.le_trans (Txt.slice_le ..) hq1
    k_steps
    rename Fr ..=>F2
    rename News ..=>N2
    refine Dx F2 N2 ⟨_,(N2 _ (List.Mem.head _)).1,rfl,_,rfl⟩ hh fun h3 tk3 F3 N3=>?_
    refine Wp ⟨rfl,h3,_,_,tk3,rfl,by rw [hv];exact F3,News.sub N3 fun p hp=>List.Mem.tail _ hp⟩
   | false =>
    rw [hc] at hn
    obtain⟨hu,ht⟩:uri=Str.empty∧tag=q:=by simpa using hn
    subst hu ht
    k_steps
    rename Fr ..=>F2
    rename News ..=>N2
    refine Hz F2 N2 ⟨_,(N2 _ (List.Mem.head _)).1,rfl,_,rfl⟩ hh fun h3 tk3 F3 N3=>?_
    refine Wp ⟨rfl,h3,_,_,tk3,rfl,by rw [hv];exact F3,News.sub N3 fun p hp=>List.Mem.tail _ hp⟩
  ·rw [hv] at F1
   subst htq
   repeat' (first | ((with_reducible show Flow.next=_∧_);exact⟨rfl,_,_,_,_,rfl,by rw [hv,← map_if];assumption,by assumption⟩) | walk_at "go")
 ·refine exs4 ?_;with_reducible refine let_mvar% ?zq2:=(fun s99 h2 t1 t2 k=>?_:Fa5 _);Ci Bc (Hf:Tie _ (type_of% ?zq2)) (?zq2 _ _ _ _ _);rintro⟨rfl,F2,N2⟩
  dsimp only
  k_steps
  refine wpAny_For ?_
  k_steps
  rename Fr ..=>F3
  rename News ..=>N3
  refine wpAny_call (Rj (lvs:=dlv++[(dl,its)]) (binds:=[("self",.ref x),("ns_stack",.ref de),("_reversed",.type "reversed")]) F3 N3 X T.nolimit H.os H.bare hh (by k_is) (by k_is) ?zq ?zg (locs rfl) rfl rfl (Ae F3.keep hDe) ?hlv ?_ rfl rfl rfl rfl rfl rfl (by decide))
  case zq=>exact Nat.lt_of_lt_of_le (Nat.succ_lt_succ zq) (by decide)
  case zg=>exact binds_K (X.keeps F3.keep) rfl (by k_is) rfl rfl rfl
  case hlv =>
   intro z hz;refine⟨?_,hDz z hz⟩
   rcases List.mem_append.mp hz with q | q
   ·exact Ae F3.keep (hDl z q)
   ·rw [List.mem_singleton.mp q]
    exact⟨_,(N3 (dl,listOf its n) (by k_mem)).1,rfl,_,rfl⟩
  with_reducible refine let_mvar% ?zq3:=(fun s4 B ga gn oG priv=>?_:Fa6 _);Gg Bc (tie6:Tie _ (type_of% ?zq3)) (?zq3 _ _ _ _ _ _);intro F4 N4 hG4 hos4 hb4 G4 hsB hlB hnB hLB hga hpB
  dsimp only;refine wpAny_pyIter_gen (hG4.at (N4 _ (.head _)).1) ?_;rename_i sa hA led hsI hsS l2 hB;have F5:=F4
  rw [So (a:="prefix") (b:="u") (m0:=fun y=>if y="prefixes_seen" then some (.ref sa) else if y="tag" then some (.str tag t2) else if y="uri" then some (.str uri t1) else List.lookup y [("uri",v),("qname",.str q tq),("self",.ref x)]) rfl rfl] at F5
  refine Nh (fun ps own=>∃ seen oS nn,own=[(sa,oS),(x,instObj 150 dx),(dx,dictOf (wd hsh tkn (.bool false) (.bool false) .none ev (.bool false) .none .none .none wr da de ns pm pr rs rd ig) ep),(dl,listOf its n)]∧scan uri dps []=scan uri ps seen∧Bi rw_dn0283_03.row.prog w oS (fun z=>decide (z∈seen)) nn∧nn≤seen.length∧seen.length+ps.length=dps.length∧∀ q∈ps,q.1.length≤1000∧q.2.length≤1000) hh (Nat.lt_of_lt_of_le (Nat.succ_lt_succ zq) (by decide)) T.nolimit hG4 hga hLB ?hstack ?hown ?step ?done ⟨[],_,0,rfl,rfl,Ob.congr (by simp),Nat.le_refl _,by simp,hDs⟩ F5 N4 hDp G4 hos4 hb4 rfl rfl rfl
  case hstack =>
   rintro hp ps own hk Nk ⟨seen,oS,nn,rfl,_⟩
   refine⟨hsB,Ae hk hDe,fun z hz=>⟨hlB z hz,?_,hDz z hz⟩⟩
   rcases List.mem_append.mp hz with q | q
   ·exact Ae hk (hDl z q)
   ·rw [List.mem_singleton.mp q]
    exact⟨_,(Nk (dl,listOf its n) (by k_mem)).1,rfl,_,rfl⟩
  case hown =>
   rintro ps own ⟨seen,oS,nn,rfl,_⟩ z hz;refine .inl ?_
   simp only [List.mem_cons,List.not_mem_nil,or_false] at hz
   rcases hz with rfl | rfl | rfl | rfl
   ·have z:=hnB _ (.head _);exact z
   ·exact hnB (x,_) (.tail _ (.head _))
   ·exact hnB (dx,_) (.tail _ (.tail _ (.head _)))
   ·exact hnB (dl,_) (.tail _ (.tail _ (.tail _ (.head _))))
  case step =>
   with_reducible refine let_mvar% ?zq5:=(fun s5 q5 ta tb ps5 own5 rest=>?_:Fa7 _);Ap Bc (Cm:Tie _ (type_of% ?zq5)) (?zq5 _ _ _ _ _ _ _);refine Nd ?_;with_reducible refine let_mvar% ?zq6:=(fun seen oS nn=>?_:Fa3 _);Au neI (Cv:Tie _ (type_of% ?zq6)) (?zq6 _ _ _);rintro⟨rfl,hsc,hS,hnn,zd,hlq⟩ F6 N6 hrest hos6 hb6
   dsimp only [List.cons_append,List.nil_append] at N6
   have hne:∀ p∈(x,instObj 150 dx)::(dx,dictOf (wd hsh tkn (.bool false) (.bool false) .none ev (.bool false) .none .none .none wr da de ns pm pr rs rd ig) ep)::(dl,listOf its n)::rest,p.1≠sa:=by
    refine Fc (Nat.ne_of_lt l2.1) (Fc (Nat.ne_of_lt l2.2.1) (Fc (Nat.ne_of_lt l2.2.2) (fun p hp=>Nat.ne_of_gt (Nat.lt_of_lt_of_le (hnB _ (.head _)) (hrest p hp)))))
   have hn4:nn<4000:=by simp only [List.length_cons] at zd;exact(Nt fun hn1=>fk [_,_,_,_] (.e (.s V0) (.k 3000) (.e V1 V2 (.e (.a V2 (.s V3)) V0 (.e (.k 4000) V1 K0)))) rfl hDn hnn (El zd) hn1)
   cases hf:decide (q5.1=uri∧q5.2∉seen) with
   | true =>
    have hcond:q5.1=uri∧q5.2∉seen:=of_decide_eq_true hf;have hu:(q5.1 == uri)=true:=beq_iff_eq.mpr hcond.1
    have hs:(!decide (q5.2∈seen))=true:=by simpa using hcond.2
    have hz1:q5.2.length≤1000:=(hlq q5 (.head _)).2;have hz2:tag.length≤1000:=hut.2
    repeat' (first
      | walk_at "go")
    all_goals (rename Fr ..=>F7;rename News ..=>N7;rename_i l7)
    ·refine leaveM_ F7 (News.drop2 N7) hos6 hb6 fun H'=>hN1 _ _ _ _ _ _ ?_ l7.2.1 l7.2.2.1 l7.2.2.2.1 H'
     rw [Kp (p:=q5.2) (seen:=seen) (by rw [hsc,scan,if_pos hcond]),Pf (by first | assumption | exact bne_iff_ne.mp (by assumption))]
    ·refine leaveM_ F7 (News.drop2 N7) hos6 hb6 fun H'=>hN1 _ _ _ _ _ _ ?_ l7.2.1 l7.2.2.1 l7.2.2.2.1 H'
     rw [Kp (p:=q5.2) (seen:=seen) (by rw [hsc,scan,if_pos hcond]),Pe (by first | assumption | exact nil_of (by assumption))]
   | false =>
    have hcond:¬ (q5.1=uri∧q5.2∉seen):=of_decide_eq_false hf
    have hsc':scan uri dps []=scan uri ps5 (q5.2::seen):=by rw [hsc,scan,if_neg hcond]
    cases hu:q5.1 == uri with
    | false =>
     repeat' (first
      | ((with_reducible show wpAny _ _ (getMethod (.ref _) "add" _) _ _ _);refine getMethod_set_add (Bi.at hS (News.get (by k_asm) (by k_mem))) ?_)
      | ((with_reducible show wpAny _ _ (call (.builtin "set.add") _) _ _ _);refine Sz (by k_asm) (by k_asm) (List.Mem.head _) hS hn4 (fun o'=>Upd.head hne) fun h7 o7 F7 N7 hS7=>Wp ⟨_,_,_,⟨q5.2::seen,o7,_,rfl,hsc',hS7.congr fun z=>by simp [Bool.or_comm,eq_comm],by simp only [List.length_cons];split<;>lia,by simp only [List.length_cons] at zd ⊢;exact(Nat.le_antisymm (Nl fun hn2=>fk [_,_,_] (.e (.a V0 (.s V1)) V2 (.e (.s V2) (.a (.s V0) V1) K0)) rfl (El zd) hn2) (Nl fun hn3=>fk [_,_,_] (.e V0 (.a V1 (.s V2)) (.e (.a (.a (.s V1) V2) K1) V0 K0)) rfl (Es zd) hn3)),fun z hz=>hlq z (.tail _ hz)⟩,F7,N7,hos6,rfl⟩)
      | walk_at "go")
    | true =>
     have hs:(!decide (q5.2∈seen))=false:=by
      have:=beq_iff_eq.mp hu
      simp only [Bool.not_eq_false',decide_eq_true_eq]
      exact Classical.byContradiction fun z=>hcond ⟨this,z⟩
     repeat' (first
      | ((with_reducible show wpAny _ _ (getMethod (.ref _) "add" _) _ _ _);refine getMethod_set_add (Bi.at hS (News.get (by k_asm) (by k_mem))) ?_)
      | ((with_reducible show wpAny _ _ (call (.builtin "set.add") _) _ _ _);refine Sz (by k_asm) (by k_asm) (List.Mem.head _) hS hn4 (fun o'=>Upd.head hne) fun h7 o7 F7 N7 hS7=>Wp ⟨_,_,_,⟨q5.2::seen,o7,_,rfl,hsc',hS7.congr fun z=>by simp [Bool.or_comm,eq_comm],by simp only [List.length_cons];split<;>lia,by simp only [List.length_cons] at zd ⊢;exact(Nat.le_antisymm (Nl fun hn2=>fk [_,_,_] (.e (.a V0 (.s V1)) V2 (.e (.s V2) (.a (.s V0) V1) K0)) rfl (El zd) hn2) (Nl fun hn3=>fk [_,_,_] (.e V0 (.a V1 (.s V2)) (.e (.a (.a (.s V1) V2) K1) V0 K0)) rfl (Es zd) hn3)),fun z hz=>hlq z (.tail _ hz)⟩,F7,N7,hos6,rfl⟩)
      | walk_at "go")
  case done =>
   with_reducible refine let_mvar% ?zq7:=(fun s6 own6 p6 u6=>?_:Fa4 _);Ax Bc (Cy:Tie _ (type_of% ?zq7)) (?zq7 _ _ _ _);refine Nd ?_;with_reducible refine let_mvar% ?zq8:=(fun seen oS nn=>?_:Fa3 _);Au neI (Cv:Tie _ (type_of% ?zq8)) (?zq8 _ _ _);rintro⟨rfl,hsc,hS,hnn,zd,hlq⟩ F6 N6 hos6 hb6
   dsimp only
   have hsc1:scan uri dps []=(none,seen):=by rw [hsc,scan]
   by_cases hret:uri=Str.empty∧Str.empty∉seen
   ·have hs:(!decide (Str.ofString ""∈seen))=true:=by have:=hret.2;simp only [Bool.not_eq_true',decide_eq_false_iff_not];exact this
    repeat' (first | walk_at "go")
    ·rename Fr ..=>F7;rename News ..=>N7;rename_i l7
     refine leaveM_ F7 (News.drop2 N7) hos6 hb6 fun H'=>hN1 _ _ _ _ _ _ (Wq hsc1 hret) l7.2.1 l7.2.2.1 l7.2.2.2 H'
    ·exfalso
     rename_i hz
     exact hz (by rw [hret.1];rfl)
   ·repeat' ((fail_if_success (with_reducible show wpAny _ _ (execs (Stmt.If (Expr.BoolOp _ _ _) _ _ _::_) _) _ _ _));walk_at "go")
    refine' wpAny_execs_cons (Bz (R:=fun s'=>∃ k,s'={ s6 with toks:=k }) ?c1 ?c2)
    case c1 =>
     rcases Classical.em (Str.ofString ""∈seen) with hA | hA
     ·have hs:(!decide (Str.ofString ""∈seen))=false:=by simpa using hA
      repeat' (first | ((with_reducible show Flow.next=_∧_);exact⟨rfl,_,rfl⟩) | walk_at "go")
     ·have hs:(!decide (Str.ofString ""∈seen))=true:=by simpa using hA
      repeat' (first | ((with_reducible show Flow.next=_∧_);exact⟨rfl,_,rfl⟩) | ((with_reducible show Flow.ret _=_∧_);exfalso;exact hret ⟨Cj (Td (by assumption)),hA⟩) | walk_at "go")
    refine exs1 ?_;with_reducible refine let_mvar% ?zq9:=(fun s98 k6=>?_:Fa2 _);Ah Bc (Ar:Tie _ (type_of% ?zq9)) (?zq9 _ _);rintro rfl
    dsimp only
    repeat' (first
      | ((with_reducible show wpAny _ _ (exec (Stmt.For _ _ _ _ _) _) _ _ _);refine wpAny_For ?_)
      | ((with_reducible show wpAny _ _ (call (.ref 75) _) _ _ _);refine wpAny_call (Rj (lvs:=nlv) (binds:=[("self",.ref x),("ns_stack",.ref ns),("_reversed",.type "reversed")]) F6 N6 X T.nolimit hos6 hb6 hh (by k_is) (by k_is) (Nat.lt_of_lt_of_le (Nat.succ_lt_succ zq) (by decide)) (binds_K (X.keeps F6.keep) rfl (by k_is) rfl rfl rfl) (locs rfl) rfl rfl (Ae F6.keep hNs) (fun z hz=>⟨Ae F6.keep (hNl z hz).1,(hNl z hz).2⟩) ?_ rfl rfl rfl rfl rfl rfl (by decide)))
      | walk_at "go")
    with_reducible refine let_mvar% ?zq4:=(fun s7 B7 ga7 gn7 oG7 priv7=>?_:Fa6 _);Gg Bc (tie6:Tie _ (type_of% ?zq4)) (?zq4 _ _ _ _ _ _);intro F7 N7 hG7 hos7 hb7 G7 hsB7 hlB7 hnB7 hLB7 hga7 hpB7
    dsimp only;refine wpAny_pyIter_gen (hG7.at (N7 _ (.head _)).1) ?_
    refine Nh (fun ps own=>own=[(sa,oS),(x,instObj 150 dx),(dx,dictOf (wd hsh tkn (.bool false) (.bool false) .none ev (.bool false) .none .none .none wr da de ns pm pr rs rd ig) ep),(dl,listOf its n)]∧find uri nps=find uri ps∧∀ q∈ps,q.1.length≤1000∧q.2.length≤1000) hh (Nat.lt_of_lt_of_le (Nat.succ_lt_succ zq) (by decide)) T.nolimit hG7 hga7 hLB7 ?hstack ?hown ?step ?done ⟨rfl,rfl,hNq⟩ F7 N7 hNp G7 hos7 hb7 rfl rfl rfl
    case hstack =>
     rintro hp ps own hk Nk _
     exact⟨hsB7,Ae hk hNs,fun z hz=>⟨hlB7 z hz,Ae hk (hNl z hz).1,(hNl z hz).2⟩⟩
    case hown =>
     rintro ps own ⟨rfl,_⟩ z hz;exact .inl (hnB7 z hz)
    case step =>
     with_reducible refine let_mvar% ?zq10:=(fun s8 q8 ta tb ps8 own8 rest=>?_:Fa7 _);Ap Bc (Cm:Tie _ (type_of% ?zq10)) (?zq10 _ _ _ _ _ _ _);rintro⟨rfl,hfd,hlq8⟩ F8 N8 hrest hos8 hb8
     dsimp only [List.cons_append,List.nil_append] at N8
     cases hu:q8.1 == uri with
     | false =>
      have hfd':find uri nps=find uri ps8:=by rw [hfd,find,if_neg (fun z=>by rw [z] at hu;simp at hu)]
      repeat' (first
       | ((with_reducible show Exists _);exact⟨_,_,_,⟨rfl,hfd',fun z hz=>hlq8 z (.tail _ hz)⟩,F8,N8,hos8,rfl⟩)
       | walk_at "go")
     | true =>
      have hrest':∀ p∈rest,p.1≠dl:=fun p hp=>Nat.ne_of_gt (Nat.lt_of_lt_of_le (hnB7 (dl,listOf its n) (.tail _ (.tail _ (.tail _ (.head _))))) (hrest p hp))
      have hz1:q8.2.length≤1000:=(hlq8 q8 (.head _)).2;have hz2:tag.length≤1000:=hut.2
      repeat' (first
       | ((with_reducible show wpAny _ _ (subscriptTail _ _ (.ref de) (.int (-1) _)) _ _ _);refine Cu (vs:=dlv.map fun p=>.ref p.1) (v:=.ref dl) (Ae (Fr.keep (by k_asm)) hDe') ?_)
       | ((with_reducible show wpAny _ _ (call (.builtin "list.append") [.ref dl,_]) _ _ _);rename_i l8;refine append_K (by k_asm) (by k_asm) (Upd.tail (Nat.ne_of_gt l8.2.2.2.1) (Upd.tail (Nat.ne_of_gt l2.2.2) (Upd.tail hxl (Upd.tail hdl (Upd.head hrest'))))) ?_ hitz;walk_at "eps";rename_i h';intro F' N';(try k_sweep))
       | walk_at "go")
      all_goals (rename Fr ..=>F9;rename News ..=>N9;rename_i l9)
      ·refine leaveM_ F9 (News.drop3 N9) hos8 hb8 fun H'=>hN2 _ _ q8.2 _ _ _ _ _ _ _ ?_ l9.2.2.1 l9.2.2.2.1 l9.2.2.2.2.1 l8.2.1 l8.2.2.1 l8.2.2.2.1 (Nat.ne_of_gt l9.1) H'
       rw [Sw hsc1 hret (by rw [hfd,find,if_pos (beq_iff_eq.mp hu)]),Pf (by first | assumption | exact bne_iff_ne.mp (by assumption))]
      ·refine leaveM_ F9 (News.drop3 N9) hos8 hb8 fun H'=>hN2 _ _ q8.2 _ _ _ _ _ _ _ ?_ l9.2.2.1 l9.2.2.2.1 l9.2.2.2.2.1 l8.2.1 l8.2.2.1 l8.2.2.2.1 (Nat.ne_of_gt l9.1) H'
       rw [Sw hsc1 hret (by rw [hfd,find,if_pos (beq_iff_eq.mp hu)]),Pe (by first | assumption | exact nil_of (by assumption))]
    case done =>
     with_reducible refine let_mvar% ?zq11:=(fun s8 own8 p8 u8=>?_:Fa4 _);Ax Bc (Cy:Tie _ (type_of% ?zq11)) (?zq11 _ _ _ _);rintro⟨rfl,hfd,_⟩ F8 N8 hos8 hb8
     dsimp only;have hqn:=qn_none (tag:=tag) hsc1 hret (hfd.trans rfl)
     by_cases he:uri=Str.empty
     ·rw [if_pos he] at hqn
      have hz0:(uri.length:Int)=0:=by rw [he];rfl
      repeat' ((fail_if_success (with_reducible show wpAny _ _ (exec (Stmt.Raise _ _ _) _) _ _ _));walk_at "go")
      ·rename Fr ..=>F9;rename News ..=>N9;rename_i l9
       refine leaveM_ F9 (News.drop2 N9) hos8 hb8 fun H'=>hN1 _ _ _ _ _ _ hqn l9.2.1 l9.2.2.1 l9.2.2.2 H'
      ·exfalso
       rename_i hz
       exact hz (by rw [he];rfl)
     ·rw [if_neg he] at hqn
      have hz0:((uri.length:Int) != 0)=true:=bne_iff_ne.mpr fun z=>he (Cj z)
      have hut1:uri.length≤1000:=hut.1
      repeat' ((fail_if_success (with_reducible show wpAny _ _ (exec (Stmt.Raise _ _ _) _) _ _ _));walk_at "go")
      ·exact absurd (Cj (Td (by assumption))) he
      ·refine Raise_madeB PySem.F.excCall_ValueError PySem.F.excRaise_ValueError hh ?_
       iterate 3 walk_at "go"
       (all_goals try (exact rfl))
       iterate 9 walk_at "go"
       have hs1:(Str.empty++Str.ofString "Namespace \""++uri).length≤1100:=by rw [Str.empty_append,size_cat];have:(Str.ofString "Namespace \"").length=11:=rfl;omega
       have hs2:(Str.empty++Str.ofString "Namespace \""++uri++Str.ofString "\" is not declared in scope").length≤sizeLine:=by rw [size_cat];have:(Str.ofString "\" is not declared in scope").length=26:=rfl;rw [sizeLine_eq];omega
       iterate 3 walk_at "go"
       with_reducible refine joinParts_nilE ?_
       with_reducible refine joinParts_nil (hsz:=hs2) ?_
       iterate 1 walk_at "go"
       refine⟨by show 1≤sizeLine;rw [sizeLine_eq];decide,fun h9 e9 hx9=>?_⟩
       rename Fr ..=>F9
       rename News ..=>N9
       with_reducible refine leave_raiseS (hK hqn) (Heap.MadeExc.of hx9) F9 (News.sub N9 fun p hp=>List.Mem.tail _ hp) (fun h' t9 R9 _ U9=>?_) rfl
       exact hE _ _ _ _ _ hqn (by rw [Str.empty_append]) R9 U9 hos8 hb8
end
section

noncomputable def Ny(w:World)(A:Around)(s:Shared)(g:Heap)(os:OsState)(p:Program)(zw:List Str)(zr:ExcName→Option Value)(mg mb:Str→Option Value)(R:Result→Shared→Prop)(x dx dl:Addr)(hsh:Nat→Int)(tkn:Nat→Tok)(wr da de ns pm pr:Addr)(rs rd:Bool)(ig:Int)(its:Array Value)(ep n:Nat)(q uri tag:Str)(tq:Tok)(dlv nlv:List (Addr × Array Value))(dps nps:List Pr)(ev:Value):Prop :=
 ∀ (X:(hd03.heap_39 w.params).In g) (T:Top p zw zr mg mb g) (H:Ok g os [(x,instObj 150 dx),(dx,dictOf (wd hsh tkn (.bool false) (.bool false) .none ev (.bool false) .none .none .none wr da de ns pm pr rs rd ig) ep),(dl,listOf its n)] s) (hDe:g.IsList de ((dlv++[(dl,its)]).map fun p=>.ref p.1).toArray) (hDl:∀ p∈dlv,g.IsList p.1 p.2) (hDz:∀ p∈dlv++[(dl,its)],(p.2.size:Int)<2 ^ 63) (hDp:All2 (As g) (comes (dlv++[(dl,its)])) dps) (hDn:dps.length<3000) (hDs:∀ q∈dps,q.1.length≤1000∧q.2.length≤1000) (hNs:g.IsList ns (nlv.map fun p=>.ref p.1).toArray) (hNl:∀ p∈nlv,g.IsList p.1 p.2∧(p.2.size:Int)<2 ^ 63) (hNp:All2 (As g) (comes nlv) nps) (hNq:∀ q∈nps,q.1.length≤1000∧q.2.length≤1000) (hxl:x≠dl) (hdl:dx≠dl) (hitz:its.size≤sizeLine) (hh:A.handled=none) (zq:A.depth<900) (hq:q.length≤1000) (hut:uri.length≤1000∧tag.length≤1000) (hn:Ek q uri tag=true) (hN1:∀ s' txt ta t1 t2 t3,qn dps nps uri tag=some (txt,none)→x<ta→dx<ta→dl<ta→Ok g os [(ta,Ad #[.str txt t1,.str tag t2,.str uri t3]),(x,instObj 150 dx),(dx,dictOf (wd hsh tkn (.bool false) (.bool false) .none ev (.bool false) .none .none .none wr da de ns pm pr rs rd ig) ep),(dl,listOf its n)] s'→R (.ok (.ret (.ref ta))) s') (hN2:∀ s' txt pf ta tb t1 t2 t3 t4 t5,qn dps nps uri tag=some (txt,some (uri,pf))→x<ta→dx<ta→dl<ta→x<tb→dx<tb→dl<tb→ta≠tb→Ok g os [(ta,Ad #[.str txt t1,.str tag t2,.str uri t3]),(tb,Ad #[.str uri t4,.str pf t5]),(x,instObj 150 dx),(dx,dictOf (wd hsh tkn (.bool false) (.bool false) .none ev (.bool false) .none .none .none wr da de ns pm pr rs rd ig) ep),(dl,listOf (its.push (.ref tb)) (n+1))] s'→R (.ok (.ret (.ref ta))) s') (hsome:qn dps nps uri tag≠none),codeAny (model rw_dn0283_03.row.prog w) A (.call (.ref 90) ⟨[.ref x,.str q tq],[]⟩) R s
theorem Kq:∀ {w A s g os p zw zr mg mb R x dx dl hsh tkn wr da de ns pm pr rs rd ig its ep n q uri tag tq dlv nlv dps nps ev},Ny w A s g os p zw zr mg mb R x dx dl hsh tkn wr da de ns pm pr rs rd ig its ep n q uri tag tq dlv nlv dps nps ev:=by
 intro w A s g os p zw zr mg mb R x dx dl hsh tkn wr da de ns pm pr rs rd ig its ep n q uri tag tq dlv nlv dps nps ev X T H hDe hDl hDz hDp hDn hDs hNs hNl hNp hNq hxl hdl hitz hh zq hq hut hn hN1 hN2 hsome
 exact Mo (base:=g) (outer:=[]) (args:=[.str q tq]) (v:=.none) X T H hDe hDl hDz hDp hDn hDs hNs hNl hNp hNq hxl hdl hitz hh zq hq hut (.inl ⟨rfl,rfl,hn⟩) hN1 hN2 (fun z=>absurd z hsome) (fun _ _ _ _ _ z=>absurd z hsome)
end
section

open PyProof.Rows.LCg
section
variable{w:World}{A:Around}{E:Value→Shared→Prop}{s:Shared}{g:Heap}{os:OsState}{p:Program}{zw:List Str}{zr:ExcName→Option Value}{mg mb:Str→Option Value}{L:Addr}{m:Str→Option Value}{news:List (Addr × Obj)}
 {x dx:Addr} {hsh:Nat→Int} {tkn:Nat→Tok} {wr da de ns pm pr:Addr} {rs rd:Bool} {ep:Nat} {dl:Addr}
noncomputable abbrev WQ(ev:Value)(x dx:Addr)(hsh:Nat→Int)(tkn:Nat→Tok)(wr da de ns pm pr:Addr)(rs rd:Bool)(ep:Nat)(dl:Addr)(itsd:Array Value)(nd:Nat):List (Addr × Obj) :=
 [(x,instObj 150 dx),(dx,dictOf (wd hsh tkn (.bool false) (.bool false) .none ev (.bool false) .none .none .none wr da de ns pm pr rs rd 0) ep),(dl,listOf itsd nd)]
noncomputable def Sv(w:World)(A:Around)(s:Shared)(E:Value→Shared→Prop)(g:Heap)(os:OsState)(p:Program)(zw:List Str)(zr:ExcName→Option Value)(mg mb:Str→Option Value)(L:Addr)(m:Str→Option Value)(news:List (Addr × Obj))(x dx:Addr)(hsh:Nat→Int)(tkn:Nat→Tok)(wr da de ns pm pr:Addr)(rs rd:Bool)(ep:Nat)(dl qm:Addr)(itsd:Array Value)(nd nns:Nat)(dlv nlv:List (Addr × Array Value))(lower nps lv:List Pr)(n:Str)(tn:Tok)(prs rest:List (Addr × Obj))(Q:Value→Shared→Prop)(ev:Value):Prop :=
 ∀ (X:(hd03.heap_39 w.params).In g) (T:Top p zw zr mg mb g) (hh:A.handled=none) (zq:A.depth<900) (F:Fr g L s.heap m) (N:News g L s.heap news) (hos:s.os=os) (hb:AllBare s.gens) (hqm:(qm,methodObj (.ref 90) (.ref x))∈news) (h1:∀ q∈WQ ev x dx hsh tkn wr da de ns pm pr rs rd ep dl itsd nd,q∈news) (h2:∀ q∈rest,q∈news) (h3:∀ q∈rest,q.1≠x∧q.1≠dx∧q.1≠dl) (hDe:g.IsList de ((dlv++[(dl,(#[]:Array Value))]).map fun p=>.ref p.1).toArray) (hDl:∀ p∈dlv,g.IsList p.1 p.2) (hDz:∀ p∈dlv,(p.2.size:Int)<2 ^ 63) (hDp:All2 (As g) (comes dlv) lower) (hDn:lower.length<2900) (hDs:∀ q∈lower,q.1.length≤200∧q.2.length≤200) (hNs:(ns,listOf (nlv.map fun p=>.ref p.1).toArray nns)∈rest) (hNl:∀ p∈nlv,g.IsList p.1 p.2∧(p.2.size:Int)<2 ^ 63) (hNp:All2 (As g) (comes nlv) nps) (hNq:∀ q∈nps,q.1.length≤200∧q.2.length≤200) (hpr:∀ q∈prs,q∈rest) (hits:All2 (Ak prs) itsd.toList lv) (hlv:lv.length≤50) (hlq:∀ q∈lv,q∈nps) (hg:Cc n=true) (hk:known nps (cutName n).1) (hxl:x≠dl) (hdl:dx≠dl) (h:∀ s' txt o ta t1 t2 t3 new its' nd',qn (lv++lower) nps (cutName n).1 (cutName n).2=some (txt,o)→All2 (Ak (new++prs)) its'.toList (lv++o.toList)→(∀ q∈(ta,Ad #[.str txt t1,.str (cutName n).2 t2,.str (cutName n).1 t3])::new,q.1≠x∧q.1≠dx∧q.1≠dl∧∀ r∈rest,q.1≠r.1)→(∀ q∈new,ta≠q.1) →
   Fr g L s'.heap m→News g L s'.heap ((ta,Ad #[.str txt t1,.str (cutName n).2 t2,.str (cutName n).1 t3])::(new++(WQ ev x dx hsh tkn wr da de ns pm pr rs rd ep dl its' nd'++rest)))→s'.os=os→AllBare s'.gens→Q (.ref ta) s'),wpAny (model rw_dn0283_03.row.prog w) A (call (.ref qm) [.str n tn]) Q E s
theorem qcall:∀ {w A s E g os p zw zr mg mb L m news x dx hsh tkn wr da de ns pm pr rs rd ep dl qm itsd nd nns dlv nlv lower nps lv n tn prs rest Q ev},Sv w A s E g os p zw zr mg mb L m news x dx hsh tkn wr da de ns pm pr rs rd ep dl qm itsd nd nns dlv nlv lower nps lv n tn prs rest Q ev:=by
 refine @(Aa (Al neW)<|@(Aa neI<|@(Aa neI<|@(Aa neI<|@(Aa neI<|@(Ef neI<|let_mvar% ?n:=(fun w A s E g os p zw zr mg mb L m news x dx hsh tkn wr da de ns pm pr rs rd ep dl qm itsd nd nns dlv nlv lower nps lv n tn prs rest Q ev=>?_:∀ a b c d e f g h i j k l m n o p q r s t u v w x y z a1 b1 c1 d1 e1 f1 g1 h1 i1 j1 k1 l1 m1 n1 o1 p1 q1,Sv a b c d e f g h i j k l m n o p q r s t u v w x y z a1 b1 c1 d1 e1 f1 g1 h1 i1 j1 k1 l1 m1 n1 o1 p1 q1);?n _ _ _ _ _ _ _ _ _ _ _ _ _ _ _ _ _ _ _ _ _ _ _ _ _ _ _ _ _ _ _ _ _ _ _ _ _ _ _ _ _ _ _))))))
 intro X T hh zq F N hos hb hqm h1 h2 h3 hDe hDl hDz hDp hDn hDs hNs hNl hNp hNq hpr hits hlv hlq hg hk hxl hdl h;obtain⟨g1,g2,g3,g4⟩:=Cg hg
 obtain⟨H₂,K₂,r₂,back⟩:=Eb (own:=WQ ev x dx hsh tkn wr da de ns pm pr rs rd ep dl itsd nd) (rest:=rest) F N hos hb h1 h2 (fun q hq z=>by
  obtain⟨a1,a2,a3⟩:=h3 q hq
  simp only [List.map_cons,List.map_nil,List.mem_cons,List.not_mem_nil,or_false] at z
  rcases z with z | z | z
  ·exact a1 z
  ·exact a2 z
  ·exact a3 z)
 generalize hideAll s.heap ((WQ ev x dx hsh tkn wr da de ns pm pr rs rd ep dl itsd nd).map (·.1))=g₂ at H₂ K₂ r₂ back
 have hcm:comes (dlv++[(dl,itsd)])=itsd.toList++comes dlv:=by simp [comes]
 have hneq:∀ {q:Addr × Obj} {own':List (Addr × Obj)} {s':Shared},Ok g₂ os own' s'→q∈own'→∀ r∈rest,q.1≠r.1:=fun H' hq r hr=>Gl H' r₂ hq hr
 refine call_meth N hqm ?_
 refine Kq (dlv:=dlv) (nlv:=nlv) (dps:=lv++lower) (nps:=nps) (uri:=(cutName n).1) (tag:=(cutName n).2) (X.keeps K₂) (T.keeps K₂) H₂ ?_ (fun q hq=>Ae K₂ (hDl q hq)) ?_ ?_ (by rw [List.length_append];exact(Nt fun hn1=>fk [_,_] (.e (.s V0) (.k 2900) (.e V1 (.k 50) (.e (.k 3000) (.a V1 V0) K0))) rfl hDn hlv hn1)) ?_ ⟨_,r₂ _ hNs,rfl,_,rfl⟩ (fun q hq=>⟨Ae K₂ (hNl q hq).1,(hNl q hq).2⟩) (hNp.mono fun _ _ z=>z.keeps K₂) (fun q hq=>⟨Nat.le_trans (hNq q hq).1 (by decide),Nat.le_trans (hNq q hq).2 (by decide)⟩) hxl hdl ?_ hh zq (Nat.le_trans g2 (by decide)) ⟨Nat.le_trans g3 (by decide),Nat.le_trans g4 (by decide)⟩ g1 ?_ ?_ (Gy hk)
 ·have:=Ae K₂ hDe
  rw [List.map_append] at this ⊢;exact this
 ·intro q hq
  rcases List.mem_append.mp hq with hq | hq
  ·exact hDz q hq
  ·rw [List.mem_singleton.mp hq]
   have:itsd.size=lv.length:=by rw [← hits.length];simp
   show (itsd.size:Int)<2 ^ 63
   rw [this]
   have e:(2:Int) ^ 63=9223372036854775808:=by decide
   lia
 ·rw [hcm]
  exact(hits.mono fun _ _ z=>Bx (fun q hq=>r₂ q (hpr q hq)) z).append (hDp.mono fun _ _ z=>z.keeps K₂)
 ·intro q hq
  rcases List.mem_append.mp hq with hq | hq
  ·have:=hNq q (hlq q hq);exact⟨Nat.le_trans this.1 (by decide),Nat.le_trans this.2 (by decide)⟩
  ·have:=hDs q hq;exact⟨Nat.le_trans this.1 (by decide),Nat.le_trans this.2 (by decide)⟩
 ·have:itsd.size=lv.length:=by rw [← hits.length];simp
  rw [this,sizeLine_eq];exact(Nl fun hn1=>fk [_] (.e V0 (.k 50) (.e (.s (.k 16777216)) V0 K0)) rfl hlv hn1)
 ·intro s7 txt ta t1 t2 t3 hqn l1 l2 l3 H7
  obtain⟨F7,N7,o7,b7⟩:=back _ _ H7
  refine h s7 txt none ta t1 t2 t3 [] itsd nd hqn (by simpa using hits) ?_ (fun _ z=>nomatch z) F7 N7 o7 b7
  intro q hq;rw [List.mem_singleton.mp hq];exact⟨Nat.ne_of_gt l1,Nat.ne_of_gt l2,Nat.ne_of_gt l3,hneq H7 (.head _)⟩
 ·intro s7 txt pf ta tb t1 t2 t3 t4 t5 hqn l1 l2 l3 l4 l5 l6 l7 H7
  obtain⟨F7,N7,o7,b7⟩:=back _ _ H7;refine h s7 txt (some ((cutName n).1,pf)) ta t1 t2 t3 [(tb,Ad #[.str (cutName n).1 t4,.str pf t5])] (itsd.push (.ref tb)) (nd+1) hqn ?_ ?_ ?_ F7 N7 o7 b7
  ·rw [Array.toList_push]
   exact(hits.mono fun _ _ z=>z.mono fun _ hq=>.tail _ hq).append (.cons ⟨tb,t4,t5,rfl,.head _⟩ .nil)
  ·intro q hq
   simp only [List.mem_cons,List.not_mem_nil,or_false] at hq
   rcases hq with rfl | rfl
   ·exact⟨Nat.ne_of_gt l1,Nat.ne_of_gt l2,Nat.ne_of_gt l3,hneq H7 (.head _)⟩
   ·exact⟨Nat.ne_of_gt l4,Nat.ne_of_gt l5,Nat.ne_of_gt l6,hneq H7 (.tail _ (.head _))⟩
  ·intro q hq
   rw [List.mem_singleton.mp hq];exact l7
end
end
section

open PyProof.Rows.LCg
noncomputable abbrev Cd:Scope:={ kind:=.function,names:=[(".0",.local),("n",.local),("parse_qname",.free)],isGenerator:=false,isCoroutine:=false,more:=[] }
theorem Ts{prog:Program}{w:World}:(dictOf [] 0).IsDictOf (PySem.strKind prog w) []:=⟨#[],0,⟨rfl,rfl,rfl⟩,rfl,fun e he=>by simp at he,.nil,List.nodup_nil⟩
noncomputable def Jo(w:World)(A:Around)(E:Value→Shared→Prop)(env:Env)(iter:PySem.Expr)(cl:List (Str × Addr))(q1 q2 q3 q4 q5 q6 q7:Pos)(Q:Flow→Shared→Prop)(xv:Value)(s₁:Shared):Prop :=
 wpAny (model rw_dn0283_03.row.prog w) A (pyIter xv) (fun it s₂=>wpAny (model rw_dn0283_03.row.prog w) A newDict (fun acc s₃=>wpAny (model rw_dn0283_03.row.prog w) A (newFunctionEnv Cd env.globals cl [] env.qual none .none (some env)) (fun cenv s₄ =>
   codeAny (model rw_dn0283_03.row.prog w) A (.compStart (.DictComp (.Name "n" q1) (.Call (.Name "parse_qname" q2) [.Name "n" q3] [] q4) [⟨.Name "n" q5,iter,[],0⟩] Cd q6) 0 it acc { cenv with scope:=relabel Cd env })
    (compPost (model rw_dn0283_03.row.prog w) A E (some (assign (.Name "parsed_qnames" q7) env)) (fun _ s'=>Q .next s') acc cenv.locals) s₄) E s₃) E s₂) E s₁
section
variable{w:World}{A:Around}{E:Value→Shared→Prop}{s:Shared}{g:Heap}{os:OsState}{p:Program}{zw:List Str}{zr:ExcName→Option Value}{mg mb:Str→Option Value}{L:Addr}{m:Str→Option Value}
 {x dx:Addr} {hsh:Nat→Int} {tkn:Nat→Tok} {wr da de ns pm pr:Addr} {rs rd:Bool} {ep:Nat} {dl:Addr} {env:Env}
theorem Rw{iter:PySem.Expr}{cl:List (Str × Addr)}{q1 q2 q3 q4 q5 q6 q7 q8:Pos}{Q:Flow→Shared→Prop}
  (hsw:swapsWith (.DictComp (.Name "n" q1) (.Call (.Name "parse_qname" q2) [.Name "n" q3] [] q4) [⟨.Name "n" q5,iter,[],0⟩] Cd q6) (some (.Name "parsed_qnames" q7)) q8.line env=pure true)
  (hclos:closureFor Cd env=pure cl) (hfs:∀ x,foldedSetIterable iter env x=pure x)
  (h:wpAny (model rw_dn0283_03.row.prog w) A (eval iter env) (Jo w A E env iter cl q1 q2 q3 q4 q5 q6 q7 Q) E s) :
  wpAny (model rw_dn0283_03.row.prog w) A (exec (.Assign [.Name "parsed_qnames" q7] (.DictComp (.Name "n" q1) (.Call (.Name "parse_qname" q2) [.Name "n" q3] [] q4) [⟨.Name "n" q5,iter,[],0⟩] Cd q6) q8) env) Q E s:=by
 rw [exec_Assign_Name_used _ _ _ _ hsw];refine Wb (wpAny_standAt (Wb ?_))
 show wpAny _ A (do let _ ← comprehension (.DictComp (.Name "n" q1) (.Call (.Name "parse_qname" q2) [.Name "n" q3] [] q4) [⟨.Name "n" q5,iter,[],0⟩] Cd q6) Cd env _ newDict false (eval iter env) (some (assign (.Name "parsed_qnames" q7) env))) _ _ s
 exact Wb (wpAny_mono (wpAny_comprehension_free (use:=some (assign (.Name "parsed_qnames" q7) env)) (Q:=fun _ s'=>Q .next s') rfl hfs hclos rfl (by decide) h) (fun _ s' hq=>Wp (Wp hq)) fun _ _ e=>e)
noncomputable def Gb(w:World)(A:Around)(s:Shared)(E:Value→Shared→Prop)(g:Heap)(os:OsState)(p:Program)(zw:List Str)(zr:ExcName→Option Value)(mg mb:Str→Option Value)(L:Addr)(m:Str→Option Value)(x dx:Addr)(hsh:Nat→Int)(tkn:Nat→Tok)(wr da de ns pm pr:Addr)(rs rd:Bool)(ep:Nat)(dl:Addr)(env:Env)(qm ax c:Addr)(oc1:Obj)(nns c1 nd0:Nat)(dlv nlv:List (Addr × Array Value))(lower nps:List Pr)(O4 tmp:List (Addr × Obj))(outn:List (Str × Tok))(iter:PySem.Expr)(cl:List (Str × Addr))(q1 q2 q3 q4 q5 q6 q7:Pos)(Q:Flow→Shared→Prop)(ev:Value):Prop :=
 ∀ (X:(hd03.heap_39 w.params).In g) (T:Top p zw zr mg mb g) (hh:A.handled=none) (zq:A.depth<900) (hL:env.locals=L) (hcl:cl.lookup (Str.ofString "parse_qname")=some c) (hkp:∀ C,(compEnvC Cd cl C env).kindOf (Str.ofString "parse_qname")=some .cell) (hkn:∀ C,(compEnvC Cd cl C env).kindOf (Str.ofString "n")=some .local) (hy:env.kindOf (Str.ofString "parsed_qnames")=some .local) (hp:(env.scope.kind == .class || (env.scope.kind == .module && env.locals != env.globals))=false) (hDe:g.IsList de ((dlv++[(dl,(#[]:Array Value))]).map fun p=>Value.ref p.1).toArray) (hDl:∀ p∈dlv,g.IsList p.1 p.2) (hDz:∀ p∈dlv,(p.2.size:Int)<2 ^ 63) (hDp:All2 (As g) (comes dlv) lower) (hDn:lower.length<2900) (hDs:∀ q∈lower,q.1.length≤200∧q.2.length≤200) (hNs:(ns,listOf (nlv.map fun p=>Value.ref p.1).toArray nns)∈O4) (hNl:∀ p∈nlv,g.IsList p.1 p.2∧(p.2.size:Int)<2 ^ 63) (hNp:All2 (As g) (comes nlv) nps) (hNq:∀ q∈nps,q.1.length≤200∧q.2.length≤200) (hxl:x≠dl) (hdl:dx≠dl) (hrest:∀ q∈O4++tmp,q.1≠x∧q.1≠dx∧q.1≠dl) (hax:(ax,listOf (strValues outn).toArray c1)∈tmp) (hcc:(c,oc1)∈tmp) (hcd:oc1.data=.cell (some (.ref qm))) (hqm:(qm,methodObj (.ref 90) (.ref x))∈tmp) (hol:outn.length≤40) (hnodup:(outn.map (·.1)).Nodup) (hng:∀ n∈outn.map (·.1),Cc n=true∧known nps (cutName n).1) (F₁:Fr g L s.heap m) (N₁:News g L s.heap (WQ ev x dx hsh tkn wr da de ns pm pr rs rd ep dl #[] nd0++(O4++tmp))) (os₁:s.os=os) (b₁:AllBare s.gens) (fin:∀ (s1:Shared) D oD itsd nd kvs tups prs,All2 (Ak prs) itsd.toList (declare lower nps (outn.map (·.1)) [] []).1→oD.IsDictOf (PySem.strKind rw_dn0283_03.row.prog w) kvs→All2 (Cw tups) kvs (declare lower nps (outn.map (·.1)) [] []).2 →
   (∀ q∈(D,oD)::(tups++prs),q.1≠x∧q.1≠dx∧q.1≠dl∧∀ r∈O4++tmp,q.1≠r.1) →
   Fr g L s1.heap (fun y=>if y="parsed_qnames" then some (.ref D) else m y)→News g L s1.heap (WQ ev x dx hsh tkn wr da de ns pm pr rs rd ep dl itsd nd++(O4++((D,oD)::(tups++(prs++tmp)))))→s1.os=os→AllBare s1.gens→Q .next s1),Jo w A E env iter cl q1 q2 q3 q4 q5 q6 q7 Q (.ref ax) s
theorem Pu:∀ {w A s E g os p zw zr mg mb L m x dx hsh tkn wr da de ns pm pr rs rd ep dl env qm ax c oc1 nns c1 nd0 dlv nlv lower nps O4 tmp outn iter cl q1 q2 q3 q4 q5 q6 q7 Q ev},Gb w A s E g os p zw zr mg mb L m x dx hsh tkn wr da de ns pm pr rs rd ep dl env qm ax c oc1 nns c1 nd0 dlv nlv lower nps O4 tmp outn iter cl q1 q2 q3 q4 q5 q6 q7 Q ev:=by
 refine @(Aa (Al neW)<|@(Aa neI<|@(Aa neI<|@(Aa neI<|@(Aa neI<|@(Aa neI<|@(Eg neI<|let_mvar% ?n:=(fun w A s E g os p zw zr mg mb L m x dx hsh tkn wr da de ns pm pr rs rd ep dl env qm ax c oc1 nns c1 nd0 dlv nlv lower nps O4 tmp outn iter cl q1 q2 q3 q4 q5 q6 q7 Q ev=>?_:∀ a b c d e f g h i j k l m n o p q r s t u v w x y z a1 b1 c1 d1 e1 f1 g1 h1 i1 j1 k1 l1 m1 n1 o1 p1 q1 r1 s1 t1 u1 v1 w1 x1 y1 z1 a2,Gb a b c d e f g h i j k l m n o p q r s t u v w x y z a1 b1 c1 d1 e1 f1 g1 h1 i1 j1 k1 l1 m1 n1 o1 p1 q1 r1 s1 t1 u1 v1 w1 x1 y1 z1 a2);?n _ _ _ _ _ _ _ _ _ _ _ _ _ _ _ _ _ _ _ _ _ _ _ _ _ _ _ _ _ _ _ _ _ _ _ _ _ _ _ _ _ _ _ _ _ _ _ _ _ _ _ _ _)))))))
 intro X T hh zq hL hcl hkp hkn hy hp hDe hDl hDz hDp hDn hDs hNs hNl hNp hNq hxl hdl hrest hax hcc hcd hqm hol hnodup hng F₁ N₁ os₁ b₁ fin;unfold Jo
 have hknown:∀ n∈outn.map (·.1),known nps (cutName n).1:=fun n hn=>(hng n hn).2
 refine Jq (o0:=dictOf [] 0) (target:=.Name "n" q5) (ipos:=iter.pos)
  (emit:=fun D C=>do
   let kv ← eval (.Name "n" q1) (compEnvC Cd cl C env)
   let vv ← holding [kv] (eval (.Call (.Name "parse_qname" q2) [.Name "n" q3] [] q4) (compEnvC Cd cl C env))
   standAt { q1 with endLine:=q4.endLine,endCol:=q4.endCol }
   holding [kv,vv] (dictSet D kv vv))
  (its:=(strValues outn).toArray) (ax:=ax) (h₀:=g) (L:=L) (m:=m) (news:=WQ ev x dx hsh tkn wr da de ns pm pr rs rd ep dl #[] nd0++(O4++tmp)) (os:=os)
  (fun D rem own=>∃ l1 l2 itsd nd oD kvs tups prs,outn=l1++l2∧rem=strValues l2∧own=(D,oD)::(WQ ev x dx hsh tkn wr da de ns pm pr rs rd ep dl itsd nd++(tups++(prs++(O4++tmp)))) ∧
   All2 (Ak prs) itsd.toList (declare lower nps (l1.map (·.1)) [] []).1∧oD.IsDictOf (PySem.strKind rw_dn0283_03.row.prog w) kvs∧All2 (Cw tups) kvs (declare lower nps (l1.map (·.1)) [] []).2 ∧
   (∀ q∈(D,oD)::(tups++prs),q.1≠x∧q.1≠dx∧q.1≠dl∧∀ r∈O4++tmp,q.1≠r.1)∧(∀ q∈tups++prs,q.1≠D))
  (fun _ v m₂=>m₂ "n"=some v)
  (fun s Q h=>wpAny_newObj_type h) rfl (fun I D C R s h1 h2=>codeAny_compStart_dict h1 h2) (fun _ _ _=>rfl) (fun _ _ _ _ _ _ z=>z) (fun _ _ _=>rfl) ?_ ?_ (by decide) rfl hh F₁ N₁ os₁ b₁ ?_ ?_ ?_ ?_ ?_ ?_
 ·intro I i v s1 Q' E' hit hv hq
  exact Wp hq
 ·intro s1 v rem own D C mC Q' E' hJ hk ho hns h
  refine wpAny_assign_Name (wpAny_storeName_local (hkn C) hns (fun h₃ hn₃ hs₃=>?_) (by simp [compEnvC,relabel]))
  exact h h₃ _ _ hn₃ (by rfl) fun b o hb e=>hs₃.extBut b o hb e
 ·exact .inr ⟨_,Mr _ (Mr _ hax),rfl,_,rfl⟩
 ·simp [strValues];rw [sizeLine_eq];exact(Nl fun hn1=>fk [_] (.e V0 (.k 40) (.e (.s (.k 16777216)) V0 K0)) rfl hol hn1)
 ·intro D hD
  refine⟨[],outn,#[],nd0,dictOf [] 0,[],[],[],rfl,rfl,rfl,.nil,Ts,.nil,fun q hq=>?_,fun q hq=>nomatch hq⟩
  rw [List.mem_singleton.mp hq]
  refine⟨Nat.ne_of_gt (hD (x,_) (Ml _ (.head _))),Nat.ne_of_gt (hD (dx,_) (Ml _ (.tail _ (.head _)))),Nat.ne_of_gt (hD (dl,_) (Ml _ (.tail _ (.tail _ (.head _))))),fun r hr=>Nat.ne_of_gt (hD r (Mr _ hr))⟩
 ·rintro D rem own ⟨l1,l2,itsd,nd,oD,kvs,tups,prs,_,_,rfl,_⟩
  exact .inr ⟨_,.tail _ (Mr _ (Mr _ (Mr _ (Mr _ hax)))),rfl,_,rfl⟩
 ·rintro s1 D v rem own I oI C oC m₂ E' ⟨l1,l2,itsd,nd,oD,kvs,tups,prs,ho,hr,rfl,hp1,hd1,hk1,hn1,hn2⟩ hC hB F2 N2 off hIC ho2 hb2
  obtain⟨n,tn,l2',rfl,rfl,rfl⟩:∃ n tn l2',l2=(n,tn)::l2'∧v=.str n tn∧rem=strValues l2':=by
   cases l2 with
   | nil=>cases hr
   | cons q l2'=>obtain⟨n,tn⟩:=q;injection hr with e1 e2;exact⟨n,tn,l2',rfl,e1,e2⟩
  have hnm:n∈outn.map (·.1):=by rw [ho];simp
  have hl1k:∀ n∈l1.map (·.1),known nps (cutName n).1:=fun n hn=>hknown n (by rw [ho,List.map_append];exact Ml _ hn)
  obtain⟨i1,i2,i3⟩:=Bk lower nps (l1.map (·.1)) [] [] hl1k
  have hl1len:l1.length≤40:=by have:=congrArg List.length ho;simp at this;exact(Nl fun hn1=>fk [_,_,_] (.e V0 (.k 40) (.e (.a V1 (.s V2)) V0 (.e (.s (.k 40)) V1 K0))) rfl hol (Es this) hn1)
  refine Wb (LCgL.ld_own N2 (.tail _ (.head _)) hC hB ?_ rfl (hkn C));refine Wb (wpAny_holding (Call_ ?_));have hccN:(c,oc1)∈(I,oI)::(C,oC)::(D,oD)::(WQ ev x dx hsh tkn wr da de ns pm pr rs rd ep dl itsd nd++(tups++(prs++(O4++tmp)))):=.tail _ (.tail _ (.tail _ (Mr _ (Mr _ (Mr _ (Mr _ hcc))))));have hqmN:(qm,methodObj (.ref 90) (.ref x))∈(I,oI)::(C,oC)::(D,oD)::(WQ ev x dx hsh tkn wr da de ns pm pr rs rd ep dl itsd nd++(tups++(prs++(O4++tmp)))):=.tail _ (.tail _ (.tail _ (Mr _ (Mr _ (Mr _ (Mr _ hqm))))));refine lcf_cell N2 hcl hccN hcd ?_ rfl (hkp C);refine callWith_M X N2 hqmN rfl ?_;refine args_cons (LCgL.ld_own N2 (.tail _ (.head _)) hC hB (args_nil ?_) rfl (hkn C));refine⟨methP N2 hqmN (X.keeps F2.keep),?_⟩
  have hoff:∀ q∈(D,oD)::(tups++(prs++(O4++tmp))),q∈(D,oD)::(WQ ev x dx hsh tkn wr da de ns pm pr rs rd ep dl itsd nd++(tups++(prs++(O4++tmp)))):=fun q hq=>by
   rcases List.mem_cons.mp hq with rfl | hq
   ·exact .head _
   ·exact .tail _ (Mr _ hq)
  have offW:=fun q hq=>off q (.tail _ (Ml _ hq))
  refine qcall (rest:=(I,oI)::(C,oC)::(D,oD)::(tups++(prs++(O4++tmp)))) (prs:=prs) (itsd:=itsd) (nd:=nd) (lv:=(declare lower nps (l1.map (·.1)) [] []).1) (dlv:=dlv) (nlv:=nlv) (lower:=lower) (nps:=nps) X T hh zq F2 N2 ho2 hb2 hqmN (fun q hq=>.tail _ (.tail _ (.tail _ (Ml _ hq)))) (fun q hq=>?_) (fun q hq=>?_) hDe hDl hDz hDp hDn hDs (.tail _ (.tail _ (.tail _ (Mr _ (Mr _ (Ml _ hNs)))))) hNl hNp hNq (fun q hq=>.tail _ (.tail _ (.tail _ (Mr _ (Ml _ hq))))) hp1 (by simp at i3;exact(Nl fun hn1=>fk [_,_] (.e V0 (.k 40) (.e V1 V0 (.e (.s (.k 50)) V1 K0))) rfl hl1len i3 hn1)) (fun q hq=>by rcases i2 q hq with z | z;exact nomatch z;exact z) (hng n hnm).1 (hng n hnm).2 hxl hdl ?_
  ·rcases List.mem_cons.mp hq with rfl | hq
   ·exact .head _
   ·rcases List.mem_cons.mp hq with rfl | hq
    ·exact .tail _ (.head _)
    ·exact .tail _ (.tail _ (hoff q hq))
  ·rcases List.mem_cons.mp hq with rfl | hq
   ·exact⟨Ne.symm (offW (x,_) (.head _)).1,Ne.symm (offW (dx,_) (.tail _ (.head _))).1,Ne.symm (offW (dl,_) (.tail _ (.tail _ (.head _)))).1⟩
   ·rcases List.mem_cons.mp hq with rfl | hq
    ·exact⟨Ne.symm (offW (x,_) (.head _)).2,Ne.symm (offW (dx,_) (.tail _ (.head _))).2,Ne.symm (offW (dl,_) (.tail _ (.tail _ (.head _)))).2⟩
    ·have all:q∈(D,oD)::(tups++prs)∨q∈O4++tmp:=by
      rcases List.mem_cons.mp hq with rfl | hq
      ·exact .inl (.head _)
      ·rcases List.mem_append.mp hq with hq | hq
       ·exact .inl (.tail _ (Ml _ hq))
       ·rcases List.mem_append.mp hq with hq | hq
        ·exact .inl (.tail _ (Mr _ hq))
        ·exact .inr hq
     rcases all with z | z
     ·exact⟨(hn1 q z).1,(hn1 q z).2.1,(hn1 q z).2.2.1⟩
     ·exact hrest q z
  intro s3 txt o ta t1 t2 t3 new its' nd' hqn hits' hfr htn F3 N3 os3 b3;refine Wb (wpAny_standAt (wpAny_holding ?_))
  have zD:=N3 (D,oD) (by simp)
  have hdict:s3.heap.DictOf (PySem.strKind rw_dn0283_03.row.prog w) D kvs:=Heap.dictOf_iff.mpr ⟨oD,zD.1,hd1⟩
  have hkeys:kvs.map (·.1)=l1.map (·.1):=by
   have:kvs.map (·.1)=(declare lower nps (l1.map (·.1)) [] []).2.map (·.1):=by
    clear hdict hd1
    generalize (declare lower nps (l1.map (·.1)) [] []).2=pp at hk1
    induction hk1 with
    | nil=>rfl
    | cons z _ ih=>simp [z.1,ih]
   rw [this,i1];rfl
  have habs:valueAt kvs n=none:=by
   unfold valueAt;rw [Option.map_eq_none_iff,List.find?_eq_none];intro kv hkv hz
   have h1:kv.1∈l1.map (·.1):=by rw [← hkeys];exact List.mem_map_of_mem hkv
   have h2:kv.1=n:=by simpa using hz
   rw [ho,List.map_append,List.nodup_append] at hnodup
   exact hnodup.2.2 _ h1 n (by k_mem) h2
  refine wpAny_dictSet_pairs (knd:=PySem.strKind rw_dn0283_03.row.prog w) (k:=n) (by simp [PySem.strKind,Value.isStrOf]) hdict (fun h4 hd4 hs4=>?_) (by rw [← List.length_map (f:=(·.1)),hkeys,List.length_map,sizeLine_eq];exact(Nl fun hn1=>fk [_] (.e V0 (.k 40) (.e (.s (.k 16777216)) V0 K0)) rfl hl1len hn1))
  rw [stored_absent habs] at hd4;obtain⟨oD',hoD',hdD'⟩:=Heap.dictOf_iff.mp hd4
  have hds:declare lower nps ((l1++[(n,tn)]).map (·.1)) [] []=((declare lower nps (l1.map (·.1)) [] []).1++o.toList,(declare lower nps (l1.map (·.1)) [] []).2++[(n,txt,(cutName n).2,(cutName n).1)]):=by
   rw [List.map_append,Ib _ _ _ _ _ _ hl1k];exact Ow hqn
  have hDne:∀ q∈WQ ev x dx hsh tkn wr da de ns pm pr rs rd ep dl its' nd',q.1≠D:=fun q hq=>by
   have hD:=hn1 (D,oD) (.head _)
   simp only [List.mem_cons,List.not_mem_nil,or_false] at hq
   rcases hq with rfl | rfl | rfl
   ·exact Ne.symm hD.1
   ·exact Ne.symm hD.2.1
   ·exact Ne.symm hD.2.2.1
  have hDrest:∀ q∈tups++(prs++(O4++tmp)),q.1≠D:=fun q hq=>by
   rcases List.mem_append.mp hq with hq | hq
   ·exact hn2 q (Ml _ hq)
   ·rcases List.mem_append.mp hq with hq | hq
    ·exact hn2 q (Mr _ hq)
    ·exact Ne.symm ((hn1 (D,oD) (.head _)).2.2.2 q hq)
  refine⟨(D,oD')::(WQ ev x dx hsh tkn wr da de ns pm pr rs rd ep dl its' nd'++(((ta,Ad #[.str txt t1,.str (cutName n).2 t2,.str (cutName n).1 t3])::tups)++((new++prs)++(O4++tmp)))),⟨l1++[(n,tn)],l2',its',nd',oD',kvs++[(n,.ref ta)],(ta,Ad #[.str txt t1,.str (cutName n).2 t2,.str (cutName n).1 t3])::tups,new++prs,by rw [ho,List.append_assoc];rfl,rfl,rfl,?_,hdD',?_,?_,?_⟩,?_,?_,?_,os3,b3⟩
  ·rw [hds];exact hits'
  ·rw [hds]
   exact(hk1.mono fun _ _ z=>z.mono fun _ hq=>.tail _ hq).snoc ⟨rfl,ta,t1,t2,t3,rfl,.head _⟩
  ·intro q hq
   rcases List.mem_cons.mp hq with rfl | hq
   ·exact hn1 (D,oD) (.head _)
   ·have hcase:q∈(ta,Ad #[.str txt t1,.str (cutName n).2 t2,.str (cutName n).1 t3])::new∨q∈tups++prs:=by
     rcases List.mem_append.mp hq with hq | hq
     ·rcases List.mem_cons.mp hq with rfl | hq
      ·exact .inl (.head _)
      ·exact .inr (Ml _ hq)
     ·rcases List.mem_append.mp hq with hq | hq
      ·exact .inl (.tail _ hq)
      ·exact .inr (Mr _ hq)
    rcases hcase with z | z
    ·obtain⟨a1,a2,a3,a4⟩:=hfr q z
     exact⟨a1,a2,a3,fun r hr=>a4 r (.tail _ (.tail _ (.tail _ (Mr _ (Mr _ hr)))))⟩
    ·exact hn1 q (.tail _ z)
  ·intro q hq
   have hcase:q∈(ta,Ad #[.str txt t1,.str (cutName n).2 t2,.str (cutName n).1 t3])::new∨q∈tups++prs:=by
    rcases List.mem_append.mp hq with hq | hq
    ·rcases List.mem_cons.mp hq with rfl | hq
     ·exact .inl (.head _)
     ·exact .inr (Ml _ hq)
    ·rcases List.mem_append.mp hq with hq | hq
     ·exact .inl (.tail _ hq)
     ·exact .inr (Mr _ hq)
   rcases hcase with z | z
   ·exact(hfr q z).2.2.2 (D,oD) (.tail _ (.tail _ (.head _)))
   ·exact hn2 q z
  ·exact F3.change hs4 zD.2.1 zD.2.2
  ·intro q hq
   by_cases hqD:q.1=D
   ·have:q=(D,oD'):=by
     simp only [List.mem_cons,List.mem_append] at hq
     rcases hq with rfl | rfl | rfl | hq
     ·exact absurd hqD (Ne.symm (off (D,oD) (.head _)).1)
     ·exact absurd hqD (Ne.symm (off (D,oD) (.head _)).2)
     ·rfl
     ·exfalso
      rcases hq with hq | (hq | hq) | (hq | hq) | hq
      ·exact hDne q (by simpa using hq) hqD
      ·exact(hfr q (by rw [hq];exact .head _)).2.2.2 (D,oD) (.tail _ (.tail _ (.head _))) hqD
      ·exact hDrest q (Ml _ hq) hqD
      ·exact(hfr q (.tail _ hq)).2.2.2 (D,oD) (.tail _ (.tail _ (.head _))) hqD
      ·exact hDrest q (Mr _ (Ml _ hq)) hqD
      ·exact hDrest q (Mr _ (Mr _ (List.mem_append.mpr hq))) hqD
    rw [this];exact⟨hoD',zD.2⟩
   ·have z:=N3 q (by
     simp only [List.mem_cons,List.mem_append] at hq ⊢
     rcases hq with h | h | h | h | (h | h) | (h | h) | h
     ·exact .inr (.inr (.inr (.inl h)))
     ·exact .inr (.inr (.inr (.inr (.inl h))))
     ·rw [h] at hqD;exact absurd rfl hqD
     ·exact .inr (.inr (.inl h))
     ·exact .inl h
     ·exact .inr (.inr (.inr (.inr (.inr (.inr (.inl h))))))
     ·exact .inr (.inl h)
     ·exact .inr (.inr (.inr (.inr (.inr (.inr (.inr (.inl h)))))))
     ·exact .inr (.inr (.inr (.inr (.inr (.inr (.inr (.inr h))))))))
    exact⟨hs4.extBut _ _ hqD z.1,z.2⟩
  ·intro q hq
   have hI:∀ r,r=(I,oI)∨r=(C,oC)→r∈(I,oI)::(C,oC)::(D,oD)::(tups++(prs++(O4++tmp))):=fun r hr=>by
    rcases hr with rfl | rfl
    ·exact .head _
    ·exact .tail _ (.head _)
   simp only [List.mem_cons,List.mem_append] at hq
   rcases hq with rfl | hq | (hq | hq) | (hq | hq) | hq
   ·exact off (D,oD) (.head _)
   ·have hq':q∈WQ ev x dx hsh tkn wr da de ns pm pr rs rd ep dl its' nd':=by simpa using hq
    simp only [List.mem_cons,List.not_mem_nil,or_false] at hq'
    rcases hq' with rfl | rfl | rfl
    ·exact offW (x,_) (.head _)
    ·exact offW (dx,_) (.tail _ (.head _))
    ·exact offW (dl,listOf itsd nd) (.tail _ (.tail _ (.head _)))
   ·have z:=(hfr q (by rw [hq];exact .head _)).2.2.2
    exact⟨z _ (hI _ (.inl rfl)),z _ (hI _ (.inr rfl))⟩
   ·exact off q (.tail _ (Mr _ (Ml _ hq)))
   ·have z:=(hfr q (.tail _ hq)).2.2.2
    exact⟨z _ (hI _ (.inl rfl)),z _ (hI _ (.inr rfl))⟩
   ·exact off q (.tail _ (Mr _ (Mr _ (Ml _ hq))))
   ·exact off q (.tail _ (Mr _ (Mr _ (Mr _ (List.mem_append.mpr hq)))))
 ·rintro s1 D C own mC ⟨l1,l2,itsd,nd,oD,kvs,tups,prs,ho,hr,rfl,hp1,hd1,hk1,hn1,hn2⟩ F2 N2 hns hC0 hCL hoC ho2 hb2
  have hl2:l2=[]:=by cases l2 with
   | nil=>rfl
   | cons q r=>obtain⟨a,b⟩:=q;cases hr
  subst hl2;rw [List.append_nil] at ho;subst ho
  show wpAny _ A (assign (.Name "parsed_qnames" q7) env (.ref D)) _ _ _
  subst hL
  refine wpAny_assign_Name (wpAny_storeName_local hy F2.ns (fun h₂ hn₂ hs₂=>?_) hp)
  have hL₀:g.get? env.locals=none:=Heap.get?_none_of_le F2.above
  have F₂:Fr g env.locals h₂ (fun z=>if z="parsed_qnames" then some (.ref D) else m z):=⟨hn₂,fun b o e=>hs₂.extBut b o (fun q=>by rw [q,hL₀] at e;cases e) (F2.keep b o e),F2.above⟩
  refine⟨mC,hns.sameBut hs₂ hCL,fun h'' hs''=>?_⟩
  refine fin _ D oD itsd nd kvs tups prs hp1 hd1 hk1 hn1 (F₂.change hs'' hCL hC0) (fun q hq=>?_) ho2 hb2
  have hq':q∈(D,oD)::(WQ ev x dx hsh tkn wr da de ns pm pr rs rd ep dl itsd nd++(tups++(prs++(O4++tmp)))):=by
   simp only [List.mem_cons,List.mem_append] at hq ⊢
   rcases hq with h | h | h | h | h | h
   ·exact .inr (.inl h)
   ·exact .inr (.inr (.inr (.inr (.inl h))))
   ·exact .inl h
   ·exact .inr (.inr (.inl h))
   ·exact .inr (.inr (.inr (.inl h)))
   ·exact .inr (.inr (.inr (.inr (.inr h))))
  have z:=N2 q hq';exact⟨hs''.extBut _ _ (hoC q hq') (hs₂.extBut _ _ z.2.1 z.1),z.2⟩
end
end
theorem rs2:True∧True:=by
 (try walk1);(try w_top off)
 all_goals (first | trivial | exact ⟨trivial,trivial⟩)
section

noncomputable def Ig(w:World)(A:Around)(s:Shared)(g:Heap)(os:OsState)(own:List (Addr × Obj))(p:Program)(zw:List Str)(zr:ExcName→Option Value)(mg mb:Str→Option Value)(R:Result→Shared→Prop)(x:Str)(tx:Tok):Prop :=
 ∀ (X:(hd03.heap_39 w.params).In g) (T:Top p zw zr mg mb g) (H:Ok g os own s) (zq:A.depth<900) (hx:x.length≤2000) (hN:∀ s' t',Ok g os own s'→R (.ok (.ret (.str (Lm x) t'))) s'),codeAny (model rw_dn0283_03.row.prog w) A (.call (.ref 161) ⟨[.str x tx],[]⟩) R s
theorem Tp:∀ {a b c d e f g h i j k l m n},Ig a b c d e f g h i j k l m n:=by
 refine @(Aa (Al neW)<|@(Cp neI<|let_mvar% ?n:=(fun w A s g os own p zw zr mg mb R x tx=>?_:∀ a b c d e f g h i j k l m n,Ig a b c d e f g h i j k l m n);?n _ _ _ _ _ _ _ _ _ _ _ _ _ _))
 intro X T H zq hx hN;revert X
 k_fill
 intro X
 refine' Dy H X T ?k6 ?k7 (Nat.lt_trans zq (by decide)) ?k9 ?kB ?_ ?c1 ?c2 ?c3 ?c4
 (case k6=>k_is)
 (case k7=>k_is)
 (case k9=>exact BindsTo.of_eq rfl)
 (case kB=>exact locs rfl)
 (case c1=>exact rfl)
 (case c2=>exact rfl)
 (case c3=>exact rfl)
 (case c4=>decide)
 k_whole;intro L' h1 F0 N1 l1;(try dsimp only)
 have F1:Fr g L' h1 (fun y=>if y="text" then some (.str x tx) else none):=by
  have e:=Mh "text" (.str x tx) []
  have F0':Fr g L' h1 (fun y=>List.lookup y [("text",.str x tx)]):=F0
  rw [e] at F0';exact F0'
 clear F0
 have z1:(Bv "&" "&amp;" x).length≤12005:=Nat.le_trans (Dk (k:=5) hx (by decide)) (by decide)
 have z2:(Bv "<" "&lt;" (Bv "&" "&amp;" x)).length≤60029:=Nat.le_trans (Dk (k:=4) z1 (by decide)) (by decide)
 have z3:(Bv ">" "&gt;" (Bv "<" "&lt;" (Bv "&" "&amp;" x))).length≤300149:=Nat.le_trans (Dk (k:=4) z2 (by decide)) (by decide)
 refine wpAny_execs_cons (wpAny_Try_except ?_)
 refine wpAny_execs_cons (Cb F1 N1 (Nat.succ_pos _) (Nat.le_trans hx (by decide)) (by decide) (by decide +kernel) fun h2 t2 k2 F2 N2=>?_)
 refine wpAny_execs_cons (Cb F2 N2 (Nat.succ_pos _) (Nat.le_trans z1 (by decide)) (by decide) (by decide +kernel) fun h3 t3 k3 F3 N3=>?_)
 refine wpAny_execs_cons (Cb F3 N3 (Nat.succ_pos _) (Nat.le_trans z2 (by decide)) (by decide) (by decide +kernel) fun h4 t4 k4 F4 N4=>?_)
 refine wpAny_execs_cons (Cb F4 N4 (Nat.succ_pos _) (Nat.le_trans z3 (by decide)) (by decide) (by decide +kernel) fun h5 t5 k5 F5 N5=>?_)
 refine wpAny_execs_cons (wpAny_Return_some (ld F5 rfl ?_));dsimp only
 exact leaveM_ F5 N5 H.os H.bare fun H'=>hN _ _ H'
noncomputable def Ie(w:World)(A:Around)(s:Shared)(g:Heap)(os:OsState)(own:List (Addr × Obj))(p:Program)(zw:List Str)(zr:ExcName→Option Value)(mg mb:Str→Option Value)(R:Result→Shared→Prop)(x:Str)(tx:Tok):Prop :=
 ∀ (X:(hd03.heap_39 w.params).In g) (T:Top p zw zr mg mb g) (H:Ok g os own s) (zq:A.depth<900) (hx:x.length≤100) (hN:∀ s' t',Ok g os own s'→R (.ok (.ret (.str (Di x) t'))) s'),codeAny (model rw_dn0283_03.row.prog w) A (.call (.ref 168) ⟨[.str x tx],[]⟩) R s
theorem To:∀ {a b c d e f g h i j k l m n},Ie a b c d e f g h i j k l m n:=by
 refine @(Aa (Al neW)<|@(Cp neI<|let_mvar% ?n:=(fun w A s g os own p zw zr mg mb R x tx=>?_:∀ a b c d e f g h i j k l m n,Ie a b c d e f g h i j k l m n);?n _ _ _ _ _ _ _ _ _ _ _ _ _ _))
 intro X T H zq hx hN;revert X
 k_fill
 intro X
 refine' Dy H X T ?k6 ?k7 (Nat.lt_trans zq (by decide)) ?k9 ?kB ?_ ?c1 ?c2 ?c3 ?c4
 (case k6=>k_is)
 (case k7=>k_is)
 (case k9=>exact BindsTo.of_eq rfl)
 (case kB=>exact locs rfl)
 (case c1=>exact rfl)
 (case c2=>exact rfl)
 (case c3=>exact rfl)
 (case c4=>decide)
 k_whole;intro L' h1 F0 N1 l1;(try dsimp only)
 have F1:Fr g L' h1 (fun y=>if y="text" then some (.str x tx) else none):=by
  have e:=Mh "text" (.str x tx) []
  have F0':Fr g L' h1 (fun y=>List.lookup y [("text",.str x tx)]):=F0
  rw [e] at F0';exact F0'
 clear F0
 have z1:(Bv "&" "&amp;" x).length≤605:=Nat.le_trans (Dk (k:=5) hx (by decide)) (by decide)
 have z2:(Bv "<" "&lt;" (Bv "&" "&amp;" x)).length≤3029:=Nat.le_trans (Dk (k:=4) z1 (by decide)) (by decide)
 have z3:(Bv "\"" "&quot;" (Bv "<" "&lt;" (Bv "&" "&amp;" x))).length≤21209:=Nat.le_trans (Dk (k:=6) z2 (by decide)) (by decide)
 have z4:(Bv "\t" "&#x9;" (Bv "\"" "&quot;" (Bv "<" "&lt;" (Bv "&" "&amp;" x)))).length≤127259:=Nat.le_trans (Dk (k:=5) z3 (by decide)) (by decide)
 have z5:(Bv "\n" "&#xA;" (Bv "\t" "&#x9;" (Bv "\"" "&quot;" (Bv "<" "&lt;" (Bv "&" "&amp;" x))))).length≤763559:=Nat.le_trans (Dk (k:=5) z4 (by decide)) (by decide)
 refine wpAny_execs_cons (wpAny_Try_except ?_)
 refine wpAny_execs_cons (Cb F1 N1 (Nat.succ_pos _) (Nat.le_trans hx (by decide)) (by decide) (by decide +kernel) fun h2 t2 k2 F2 N2=>?_)
 refine wpAny_execs_cons (Cb F2 N2 (Nat.succ_pos _) (Nat.le_trans z1 (by decide)) (by decide) (by decide +kernel) fun h3 t3 k3 F3 N3=>?_)
 refine wpAny_execs_cons (Cb F3 N3 (Nat.succ_pos _) (Nat.le_trans z2 (by decide)) (by decide) (by decide +kernel) fun h4 t4 k4 F4 N4=>?_)
 refine wpAny_execs_cons (Cb F4 N4 (Nat.succ_pos _) (Nat.le_trans z3 (by decide)) (by decide) (by decide +kernel) fun h5 t5 k5 F5 N5=>?_)
 refine wpAny_execs_cons (Cb F5 N5 (Nat.succ_pos _) (Nat.le_trans z4 (by decide)) (by decide) (by decide +kernel) fun h6 t6 k6 F6 N6=>?_)
 refine wpAny_execs_cons (Cb F6 N6 (Nat.succ_pos _) (Nat.le_trans z5 (by decide)) (by decide) (by decide +kernel) fun h7 t7 k7 F7 N7=>?_)
 refine wpAny_execs_cons (wpAny_Return_some (ld F7 rfl ?_));dsimp only
 exact leaveM_ F7 N7 H.os H.bare fun H'=>hN _ _ H'
end
theorem rs3:True∧True:=by
 (try walk1);(try w_top off)
 all_goals (first | trivial | exact ⟨trivial,trivial⟩)
section

open PyProof.Rows.LCg
noncomputable abbrev Fo:Scope:={ kind:=.function,names:=[(".0",.local),("uri",.local),("prefix",.local)],isGenerator:=false,isCoroutine:=false,more:=[] }
noncomputable abbrev Ss(p1 p2 p3 p4 p5 p6 p7 p8:Pos):PySem.Expr:=.Tuple [.IfExp (.Name "prefix" p1) (.BinOp (.Constant (.str "xmlns:") 0 p2) .Add (.Name "prefix" p3) p4) (.Constant (.str "xmlns") 0 p5) p6,.Name "uri" p7] 0 p8
noncomputable def Pt(w:World)(A:Around)(s:Shared)(E:Value→Shared→Prop)(g:Heap)(p:Program)(zw:List Str)(zr:ExcName→Option Value)(mg mb:Str→Option Value)(L C:Addr)(m m₂:Str→Option Value)(news:List (Addr × Obj))(env:Env)(cl:List (Str × Addr))(oC:Obj)(q:Pr)(t1 t2:Tok)(p1 p2 p3 p4 p5 p6 p7 p8:Pos)(Q:Value→Shared→Prop):Prop :=
 ∀ (X:(hd03.heap_39 w.params).In g) (T:Top p zw zr mg mb g) (F1:Fr g L s.heap m) (N1:News g L s.heap ((C,oC)::news)) (hC:NsObj oC m₂) (hu:m₂ "uri"=some (.str q.1 t1)) (hpf:m₂ "prefix"=some (.str q.2 t2)) (hz:q.2.length≤1000) (h:∀ (T':Addr) t3 h' tk,Fr g L h' m→News g L h' ((T',Ad #[.str (Bt q).1 t3,.str (Bt q).2 t1])::(C,oC)::news)→(∀ r∈(C,oC)::news,r.1<T')→Q (.ref T') { s with heap:=h',toks:=tk }),wpAny (model rw_dn0283_03.row.prog w) A (eval (Ss p1 p2 p3 p4 p5 p6 p7 p8) (compEnvC Fo cl C env)) Q E s
theorem ns_elt:∀ {w A s E g p zw zr mg mb L C m m₂ news env cl oC q t1 t2 p1 p2 p3 p4 p5 p6 p7 p8 Q},Pt w A s E g p zw zr mg mb L C m m₂ news env cl oC q t1 t2 p1 p2 p3 p4 p5 p6 p7 p8 Q:=by
 refine @(Aa (Al neW)<|@(Aa neI<|@(Aa neI<|@(Cp neI<|let_mvar% ?n:=(fun w A s E g p zw zr mg mb L C m m₂ news env cl oC q t1 t2 p1 p2 p3 p4 p5 p6 p7 p8 Q=>?_:∀ a b c d e f g h i j k l m n o p q r s t u v w x y z a1 b1 c1 d1,Pt a b c d e f g h i j k l m n o p q r s t u v w x y z a1 b1 c1 d1);?n _ _ _ _ _ _ _ _ _ _ _ _ _ _ _ _ _ _ _ _ _ _ _ _ _ _ _ _ _ _))))
 intro X T F1 N1 hC hu hpf hz h
 repeat' (first
    | walk_at "go")
 ·rename_i hq t' k _ D' h' F' N' l9
  have e:Bt q=("xmlns:"++q.2,q.1):=by unfold Bt;rw [if_neg (Fn hq)]
  exact h D' t' h' _ F' (by rw [e];exact N') fun r hr=>by
   rcases List.mem_cons.mp hr with rfl | hr
   ·exact l9.1
   ·exact kst_ltOf l9.2 r hr
 ·rename_i hq D' h' F' N' l9
  have e:Bt q=(Str.ofString "xmlns",q.1):=by unfold Bt;rw [if_pos (Fl hq)]
  exact h D' _ h' _ F' (by rw [e];exact N') fun r hr=>by
   rcases List.mem_cons.mp hr with rfl | hr
   ·exact l9.1
   ·exact kst_ltOf l9.2 r hr
noncomputable abbrev Nb:Scope:={ kind:=.function,names:=[(".0",.local),("k",.local),("v",.local),("_escape_attrib_c14n",.globalImplicit)],isGenerator:=false,isCoroutine:=false,more:=[] }
noncomputable abbrev atElt(p1 p2 p3 p4 p5 p6 p7 p8 p9 p10:Pos):PySem.Expr:=.JoinedStr [.Constant (.str " ") 0 p1,.FormattedValue (.Name "k" p2) (-1) none p3,.Constant (.str "=\"") 0 p4,.FormattedValue (.Call (.Name "_escape_attrib_c14n" p5) [.Name "v" p6] [] p7) (-1) none p8,.Constant (.str "\"") 0 p9] p10
noncomputable def Oo(w:World)(A:Around)(s:Shared)(E:Value→Shared→Prop)(g:Heap)(os:OsState)(p:Program)(zw:List Str)(zr:ExcName→Option Value)(mg mb:Str→Option Value)(L C:Addr)(m m₂:Str→Option Value)(news:List (Addr × Obj))(cn:Str)(cs:Scope)(a:Addr)(ccd:Value)(cl' cl:List (Str × Addr))(oC:Obj)(q:Pr)(t1 t2:Tok)(p1 p2 p3 p4 p5 p6 p7 p8 p9 p10:Pos)(Q:Value→Shared→Prop):Prop :=
 ∀ (X:(hd03.heap_39 w.params).In g) (T:Top p zw zr mg mb g) (zq:A.depth<890) (F1:Fr g L s.heap m) (N1:News g L s.heap ((C,oC)::news)) (hC:NsObj oC m₂) (hu:m₂ "k"=some (.str q.1 t1)) (hpf:m₂ "v"=some (.str q.2 t2)) (hz:q.1.length≤1000) (hz2:q.2.length≤100) (hz3:(Di q.2).length≤1000) (o1:s.os=os) (b1:AllBare s.gens) (h:∀ t3 (s':Shared),Fr g L s'.heap m→News g L s'.heap ((C,oC)::news)→s'.os=os→AllBare s'.gens→Q (.str (Br q) t3) s'),wpAny (model rw_dn0283_03.row.prog w) A (eval (atElt p1 p2 p3 p4 p5 p6 p7 p8 p9 p10) (compEnvC Nb cl C (envX cn cs L a ccd cl'))) Q E s
theorem at_elt:∀ {w A s E g os p zw zr mg mb L C m m₂ news cn cs a ccd cl' cl oC q t1 t2 p1 p2 p3 p4 p5 p6 p7 p8 p9 p10 Q},Oo w A s E g os p zw zr mg mb L C m m₂ news cn cs a ccd cl' cl oC q t1 t2 p1 p2 p3 p4 p5 p6 p7 p8 p9 p10 Q:=by
 refine @(Aa (Al neW)<|@(Aa neI<|@(Aa neI<|@(Aa neI<|@(Eg neI<|let_mvar% ?n:=(fun w A s E g os p zw zr mg mb L C m m₂ news cn cs a ccd cl' cl oC q t1 t2 p1 p2 p3 p4 p5 p6 p7 p8 p9 p10 Q=>?_:∀ a b c d e f g h i j k l m n o p q r s t u v w x y z a1 b1 c1 d1 e1 f1 g1 h1 i1 j1 k1,Oo a b c d e f g h i j k l m n o p q r s t u v w x y z a1 b1 c1 d1 e1 f1 g1 h1 i1 j1 k1);?n _ _ _ _ _ _ _ _ _ _ _ _ _ _ _ _ _ _ _ _ _ _ _ _ _ _ _ _ _ _ _ _ _ _ _ _ _)))))
 intro X T zq F1 N1 hC hu hpf hz hz2 hz3 o1 b1 h;revert X
 k_fill
 intro X
 repeat' (first
    | ((with_reducible show wpAny _ _ (eval (Expr.Name "_escape_attrib_c14n" _) _) _ _ _);refine LCgL.ld_global (by k_asm) X T (by k_is) ?_)
    | ((with_reducible show wpAny _ _ (call (.ref 168) _) _ _ _);(rename Fr ..=>F9);(rename News ..=>N9);refine Ca [] ((C,oC)::news) F9 N9 o1 b1 (List.forall_mem_nil _) (fun _ z=>z) (fun _ _ z=>nomatch z) fun g₂ H₂ K₂ _ back=>To (X.keeps K₂) (T.keeps K₂) H₂ (Nat.lt_trans zq (by decide)) hz2 fun s5 t5 H5=>?_;obtain⟨F5,N5,o5,b5⟩:=back _ _ H5;clear back F9 N9 H₂ H5;(try dsimp only))
    | ((fail_if_success (with_reducible show wpAny _ _ (call (.ref 168) _) _ _ _));walk_at "go"))
 have e:Str.empty++" "++q.1++"=\""++Di q.2++"\""=Br q:=by rw [Str.empty_append];rfl
 rw [e];exact h _ _ F5 N5 o5 b5
noncomputable def Mn(w:World)(A:Around)(s:Shared)(E:Value→Shared→Prop)(g:Heap)(os:OsState)(p:Program)(zw:List Str)(zr:ExcName→Option Value)(mg mb:Str→Option Value)(L ax:Addr)(m:Str→Option Value)(base:List (Addr × Obj))(env:Env)(cl:List (Str × Addr))(its:Array Value)(lv:List Pr)(prs:List (Addr × Obj))(iter:PySem.Expr)(k:Nat)(p1 p2 p3 p4 p5 p6 p7 p8 px px2 tp pos py spos:Pos)(Q:Flow→Shared→Prop):Prop :=
 ∀ (X:(hd03.heap_39 w.params).In g) (T:Top p zw zr mg mb g) (hh:A.handled=none) (hL:env.locals=L) (hsw:swapsWith (.ListComp (Ss p1 p2 p3 p4 p5 p6 p7 p8) [⟨.Tuple [.Name "uri" px,.Name "prefix" px2] k tp,iter,[],0⟩] Fo pos) (some (.Name "attr_list" py)) spos.line env=pure true) (hclos:closureFor Fo env=pure cl) (hfs:∀ x,foldedSetIterable iter env x=pure x) (hy:env.kindOf "attr_list"=some .local) (hp:(env.scope.kind == .class || (env.scope.kind == .module && env.locals != env.globals))=false) (hiter:∀ Q':Value→Shared→Prop,Q' (.ref ax) s→wpAny (model rw_dn0283_03.row.prog w) A (eval iter env) Q' E s) (F:Fr g L s.heap m) (N:News g L s.heap base) (o1:s.os=os) (b1:AllBare s.gens) (hax:∃ n,(ax,listOf its n)∈base) (hprs:∀ q∈prs,q∈base) (hits:All2 (Ak prs) its.toList lv) (hlz:lv.length≤50) (hlq:∀ q∈lv,q.2.length≤200) (fin:∀ (s1:Shared) D ys tl,All2 (Ak tl) ys (lv.map Bt)→(∀ q∈tl,q.1≠D∧∀ r∈base,q.1≠r.1)→(∀ r∈base,D≠r.1)→Fr g L s1.heap (fun y=>if y="attr_list" then some (.ref D) else m y)→News g L s1.heap ((D,LCg.lst ys)::(tl++base))→s1.os=os→AllBare s1.gens→Q .next s1),wpAny (model rw_dn0283_03.row.prog w) A (exec (.Assign [.Name "attr_list" py] (.ListComp (Ss p1 p2 p3 p4 p5 p6 p7 p8) [⟨.Tuple [.Name "uri" px,.Name "prefix" px2] k tp,iter,[],0⟩] Fo pos) spos) env) Q E s
theorem ns_stmt:∀ {w A s E g os p zw zr mg mb L ax m base env cl its lv prs iter k p1 p2 p3 p4 p5 p6 p7 p8 px px2 tp pos py spos Q},Mn w A s E g os p zw zr mg mb L ax m base env cl its lv prs iter k p1 p2 p3 p4 p5 p6 p7 p8 px px2 tp pos py spos Q:=by
 refine @(Aa (Al neW)<|@(Aa neI<|@(Aa neI<|@(Aa neI<|@(Eg neI<|let_mvar% ?n:=(fun w A s E g os p zw zr mg mb L ax m base env cl its lv prs iter k p1 p2 p3 p4 p5 p6 p7 p8 px px2 tp pos py spos Q=>?_:∀ a b c d e f g h i j k l m n o p q r s t u v w x y z a1 b1 c1 d1 e1 f1 g1 h1 i1 j1 k1,Mn a b c d e f g h i j k l m n o p q r s t u v w x y z a1 b1 c1 d1 e1 f1 g1 h1 i1 j1 k1);?n _ _ _ _ _ _ _ _ _ _ _ _ _ _ _ _ _ _ _ _ _ _ _ _ _ _ _ _ _ _ _ _ _ _ _ _ _)))))
 intro X T hh hL hsw hclos hfs hy hp hiter F N o1 b1 hax hprs hits hlz hlq fin;rw [exec_Assign_Name_used _ _ _ _ hsw];refine Wb (wpAny_standAt (Wb ?_))
 show wpAny _ A (do let _ ← comprehension (.ListComp (Ss p1 p2 p3 p4 p5 p6 p7 p8) [⟨.Tuple [.Name "uri" px,.Name "prefix" px2] k tp,iter,[],0⟩] Fo pos) Fo env _ (newList []) false (eval iter env) (some (assign (.Name "attr_list" py) env))) _ _ s
 refine Wb (wpAny_mono (wpAny_comprehension_free (use:=some (assign (.Name "attr_list" py) env)) (Q:=fun _ s'=>Q .next s') rfl hfs hclos rfl (by decide) (hiter _ ?_)) (fun _ s' hq=>Wp (Wp hq)) fun _ _ e=>e)
 obtain⟨n,hax⟩:=hax
 refine Pn (os:=os) (its:=its) (ax:=ax) (news:=base) (fun rem ys own=>∃ q1 q2 tl,lv=q1++q2∧All2 (Ak prs) rem q2∧own=tl++base∧All2 (Ak tl) ys (q1.map Bt)∧∀ q∈tl,∀ r∈base,q.1≠r.1)
  (by decide) rfl rfl rfl (by decide) hh F N o1 b1 (.inr ⟨_,hax,rfl,_,rfl⟩) ?_ ⟨[],lv,[],rfl,hits,rfl,.nil,fun _ z=>nomatch z⟩ ?_ ?_ ?_ ?_ ?_
 ·have:its.size=lv.length:=by rw [← hits.length];simp
  rw [this,sizeLine_eq];exact(Nl fun hn1=>fk [_] (.e V0 (.k 50) (.e (.s (.k 16777216)) V0 K0)) rfl hlz hn1)
 ·rintro rem ys own ⟨q1,q2,tl,_,_,rfl,_⟩
  exact .inr ⟨_,Mr _ hax,rfl,_,rfl⟩
 ·rintro v rem ys own ⟨q1,q2,tl,_,h2,rfl,_⟩
  cases h2 with
  | cons z _=>exact⟨_,z.mono fun r hr=>Mr _ (hprs r hr)⟩
 ·intro v hv
  obtain⟨i,hi⟩:=List.mem_iff_getElem?.mp hv
  have hlt:i<lv.length:=by
   rw [← hits.length]
   rcases Nat.lt_or_ge i its.toList.length with z | z
   ·exact z
   ·rw [List.getElem?_eq_none z] at hi;cases hi
  obtain⟨v',e,a,_,_,e2,_⟩:=hits.get (List.getElem?_eq_getElem hlt);rw [hi] at e;cases e;exact⟨a,e2⟩
 ·rintro s1 D v rem ys own I oI C oC m₂ q t1 t2 E' ⟨q1,q2,tl,e1,h2,rfl,h4,h5⟩ ⟨a,rfl,hm⟩ hC b1' b2' F1 N1 off hIC hDI hDC ho hb
  cases h2 with
  | @cons _ q' _ q2' z h2' =>
   obtain⟨a',u1,u2,ea,hma⟩:=z
   cases ea
   have hqq:q=q'∧t1=u1∧t2=u2:=by
    have g1:=(N1 (a,_) (.tail _ (.tail _ (.tail _ hm)))).1;have g2:=(N1 (a,_) (.tail _ (.tail _ (.tail _ (Mr _ (hprs _ hma)))))).1;rw [g1] at g2;have:=congrArg Obj.data (Option.some.inj g2)
    simp only [Data.seq.injEq,Array.mk.injEq,List.cons.injEq,Value.str.injEq,and_true] at this
    obtain⟨q1a,q1b⟩:=q;obtain⟨q2a,q2b⟩:=q'
    simp only at this
    obtain⟨⟨rfl,rfl⟩,rfl,rfl⟩:=this;exact⟨rfl,rfl,rfl⟩
   obtain⟨rfl,rfl,rfl⟩:=hqq;have o3:=off.mem
   refine ns_elt (m:=m) (news:=(I,oI)::(D,LCg.lst ys)::(tl++base)) X T F1 (News.sub N1 fun r hr=>?_) hC b1' b2' (Nat.le_trans (hlq q (by rw [e1];simp)) (by decide)) fun T' t3 h' tk F2 N2 hlt=>?_
   ·simp only [List.mem_cons] at hr ⊢
    rcases hr with h | h | h | h
    ·exact .inr (.inl h)
    ·exact .inl h
    ·exact .inr (.inr (.inl h))
    ·exact .inr (.inr (.inr h))
   ·refine⟨(T',Ad #[.str (Bt q).1 t3,.str (Bt q).2 t1])::(tl++base),⟨q1++[q],q2',(T',_)::tl,by rw [e1,List.append_assoc];rfl,h2',rfl,?_,?_⟩,F2,News.sub N2 fun r hr=>?_,?_,ho,hb⟩
    ·rw [List.map_append]
     exact(h4.mono fun _ _ z=>z.mono fun _ hr=>.tail _ hr).snoc ⟨T',t3,t1,rfl,.head _⟩
    ·intro r hr r' hr'
     rcases List.mem_cons.mp hr with rfl | hr
     ·exact Nat.ne_of_gt (hlt r' (.tail _ (.tail _ (.tail _ (Mr _ hr')))))
     ·exact h5 r hr r' hr'
    ·simp only [List.mem_cons] at hr ⊢
     rcases hr with h | h | h | h | h
     ·exact .inr (.inr (.inl h))
     ·exact .inr (.inl h)
     ·exact .inr (.inr (.inr (.inl h)))
     ·exact .inl h
     ·exact .inr (.inr (.inr (.inr h)))
    ·refine Off3.of fun r hr=>?_
     rcases List.mem_cons.mp hr with rfl | hr
     ·exact⟨Nat.ne_of_gt (hlt (I,oI) (.tail _ (.head _))),Nat.ne_of_gt (hlt (C,oC) (.head _)),Nat.ne_of_gt (hlt (D,_) (.tail _ (.tail _ (.head _))))⟩
     ·exact o3 r hr
 ·rintro s1 D C ys own mC ⟨q1,q2,tl,e1,h2,rfl,h4,h5⟩ F1 N1 hneD hns hC0 hCL hDC hoC ho hb
  cases h2
  rw [List.append_nil] at e1;subst e1
  show wpAny _ A (assign (.Name "attr_list" py) env (.ref D)) _ _ _
  subst hL
  refine wpAny_assign_Name (wpAny_storeName_local hy F1.ns (fun h₂ hn₂ hs₂=>?_) hp)
  have hL₀:g.get? env.locals=none:=Heap.get?_none_of_le F1.above
  have F₂:Fr g env.locals h₂ (fun z=>if z="attr_list" then some (.ref D) else m z):=⟨hn₂,fun b o e=>hs₂.extBut b o (fun q=>by rw [q,hL₀] at e;cases e) (F1.keep b o e),F1.above⟩
  refine⟨mC,hns.sameBut hs₂ hCL,fun h'' hs''=>?_⟩
  refine fin _ D ys tl h4 (fun q hq=>⟨hneD q (Ml _ hq),h5 q hq⟩) (fun r hr=>Ne.symm (hneD r (Mr _ hr))) (F₂.change hs'' hCL hC0) (fun q hq=>?_) ho hb
  have hqC:q.1≠C:=by
   rcases List.mem_cons.mp hq with rfl | hq
   ·exact hDC
   ·exact hoC q hq
  have z:=N1 q hq;exact⟨hs''.extBut _ _ hqC (hs₂.extBut _ _ z.2.1 z.1),z.2⟩
noncomputable def Lw(w:World)(A:Around)(s:Shared)(E:Value→Shared→Prop)(g:Heap)(os:OsState)(p:Program)(zw:List Str)(zr:ExcName→Option Value)(mg mb:Str→Option Value)(L ax:Addr)(m:Str→Option Value)(base:List (Addr × Obj))(cn:Str)(cs:Scope)(a:Addr)(ccd:Value)(cl' cl:List (Str × Addr))(its:Array Value)(al:List Pr)(prs:List (Addr × Obj))(iter:PySem.Expr)(k:Nat)(p1 p2 p3 p4 p5 p6 p7 p8 p9 p10 px px2 tp pos:Pos)(Q:Value→Shared→Prop):Prop :=
 ∀ (X:(hd03.heap_39 w.params).In g) (T:Top p zw zr mg mb g) (hh:A.handled=none) (zq:A.depth<890) (hclos:closureFor Nb (envX cn cs L a ccd cl')=pure cl) (hfs:∀ x,foldedSetIterable iter (envX cn cs L a ccd cl') x=pure x) (hiter:∀ Q':Value→Shared→Prop,Q' (.ref ax) s→wpAny (model rw_dn0283_03.row.prog w) A (eval iter (envX cn cs L a ccd cl')) Q' E s) (F:Fr g L s.heap m) (N:News g L s.heap base) (o1:s.os=os) (b1:AllBare s.gens) (hax:∃ n,(ax,listOf its n)∈base) (hprs:∀ q∈prs,q∈base) (hits:All2 (Ak prs) its.toList al) (hlz:al.length≤50) (hlq:∀ q∈al,q.1.length≤1000∧q.2.length≤100∧(Di q.2).length≤1000) (fin:∀ (s1:Shared) D ts,ts.map (·.1)=al.map Br→(∀ r∈base,D≠r.1)→Fr g L s1.heap m→News g L s1.heap ((D,LCg.lst (strValues ts))::base)→s1.os=os→AllBare s1.gens→Q (.ref D) s1),wpAny (model rw_dn0283_03.row.prog w) A (eval (.ListComp (atElt p1 p2 p3 p4 p5 p6 p7 p8 p9 p10) [⟨.Tuple [.Name "k" px,.Name "v" px2] k tp,iter,[],0⟩] Nb pos) (envX cn cs L a ccd cl')) Q E s
theorem at_list:∀ {w A s E g os p zw zr mg mb L ax m base cn cs a ccd cl' cl its al prs iter k p1 p2 p3 p4 p5 p6 p7 p8 p9 p10 px px2 tp pos Q},Lw w A s E g os p zw zr mg mb L ax m base cn cs a ccd cl' cl its al prs iter k p1 p2 p3 p4 p5 p6 p7 p8 p9 p10 px px2 tp pos Q:=by
 refine @(Aa (Al neW)<|@(Aa neI<|@(Aa neI<|@(Aa neI<|@(Aa neI<|@(Bg neI<|let_mvar% ?n:=(fun w A s E g os p zw zr mg mb L ax m base cn cs a ccd cl' cl its al prs iter k p1 p2 p3 p4 p5 p6 p7 p8 p9 p10 px px2 tp pos Q=>?_:∀ a b c d e f g h i j k l m n o p q r s t u v w x y z a1 b1 c1 d1 e1 f1 g1 h1 i1 j1 k1 l1 m1 n1 o1,Lw a b c d e f g h i j k l m n o p q r s t u v w x y z a1 b1 c1 d1 e1 f1 g1 h1 i1 j1 k1 l1 m1 n1 o1);?n _ _ _ _ _ _ _ _ _ _ _ _ _ _ _ _ _ _ _ _ _ _ _ _ _ _ _ _ _ _ _ _ _ _ _ _ _ _ _ _ _))))))
 intro X T hh zq hclos hfs hiter F N o1 b1 hax hprs hits hlz hlq fin;rw [eval_ListComp]
 refine wpAny_comprehension_free (use:=none) rfl hfs hclos rfl (by decide) (hiter _ ?_)
 obtain⟨n,hax⟩:=hax
 refine Pn (os:=os) (its:=its) (ax:=ax) (news:=base) (fun rem ys own=>∃ q1 q2 ts,al=q1++q2∧All2 (Ak prs) rem q2∧base=own∧ys=strValues ts∧ts.map (·.1)=q1.map Br)
  (by decide) rfl rfl rfl (by decide) hh F N o1 b1 (.inr ⟨_,hax,rfl,_,rfl⟩) ?_ ⟨[],al,[],rfl,hits,rfl,rfl,rfl⟩ ?_ ?_ ?_ ?_ ?_
 ·have:its.size=al.length:=by rw [← hits.length];simp
  rw [this,sizeLine_eq];exact(Nl fun hn1=>fk [_] (.e V0 (.k 50) (.e (.s (.k 16777216)) V0 K0)) rfl hlz hn1)
 ·rintro rem ys own ⟨q1,q2,ts,_,_,rfl,_⟩
  exact .inr ⟨_,hax,rfl,_,rfl⟩
 ·rintro v rem ys own ⟨q1,q2,ts,_,h2,rfl,_⟩
  cases h2 with
  | cons z _=>exact⟨_,z.mono fun r hr=>hprs r hr⟩
 ·intro v hv
  obtain⟨i,hi⟩:=List.mem_iff_getElem?.mp hv
  have hlt:i<al.length:=by
   rw [← hits.length]
   rcases Nat.lt_or_ge i its.toList.length with z | z
   ·exact z
   ·rw [List.getElem?_eq_none z] at hi;cases hi
  obtain⟨v',e,a,_,_,e2,_⟩:=hits.get (List.getElem?_eq_getElem hlt);rw [hi] at e;cases e;exact⟨a,e2⟩
 ·rintro s1 D v rem ys own I oI C oC m₂ q t1 t2 E' ⟨q1,q2,ts,e1,h2,rfl,rfl,h4⟩ ⟨a,rfl,hm⟩ hC b1' b2' F1 N1 off hIC hDI hDC ho hb
  cases h2 with
  | @cons _ q' _ q2' z h2' =>
   obtain⟨a',u1,u2,ea,hma⟩:=z
   cases ea
   have hqq:q=q':=by
    have g1:=(N1 (a,_) (.tail _ (.tail _ (.tail _ hm)))).1;have g2:=(N1 (a,_) (.tail _ (.tail _ (.tail _ (hprs _ hma))))).1;rw [g1] at g2;have:=congrArg Obj.data (Option.some.inj g2)
    simp only [Data.seq.injEq,Array.mk.injEq,List.cons.injEq,Value.str.injEq,and_true] at this
    obtain⟨q1a,q1b⟩:=q;obtain⟨q2a,q2b⟩:=q'
    simp only at this
    obtain⟨⟨rfl,_⟩,rfl,_⟩:=this
    rfl
   subst hqq
   have hq:=hlq q (by rw [e1];simp)
   have hsub:∀ r,r∈(C,oC)::(I,oI)::(D,LCg.lst (strValues ts))::base↔r∈(I,oI)::(C,oC)::(D,LCg.lst (strValues ts))::base:=fun r=>by
    simp only [List.mem_cons]
    exact⟨fun h=>by rcases h with h | h | h<;>simp [h],fun h=>by rcases h with h | h | h<;>simp [h]⟩
   refine at_elt (m:=m) (news:=(I,oI)::(D,LCg.lst (strValues ts))::base) X T zq F1 (News.sub N1 fun r hr=>(hsub r).mp hr) hC b1' b2' hq.1 hq.2.1 hq.2.2 ho hb fun t3 s' F2 N2 ho2 hb2=>?_
   refine⟨base,⟨q1++[q],q2',ts++[(Br q,t3)],by rw [e1,List.append_assoc];rfl,h2',rfl,by simp [strValues],by rw [List.map_append,List.map_append,h4];rfl⟩,F2,News.sub N2 fun r hr=>(hsub r).mpr hr,off,ho2,hb2⟩
 ·rintro s1 D C ys own mC ⟨q1,q2,ts,e1,h2,rfl,rfl,h4⟩ F1 N1 hneD hns hC0 hCL hDC hoC ho hb
  cases h2
  rw [List.append_nil] at e1;subst e1
  refine⟨mC,hns,fun h'' hs''=>?_⟩
  refine fin _ D ts h4 (fun r hr=>Ne.symm (hneD r hr)) (F1.change hs'' hCL hC0) (fun q hq=>?_) ho hb
  have hqC:q.1≠C:=by
   rcases List.mem_cons.mp hq with rfl | hq
   ·exact hDC
   ·exact hoC q hq
  have z:=N1 q hq;exact⟨hs''.extBut _ _ hqC z.1,z.2⟩
end
theorem rs4:True∧True:=by
 (try walk1);(try w_top off)
 all_goals (first | trivial | exact ⟨trivial,trivial⟩)
section

noncomputable def Gs(w:World)(A:Around)(s:Shared)(g:Heap)(os:OsState)(p:Program)(zw:List Str)(zr:ExcName→Option Value)(mg mb:Str→Option Value)(R:Result→Shared→Prop)(x dx:Addr)(hsh:Nat→Int)(tkn:Nat→Tok)(wr da de ns pm pr:Addr)(rs rd:Bool)(ig:Int)(ep:Nat)(out:Addr)(n1 n2:Nat)(ds:List (Str × Tok))(outs:Array Value)(pre:List Value)(pv:Bool)(D:Str)(ev:Value):Prop :=
 ∀ (X:(hd03.heap_39 w.params).In g) (T:Top p zw zr mg mb g) (H:Ok g os [(x,instObj 150 dx),(dx,dictOf (wd hsh tkn (.bool false) (.bool false) .none ev (.bool false) .none .none .none wr da de ns pm pr rs rd ig) ep),(da,listOf (strValues ds).toArray n1),(out,listOf outs n2),(wr,Ai out)] s) (hh:A.handled=none) (zq:A.depth<800) (hpr:g.IsList pr (pre++[Value.bool pv]).toArray) (hok:JoinOk Str.empty (ds.map (·.1))=true) (hdz:(strValues ds).toArray.size≤sizeLine) (nd:([x,dx,da,out,wr]:List Nat).Nodup) (hdl:(Txt.join Str.empty (ds.map (·.1))).length≤2000) (hoz:outs.size≤sizeLine) (hD:Bq true (Txt.join Str.empty (ds.map (·.1)))=D) (hN0:∀ s' n3,(D=Str.empty∨rs=false)→Ok g os [(x,instObj 150 dx),(dx,dictOf (wd hsh tkn (.bool false) (.bool false) .none ev (.bool false) .none .none .none wr da de ns pm pr rs rd ig) ep),(da,listOf #[] n3),(out,listOf outs n2),(wr,Ai out)] s'→R (.ok (.ret .none)) s') (hN1:∀ s' n3 t,D≠Str.empty→rs=true→Ok g os [(x,instObj 150 dx),(dx,dictOf (wd hsh tkn (.bool false) (.bool false) .none ev (.bool false) .none .none .none wr da de ns pm pr rs rd ig) ep),(da,listOf #[] n3),(out,listOf (outs.push (.str (Lm D) t)) (n2+1)),(wr,Ai out)] s'→R (.ok (.ret .none)) s'),codeAny (model rw_dn0283_03.row.prog w) A (.call (.ref 106) ⟨[.ref x],[]⟩) R s
theorem Ri:∀ {w A s g os p zw zr mg mb R x dx hsh tkn wr da de ns pm pr rs rd ig ep out n1 n2 ds outs pre pv D ev},Gs w A s g os p zw zr mg mb R x dx hsh tkn wr da de ns pm pr rs rd ig ep out n1 n2 ds outs pre pv D ev:=by
 refine @(Aa (Al neW)<|@(Aa neI<|@(Aa neI<|@(Aa neI<|@(Ee neI<|let_mvar% ?n:=(fun w A s g os p zw zr mg mb R x dx hsh tkn wr da de ns pm pr rs rd ig ep out n1 n2 ds outs pre pv D ev=>?_:∀ a b c d e f g h i j k l m n o p q r s t u v w x y z a1 b1 c1 d1 e1 f1 g1 h1,Gs a b c d e f g h i j k l m n o p q r s t u v w x y z a1 b1 c1 d1 e1 f1 g1 h1);?n _ _ _ _ _ _ _ _ _ _ _ _ _ _ _ _ _ _ _ _ _ _ _ _ _ _ _ _ _ _ _ _ _ _)))))
 intro X T H hh zq hpr hok hdz nd hdl hoz hD hN0 hN1;revert X
 k_fill
 intro X
 refine' Gr (fun y=>List.lookup y [("_join_text",.ref 98),("self",.ref x)]) H X T ?k6 ?k7 (Nat.lt_trans zq (by decide)) ?k9 ?kB ?km ?kl ?_ ?c1 ?c2 ?c3 ?c4
 (case k6=>k_is)
 (case k7=>k_is)
 (case k9=>exact binds_K (X.keeps H.keep) rfl (by k_is) rfl rfl rfl)
 (case kB=>exact locs rfl)
 (case km=>exact rfl)
 (case kl=>exact Nat.succ_pos _)
 (case c1=>exact rfl)
 (case c2=>exact rfl)
 (case c3=>exact rfl)
 (case c4=>decide)
 k_whole;with_reducible refine let_mvar% ?zq1:=(fun L' h1 k0=>?_:Fa3 _);Au neI (Cv:Tie _ (type_of% ?zq1)) (?zq1 _ _ _);intro hk0 F1 N1 l1;(try k_lt l1);(try dsimp only)
 refine Dt ?_;walk_at "eps2";rename_i Q9 E9;intro hq9 he9;refine ndk5 nd ?_;intro nxd nxa nxo nxw nda ndo ndw nao naw now;have hsl:D.length≤2000:=hD ▸ Nat.le_trans (Se ..) hdl
 repeat' (first
  | ((with_reducible show wpAny _ _ (callWith _ (.ref 98) _ _ _) _ _ _);refine Ce ?_;(try dsimp only))
  | ((with_reducible show BmP _ _∧_);refine⟨⟨_,_,(X.keeps (Fr.keep (by k_asm))) _ _ (by k_is)⟩,?_⟩)
  | ((with_reducible show wpAny _ _ (call (.ref 98) _) _ _ _);refine Tg ((X.keeps (Fr.keep (by k_asm))) _ _ (by k_is)) ⟨_,(News.get (by k_asm) (by k_mem)),rfl,_,rfl⟩ hok ?_;walk_at "eps2";rename_i tj kj;(try dsimp only))
  | ((with_reducible show wpAny _ _ (delItem (.ref da) _) _ _ _);(rename Fr ..=>F2);(rename News ..=>N2);refine Tl (s:=⟨_,_,_,_,_⟩) F2 N2 (fun n'=>Upd.tail nxa (Upd.tail nda (Upd.head (Fc (Ne.symm nao) (Fc (Ne.symm naw) (List.forall_mem_nil _)))))) hdz ?_;clear F2 N2;walk_at "eps";rename_i h2;walk_at "eps";rename_i n2';intro F2 N2;(try dsimp only))
  | ((fail_if_success (with_reducible show wpAny _ _ (execs (Stmt.If (Expr.BoolOp _ _ _) _ _ _::_) _) _ _ _));walk_at "go"))
 rename Fr ..=>F3
 rename News ..=>N3
 refine' wpAny_execs_cons (Bz (R:=fun s'=>∃ h3 td k3,s'={ s with heap:=h3,toks:=k3 }∧Fr g L' h3 (fun y=>if y="data" then some (.str D td) else List.lookup y [("_join_text",.ref 98),("self",.ref x)])∧News g L' h3 [(x,instObj 150 dx),(dx,dictOf (wd hsh tkn (.bool false) (.bool false) .none ev (.bool false) .none .none .none wr da de ns pm pr rs rd ig) ep),(da,listOf #[] n2'),(out,listOf outs n2),(wr,Ai out)]) ?c1 ?c2)
 case c1 =>
  subst hD
  repeat' (first
   | ((with_reducible show Flow.next=_∧_);(rename Fr ..=>F9);(rename News ..=>N9);first | exact⟨rfl,_,_,_,rfl,F9,N9⟩ | exact⟨rfl,_,_,_,rfl,Fr.to F9 m1_over,N9⟩)
   | ((with_reducible show Q9 _ _);refine hq9 _ _ ?_;(try dsimp only))
   | walk_at "go")
 case c2 =>
  refine exs3 ?_;with_reducible refine let_mvar% ?zq3:=(fun s99 h3 td k3=>?_:Fa4 _);Ax Bc (Cy:Tie _ (type_of% ?zq3)) (?zq3 _ _ _ _);rintro⟨rfl,F4,N4⟩
  dsimp only;clear hD F3 N3 hok hdz hdl hpr
  cases rs with
  | true =>
   repeat' (first
    | ((with_reducible show wpAny _ _ (callWith _ (.ref wr) _ _ _) _ _ _);refine Ce ?_;(try dsimp only))
    | ((with_reducible show BmP _ _∧_);refine⟨⟨_,_,News.get (by k_asm) (by k_mem)⟩,?_⟩)
    | ((with_reducible show LeaveM _ _ _ _ _);(rename Fr ..=>F9);(rename News ..=>N9);first
      | exact leaveM_ F9 N9 H.os H.bare fun H'=>hN0 _ _ (.inl (Fl (by assumption))) H'
      | exact leaveM_ F9 N9 (by assumption) (by assumption) fun H'=>hN1 _ _ _ (Fn (by assumption)) rfl H')
    | ((with_reducible show wpAny _ _ (call (.ref wr) _) _ _ _);(rename Fr ..=>F9);(rename News ..=>N9);refine Hg F9 N9 (by k_mem) (Upd.tail nxo (Upd.tail ndo (Upd.tail nao (Upd.head (Fc (Ne.symm now) (List.forall_mem_nil _)))))) hoz ?_;clear F9 N9;walk_at "eps";rename_i h9;intro F9 N9;(try dsimp only))
    | ((with_reducible show wpAny _ _ (call (.ref 161) _) _ _ _);(rename Fr ..=>F9);(rename News ..=>N9);refine Ca [] [(x,instObj 150 dx),(dx,dictOf (wd hsh tkn (.bool false) (.bool false) .none ev (.bool false) .none .none .none wr da de ns pm pr true rd ig) ep),(da,listOf #[] n2'),(out,listOf outs n2),(wr,Ai out)] F9 N9 H.os H.bare (List.forall_mem_nil _) (by walk_at "l_mem") (fun _ _ z=>nomatch z) fun g₂ H₂ K₂ _ back=>Tp (X.keeps K₂) (T.keeps K₂) H₂ (Nat.lt_of_lt_of_le (Nat.succ_lt_succ zq) (by decide)) hsl fun s5 t5 H5=>?_;obtain⟨F5,N5,o5,b5⟩:=back _ _ H5;clear back F9 N9 H₂ H5;(try clear g₂);revert s5 t5;with_reducible refine let_mvar% ?ns4S2x3:=(fun s5 t5=>?_:Fa2 _);Ah Bc (Ar:Tie _ (type_of% ?ns4S2x3)) (?ns4S2x3 _ _);intro  F5 N5 o5 b5;(try dsimp only))
    | ((with_reducible show Q9 _ _);refine hq9 _ _ ?_;(try dsimp only))
    | walk_at "go")
  | false =>
   repeat' (first
    | ((with_reducible show LeaveM _ _ _ _ _);(rename Fr ..=>F9);(rename News ..=>N9);exact leaveM_ F9 N9 H.os H.bare fun H'=>hN0 _ _ (.inr rfl) H')
    | ((with_reducible show Q9 _ _);refine hq9 _ _ ?_;(try dsimp only))
    | walk_at "go")
theorem Ng{w:World}{A:Around}{s:Shared}{g:Heap}{os:OsState}
  {p:Program} {zw:List Str} {zr:ExcName→Option Value} {mg mb:Str→Option Value} {R:Result→Shared→Prop}
  {x dx:Addr} {hsh:Nat→Int} {tkn:Nat→Tok} {wr da de ns pm pr:Addr} {rs rd:Bool} {ig:Int} {ep:Nat} {out:Addr} {n1 n2:Nat} {ds ol:List (Str × Tok)} {pre:List Value} {pv:Bool} {ev:Value}
  (X:(hd03.heap_39 w.params).In g) (T:Top p zw zr mg mb g) (H:Ok g os [(x,instObj 150 dx),(dx,dictOf (wd hsh tkn (.bool false) (.bool false) .none ev (.bool false) .none .none .none wr da de ns pm pr rs rd ig) ep),(da,listOf (strValues ds).toArray n1),(out,listOf (strValues ol).toArray n2),(wr,Ai out)] s) (hh:A.handled=none) (zq:A.depth<800)
  (hpr:g.IsList pr (pre++[Value.bool pv]).toArray) (hok:JoinOk Str.empty (ds.map (·.1))=true) (hdz:(strValues ds).toArray.size≤sizeLine)
  (nd:([x,dx,da,out,wr]:List Nat).Nodup) (hdl:(Txt.join Str.empty (ds.map (·.1))).length≤2000) (hoz:(strValues ol).toArray.size≤sizeLine)
  (hN:∀ s' n3 n4 ol2,ol2.map (·.1)=ol.map (·.1)++Bn rs (Bq true (Txt.join Str.empty (ds.map (·.1))))→Ok g os [(x,instObj 150 dx),(dx,dictOf (wd hsh tkn (.bool false) (.bool false) .none ev (.bool false) .none .none .none wr da de ns pm pr rs rd ig) ep),(da,listOf #[] n3),(out,listOf (strValues ol2).toArray n4),(wr,Ai out)] s'→R (.ok (.ret .none)) s') :
  codeAny (model rw_dn0283_03.row.prog w) A (.call (.ref 106) ⟨[.ref x],[]⟩) R s:=by
 refine Ri (D:=Bq true (Txt.join Str.empty (ds.map (·.1)))) X T H hh zq hpr hok hdz nd hdl hoz rfl (fun s' n3 c H'=>hN s' n3 n2 ol ?_ H') fun s' n3 t c1 c2 H'=>hN s' n3 (n2+1) (ol++[(Lm (Bq true (Txt.join Str.empty (ds.map (·.1)))),t)]) ?_ ?_
 ·rw [Jx c,List.append_nil]
 ·rw [Pa c1 c2,List.map_append];rfl
 ·rw [Bw];exact H'
end
theorem rs5:True∧True:=by
 (try walk1);(try w_top off)
 all_goals (first | trivial | exact ⟨trivial,trivial⟩)
section

theorem tup2_eq{h:Heap}{a:Addr}{q q':Pr}{t1 t2 u1 u2:Tok}(g1:h.get? a=some (Ad #[.str q.1 t1,.str q.2 t2]))(g2:h.get? a=some (Ad #[.str q'.1 u1,.str q'.2 u2])):q=q':=by
 rw [g1] at g2;have:=congrArg Obj.data (Option.some.inj g2)
 simp only [Ad,Data.seq.injEq,Array.mk.injEq,List.cons.injEq,Value.str.injEq,and_true] at this
 exact Prod.ext this.1.1 this.2.1
noncomputable def Gf(w:World)(A:Around)(s:Shared)(g:Heap)(os:OsState)(p:Program)(zw:List Str)(zr:ExcName→Option Value)(mg mb:Str→Option Value)(R:Result→Shared→Prop)(x dx:Addr)(hsh:Nat→Int)(tkn:Nat→Tok)(wr da de ns pm pr:Addr)(rs rd:Bool)(ep:Nat)(out:Addr)(n2:Nat)(ol:List (Str × Tok))(pre:List Value)(pv:Bool)(dl at_:Addr)(nns npr na:Nat)(dlv nlv:List (Addr × Array Value))(lower nps:List Pr)(tag:Str)(tt:Tok)(l:List ((Str × Tok) × (Str × Tok)))(tabs:List (Addr × Obj))(ev:Value):Prop :=
 ∀ (X:(hd03.heap_39 w.params).In g) (T:Top p zw zr mg mb g) (H:Ok g os ([(x,instObj 150 dx),(dx,dictOf (wd hsh tkn (.bool false) (.bool false) .none ev (.bool false) .none .none .none wr da de ns pm pr rs rd 0) ep),(out,listOf (strValues ol).toArray n2),(wr,Ai out),(dl,listOf #[] 0),(ns,listOf (nlv.map fun p=>Value.ref p.1).toArray nns),(pr,listOf (pre++[Value.bool pv]).toArray npr)]++tabs) s) (hh:A.handled=none) (zq:A.depth<800) (C116:CodeHd g 125 123) (hu:A.units<9000) (hT:Ds 123 ⟨139,71,139,96⟩ (Str.ofString "C14NWriterTarget._start.<locals>.<lambda>") tabs) (hat:g.get? at_=some (dictOf (Bb w.params l) na)) (hlz:l.length≤3) (hsys:(at_ == sysModules)=false) (hnd:(tag::l.map (·.1.1)).Nodup) (hng:∀ n∈tag::l.map (·.1.1),Cc n=true∧known nps (cutName n).1) (hvl:∀ p∈l,p.2.1.length≤100∧(Di p.2.1).length≤1000) (hDe:g.IsList de ((dlv++[(dl,(#[]:Array Value))]).map fun p=>Value.ref p.1).toArray) (hDl:∀ p∈dlv,g.IsList p.1 p.2) (hDz:∀ p∈dlv,(p.2.size:Int)<2 ^ 63) (hDp:All2 (As g) (comes dlv) lower) (hDn:lower.length<2900) (hDs:∀ q∈lower,q.1.length≤200∧q.2.length≤200) (hNl:∀ p∈nlv,g.IsList p.1 p.2∧(p.2.size:Int)<2 ^ 63) (hNp:All2 (As g) (comes nlv) nps) (hNe:∀ q∈nps,q.1.length≤100∧q.2.length≤200∧(Di q.1).length≤1000) (hol:ol.length≤5000) (hl2:nlv.length≤1000) (hl3:pre.length≤1000) (zp:∀ p∈tabs,p.1∉[x,dx,out,wr,dl,ns,pr]) (nd:([x,dx,out,wr,dl,ns,pr]:List Addr).Nodup) (hN:∀ s' n3 n4 n5 nl ol2 itsd nd prs zt,ol2.map (·.1)=ol.map (·.1)++Bm (declare lower nps (Am Av (tag::l.map (·.1.1))) [] []).1 (declare lower nps (Am Av (tag::l.map (·.1.1))) [] []).2 tag (l.map fun p=>(p.1.1,p.2.1))→All2 (Ak prs) itsd.toList (declare lower nps (Am Av (tag::l.map (·.1.1))) [] []).1→Ds 123 ⟨139,71,139,96⟩ (Str.ofString "C14NWriterTarget._start.<locals>.<lambda>") zt→(∀ r∈prs++zt,r.1∉([x,dx,out,wr,dl,ns,pr]:List Addr)∧r.1≠nl)→nl∉([x,dx,out,wr,dl,ns,pr]:List Addr)→Ok g os ([(x,instObj 150 dx),(dx,dictOf (wd hsh tkn (.bool false) (.bool false) .none ev (.bool false) .none .none .none wr da de ns pm pr true rd 0) ep),(out,listOf (strValues ol2).toArray n3),(wr,Ai out),(dl,listOf itsd nd),(ns,listOf ((nlv.map fun p=>Value.ref p.1)++[Value.ref nl]).toArray n4),(nl,listOf #[] 0),(pr,listOf (pre++[Value.bool pv,Value.bool (Be pv (l.map fun p=>(p.1.1,p.2.1)))]).toArray n5)]++(prs++zt)) s'→R (.ok (.ret .none)) s'),codeAny (model rw_dn0283_03.row.prog w) A (.call (.ref 126) ⟨[.ref x,.str tag tt,.ref at_,.ref dl],[]⟩) R s
theorem Ql:∀ {w A s g os p zw zr mg mb R x dx hsh tkn wr da de ns pm pr rs rd ep out n2 ol pre pv dl at_ nns npr na dlv nlv lower nps tag tt l tabs ev},Gf w A s g os p zw zr mg mb R x dx hsh tkn wr da de ns pm pr rs rd ep out n2 ol pre pv dl at_ nns npr na dlv nlv lower nps tag tt l tabs ev:=by
 refine @(Aa (Al neW)<|@(Aa neI<|@(Aa neI<|@(Aa neI<|@(Aa neI<|@(Ef neI<|let_mvar% ?n:=(fun w A s g os p zw zr mg mb R x dx hsh tkn wr da de ns pm pr rs rd ep out n2 ol pre pv dl at_ nns npr na dlv nlv lower nps tag tt l tabs ev=>?_:∀ a b c d e f g h i j k l m n o p q r s t u v w x y z a1 b1 c1 d1 e1 f1 g1 h1 i1 j1 k1 l1 m1 n1 o1 p1 q1,Gf a b c d e f g h i j k l m n o p q r s t u v w x y z a1 b1 c1 d1 e1 f1 g1 h1 i1 j1 k1 l1 m1 n1 o1 p1 q1);?n _ _ _ _ _ _ _ _ _ _ _ _ _ _ _ _ _ _ _ _ _ _ _ _ _ _ _ _ _ _ _ _ _ _ _ _ _ _ _ _ _ _ _))))))
 intro X T H hh zq C116 hu hT hat hlz hsys hnd hng hvl hDe hDl hDz hDp hDn hDs hNl hNp hNe hol hl2 hl3 zp nd hN;revert X
 k_fill
 intro X
 refine' enter_c (fun y=>if y=Str.ofString "qname_text" then some (Value.none) else if y=Str.ofString "new_namespaces" then some (Value.ref dl) else if y=Str.ofString "attrs" then some (Value.ref at_) else if y=Str.ofString "tag" then some (Value.str tag tt) else none) H X T ?k6 ?k7 (Nat.lt_trans zq (by decide)) ?k9 ?kB ?kD ?km ?_ ?c1 ?c2 ?c3
 (case k6=>k_is)
 (case k7=>k_is)
 (case k9=>exact binds_K (X.keeps H.keep) rfl (by k_is) rfl rfl rfl)
 (case kB=>exact kindsX rfl)
 (case kD=>decide +kernel)
 (case km=>exact fun _=>rfl)
 (case c1=>exact rfl)
 (case c2=>exact rfl)
 (case c3=>exact rfl)
 k_whole
 with_reducible refine let_mvar% ?zq1:=(fun L' h1 k0 cells=>?_:Fa4 _);Ax neI (Cy:Tie _ (type_of% ?zq1)) (?zq1 _ _ _ _)
 intro F1 N1 Y1 l1
 refine Dt ?_;with_reducible refine let_mvar% ?zq36:=(fun Q9 E9=>?_:Fa2 _);Ah neI (Ar:Tie _ (type_of% ?zq36)) (?zq36 _ _);intro hq9 he9
 have hy0:=CellsAre.two Y1
 revert hy0;refine Hm ?_;with_reducible refine let_mvar% ?zq2:=(fun oq o0=>?_:Fa2 _);Ah neI (Ar:Tie _ (type_of% ?zq2)) (?zq2 _ _);rintro⟨rfl,hq0',hs0'⟩
 have hq0:oq.data=.cell none:=hq0';have hs0:o0.data=.cell (some (.ref x)):=hs0';clear Y1 hq0' hs0';refine ndk7 nd ?_;intro n_x_dx n_x_out n_x_wr n_x_dl n_x_ns n_x_pr n_dx_out n_dx_wr n_dx_dl n_dx_ns n_dx_pr n_out_wr n_out_dl n_out_ns n_out_pr n_wr_dl n_wr_ns n_wr_pr n_dl_ns n_dl_pr n_ns_pr;dsimp only [List.cons_append,List.nil_append] at N1
 (try k_fold)
 have hNq:∀ q∈nps,q.1.length≤200∧q.2.length≤200:=fun q hq=>⟨Nat.le_trans (hNe q hq).1 (by decide),(hNe q hq).2.1⟩
 have hnd2:(l.map (·.1.1)).Nodup:=(List.nodup_cons.mp hnd).2
 have hdis:∀ p∈l,p.1.1≠tag:=fun p hp e=>(List.nodup_cons.mp hnd).1 (e ▸ List.mem_map_of_mem (f:=fun x:(Str × Tok) × (Str × Tok)=>x.1.1) hp)
 repeat' (first
    | ((with_reducible show wpAny _ _ (eval (Expr.Set _ _ _) _) _ _ _);(rename Fr ..=>F9);(rename News ..=>N9);refine Wt (tag:=tag) (tt:=tt) (d:=at_) (n:=na) (l:=l) hh F9 N9 X (by rfl) (fun s' Q' F h=>nameX_L F rfl h rfl rfl) (fun s' Q' F h=>nameX_L F rfl h rfl rfl) (F9.keep _ _ hat) hnd2 hdis hlz hsys ?_;clear F9 N9;with_reducible refine let_mvar% ?zq3:=(fun qs oS h9 tk9=>?_:Fa4 _);Ax neI (Cy:Tie _ (type_of% ?zq3)) (?zq3 _ _ _ _);intro F9 N9 l9 hTS;(try dsimp only))
    | ((fail_if_success (with_reducible show wpAny _ _ (storeName _ (Str.ofString "parse_qname") (Value.ref _)) _ _ _));walk_at "go"))
 rename_i rn hb0 orn lo0 hs1 fs1 hi1 fi1 lrn hc0 hd0 qm h6 F6 N6 l6
 revert qm h6;with_reducible refine let_mvar% ?zq4:=(fun qm h6=>?_:Fa2 _);Ah neI (Ar:Tie _ (type_of% ?zq4)) (?zq4 _ _);intro F6 N6 l6
 have low:∀ q∈WQ ev x dx hsh tkn wr da de ns pm pr rs rd ep dl (#[]:Array Value) 0++([(out,listOf (strValues ol).toArray n2),(wr,Ai out),(ns,listOf (nlv.map fun p=>Value.ref p.1).toArray nns),(pr,listOf (pre++[Value.bool pv]).toArray npr)]++tabs),q.1<L':=by
  repeat' (first | with_reducible exact List.forall_mem_nil _ | with_reducible refine Fp ?_ ?_ | with_reducible refine Fc ?_ ?_ | exact l1 _ (by walk_at "l_in") | exact fun q hq=>l1 q (by walk_at "l_in"))
 have gq:L'<qs:=Nat.lt_trans (Nat.lt_succ_of_lt (Nat.lt_succ_self L')) (l9 (L'+1+1,oq) (by k_mem))
 have gr:L'<rn:=Nat.lt_trans gq lrn.1;have gm:L'<qm:=Nat.lt_trans gr l6.1
 have cq:L'+1+1<qs:=l9 (L'+1+1,oq) (by k_mem)
 have cr:L'+1+1<rn:=Nat.lt_trans cq lrn.1;have cm:L'+1+1<qm:=Nat.lt_trans cr l6.1
 have N7:News g L' h6 ((L'+1+1,oq)::((qm,methodObj (.ref 90) (.ref x))::(rn,orn)::(qs,oS)::(L'+1,o0)::(WQ ev x dx hsh tkn wr da de ns pm pr rs rd ep dl (#[]:Array Value) 0++([(out,listOf (strValues ol).toArray n2),(wr,Ai out),(ns,listOf (nlv.map fun p=>Value.ref p.1).toArray nns),(pr,listOf (pre++[Value.bool pv]).toArray npr)]++tabs)))):=News.sub N6 (by
  walk_at "l_sub")
 refine storeX_C (c:=L'+1+1) F6 N7 rfl (.head ?_) hq0 ?_ rfl rfl
 ·exact Fc (Nat.ne_of_gt cm) (Fc (Nat.ne_of_gt cr) (Fc (Nat.ne_of_gt cq) (Fc (Nat.ne_of_lt (Nat.lt_succ_self _)) (fun q hq=>Nat.ne_of_lt (Nat.lt_trans (low q hq) (Nat.lt_succ_of_lt (Nat.lt_succ_self _)))))))
 with_reducible refine let_mvar% ?zq5:=(fun h8 oc=>?_:Fa2 _);Ah neI (Ar:Tie _ (type_of% ?zq5)) (?zq5 _ _);intro F8 N8 hoc
 clear N7 N6 F6;dsimp only
 refine wpAny_execs_cons (Rw (by rfl) (by rfl) (fun _=>rfl) ?_)
 have h116:∀ q∈WQ ev x dx hsh tkn wr da de ns pm pr rs rd ep dl (#[]:Array Value) 0++([(out,listOf (strValues ol).toArray n2),(wr,Ai out),(ns,listOf (nlv.map fun p=>Value.ref p.1).toArray nns),(pr,listOf (pre++[Value.bool pv]).toArray npr)]++[(L'+1+1,oc),(qm,methodObj (.ref 90) (.ref x)),(rn,orn),(qs,oS),(L'+1,o0)]),q.1≠123:=by
  have hin:∃ o,((123:Addr),o)∈tabs:=by
   rcases hT with rfl | ⟨c',o',vs,t,rfl,_⟩
   ·exact⟨_,.head _⟩
   ·exact⟨_,.head _⟩
  obtain⟨o116,hin⟩:=hin;have hnot:=zp _ hin;have hlt:(123:Addr)<L':=low (123,o116) (Mr _ (Mr _ hin))
  have hx:∀ a∈[x,dx,out,wr,dl,ns,pr],a≠123:=fun a ha e=>hnot (e ▸ ha)
  refine Fp (Fc (hx _ (by k_mem)) (Fc (hx _ (by k_mem)) (Fc (hx _ (by k_mem)) (List.forall_mem_nil _)))) (Fp (Fc (hx _ (by k_mem)) (Fc (hx _ (by k_mem)) (Fc (hx _ (by k_mem)) (Fc (hx _ (by k_mem)) (List.forall_mem_nil _))))) (Fc (Nat.ne_of_gt (Nat.lt_trans hlt (Nat.lt_succ_of_lt (Nat.lt_succ_self _)))) (Fc (Nat.ne_of_gt (Nat.lt_trans hlt gm)) (Fc (Nat.ne_of_gt (Nat.lt_trans hlt gr)) (Fc (Nat.ne_of_gt (Nat.lt_trans hlt gq)) (Fc (Nat.ne_of_gt (Nat.lt_trans hlt (Nat.lt_succ_self _))) (List.forall_mem_nil _)))))))
 repeat' (first
    | ((with_reducible show wpAny _ _ (eval (Expr.Lambda _ _ _ _) _) _ _ _);refine Wa (P:=123) (c:=125) (tabs:=tabs) (rest:=WQ ev x dx hsh tkn wr da de ns pm pr rs rd ep dl (#[]:Array Value) 0++([(out,listOf (strValues ol).toArray n2),(wr,Ai out),(ns,listOf (nlv.map fun p=>Value.ref p.1).toArray nns),(pr,listOf (pre++[Value.bool pv]).toArray npr)]++[(L'+1+1,oc),(qm,methodObj (.ref 90) (.ref x)),(rn,orn),(qs,oS),(L'+1,o0)])) F8 (News.sub N8 ?nsub) T C116 rfl hT h116 rfl rfl (by rfl) rfl ?lamk)
    | ((fail_if_success (with_reducible show wpAny _ _ (eval (Expr.Lambda _ _ _ _) _) _ _ _));walk_at "go"))
 case nsub =>
  walk_at "l_sub"
 case lamk =>
  with_reducible refine let_mvar% ?zq6:=(fun f zt nl h10 tk10=>?_:Fa5 _);Ci neI (Hf:Tie _ (type_of% ?zq6)) (?zq6 _ _ _ _ _);intro hT' hLI hd1 hd2 F10 N10
  clear N8 F8
  repeat' (first
    | ((with_reducible show wpAny _ _ (call (Value.builtin "sorted") _ _) _ _ _);refine Sb (a:=qs) (oS:=oS) (ks:=(l.map (·.1.1)).reverse++[tag]) hh T.nolimit (Nat.lt_of_lt_of_le (Nat.succ_lt_succ zq) (by decide)) ?hu F10 N10 hLI ?hm hTS ?h1 ?h4 ?hx ?sk)
    | ((fail_if_success (with_reducible show wpAny _ _ (call (Value.builtin "sorted") _ _) _ _ _));walk_at "go"))
  case hu=>show A.units+3+2<cLine;rw [cLine_is];exact(Nt fun hn1=>fk [_] (.e (.s V0) (.k 9000) (.e (.k 9900) (.a (.a V0 (.k 3)) (.k 2)) K0)) rfl hu hn1)
  case hm=>first | k_mem | simp
  case h1=>first | rfl | simp
  case h4=>simp;exact hlz
  case hx =>
   intro n hn
   have hn':n∈tag::l.map (·.1.1):=by
    rcases List.mem_append.mp hn with z | z
    ·exact .tail _ (List.mem_reverse.mp z)
    ·rw [List.mem_singleton.mp z];exact .head _
   exact Nat.le_trans (Cg (hng n hn').1).2.1 (by decide)
  case sk =>
   with_reducible refine let_mvar% ?zq7:=(fun D1 outn c1=>?_:Fa3 _);Au neI (Cv:Tie _ (type_of% ?zq7)) (?zq7 _ _ _);with_reducible refine let_mvar% ?zq8:=(fun s11=>?_:Fa _);Aw neS (tie:Tie _ (type_of% ?zq8)) (?zq8 _);intro g11 o11 hout hltD F11 N11
   clear N10 F10;have hks:Am Av ((l.map (·.1.1)).reverse++[tag])=Am Av (tag::l.map (·.1.1)):=Gt Ct ((Aj _ _).trans ((List.perm_append_comm (l₂:=[tag])).trans ((List.reverse_perm _).cons tag))) (Dd Ct _);rw [hks] at hout
   have hperm:(outn.map (·.1)).Perm (tag::l.map (·.1.1)):=by rw [hout];exact Aj _ _
   have htmp:∀ q∈(D1,listOf (strValues outn).toArray c1)::(nl++(zt++[(L'+1+1,oc),(qm,methodObj (.ref 90) (.ref x)),(rn,orn),(qs,oS),(L'+1,o0)])),∀ r∈WQ ev x dx hsh tkn wr da de ns pm pr rs rd ep dl (#[]:Array Value) 0++[(out,listOf (strValues ol).toArray n2),(wr,Ai out),(ns,listOf (nlv.map fun p=>Value.ref p.1).toArray nns),(pr,listOf (pre++[Value.bool pv]).toArray npr)],q.1≠r.1:=by
    intro q hq r hr
    have hrr:r∈WQ ev x dx hsh tkn wr da de ns pm pr rs rd ep dl (#[]:Array Value) 0++([(out,listOf (strValues ol).toArray n2),(wr,Ai out),(ns,listOf (nlv.map fun p=>Value.ref p.1).toArray nns),(pr,listOf (pre++[Value.bool pv]).toArray npr)]++[(L'+1+1,oc),(qm,methodObj (.ref 90) (.ref x)),(rn,orn),(qs,oS),(L'+1,o0)]):=by
     rcases List.mem_append.mp hr with z | z
     ·exact Ml _ z
     ·exact Mr _ (Ml _ z)
    have hrl:r.1<L':=low r (by
     rcases List.mem_append.mp hr with z | z
     ·exact Ml _ z
     ·exact Mr _ (Ml _ z))
    rcases List.mem_cons.mp hq with rfl | hq
    ·exact Nat.ne_of_gt (hltD r (Mr _ (Mr _ hrr)))
    ·rcases List.mem_append.mp hq with hq | hq
     ·exact hd1 q hq r (Mr _ hrr)
     ·rcases List.mem_append.mp hq with hq | hq
      ·rcases hd2 r hrr q (Mr _ hq) with z | z | z
       ·rw [z];exact Ne.symm (h116 r hrr)
       ·exact Nat.ne_of_gt z
       ·have hz:=zp q z
        intro e;rw [e] at hz
        exact hz ((Fp (p:=fun r:Addr × Obj=>r.1∈[x,dx,out,wr,dl,ns,pr]) (Fc (.head _) (Fc (.tail _ (.head _)) (Fc (.tail _ (.tail _ (.tail _ (.tail _ (.head _))))) (List.forall_mem_nil _)))) (Fc (.tail _ (.tail _ (.head _))) (Fc (.tail _ (.tail _ (.tail _ (.head _)))) (Fc (.tail _ (.tail _ (.tail _ (.tail _ (.tail _ (.head _)))))) (Fc (.tail _ (.tail _ (.tail _ (.tail _ (.tail _ (.tail _ (.head _))))))) (List.forall_mem_nil _)))))) r hr)
      ·exact(List.forall_mem_cons (p:=fun q:Addr × Obj=>q.1≠r.1)).mpr ⟨Nat.ne_of_gt (Nat.lt_trans hrl (Nat.lt_succ_of_lt (Nat.lt_succ_self _))),Fc (Nat.ne_of_gt (Nat.lt_trans hrl gm)) (Fc (Nat.ne_of_gt (Nat.lt_trans hrl gr)) (Fc (Nat.ne_of_gt (Nat.lt_trans hrl gq)) (Fc (Nat.ne_of_gt (Nat.lt_trans hrl (Nat.lt_succ_self _))) (List.forall_mem_nil _))))⟩ q hq
   have N12:News g L' s11.heap (WQ ev x dx hsh tkn wr da de ns pm pr rs rd ep dl (#[]:Array Value) 0++([(out,listOf (strValues ol).toArray n2),(wr,Ai out),(ns,listOf (nlv.map fun p=>Value.ref p.1).toArray nns),(pr,listOf (pre++[Value.bool pv]).toArray npr)]++((D1,listOf (strValues outn).toArray c1)::(nl++(zt++[(L'+1+1,oc),(qm,methodObj (.ref 90) (.ref x)),(rn,orn),(qs,oS),(L'+1,o0)]))))):=News.sub N11 (by
    walk_at "l_sub")
   clear N11
   refine Pu (qm:=qm) (c:=L'+1+1) (oc1:=oc) (nns:=nns) (c1:=c1) (nd0:=0) (dlv:=dlv) (nlv:=nlv) (lower:=lower) (nps:=nps) (O4:=[(out,listOf (strValues ol).toArray n2),(wr,Ai out),(ns,listOf (nlv.map fun p=>Value.ref p.1).toArray nns),(pr,listOf (pre++[Value.bool pv]).toArray npr)]) (tmp:=(D1,listOf (strValues outn).toArray c1)::(nl++(zt++[(L'+1+1,oc),(qm,methodObj (.ref 90) (.ref x)),(rn,orn),(qs,oS),(L'+1,o0)]))) (outn:=outn) (L:=L') (os:=os) X T ?hh9 ?hrm9 ?r1 ?r2 ?r3 ?r4 ?r5 ?r6 hDe hDl hDz hDp hDn hDs (by simp) hNl hNp hNq n_x_dl n_dx_dl ?hrest (.head _) (by simp) hoc (by simp) ?hol ?hnodup ?hng F11 N12 (o11.trans H.os) (by rw [g11];exact H.bare) ?fin
   case hh9=>exact hh
   case r1=>rfl
   case r2=>rfl
   case r3=>exact fun _=>rfl
   case r4=>exact fun _=>rfl
   case r5=>rfl
   case r6=>rfl
   case hrm9=>show A.depth+1<900;exact(Nt fun hn1=>fk [_] (.e (.s V0) (.k 800) (.e (.k 900) (.s V0) K0)) rfl zq hn1)
   case hrest=>exact Fp (Fc ⟨Ne.symm n_x_out,Ne.symm n_dx_out,n_out_dl⟩ (Fc ⟨Ne.symm n_x_wr,Ne.symm n_dx_wr,n_wr_dl⟩ (Fc ⟨Ne.symm n_x_ns,Ne.symm n_dx_ns,Ne.symm n_dl_ns⟩ (Fc ⟨Ne.symm n_x_pr,Ne.symm n_dx_pr,Ne.symm n_dl_pr⟩ (List.forall_mem_nil _))))) fun q hq=>⟨htmp q hq (x,_) (Ml _ (.head _)),htmp q hq (dx,_) (Ml _ (.tail _ (.head _))),htmp q hq (dl,_) (Ml _ (.tail _ (.tail _ (.head _))))⟩
   case hol=>have:=hperm.length_eq;simp at this;exact(Nl fun hn1=>fk [_,_] (.e V0 (.k 3) (.e V1 (.s V0) (.e (.s (.k 40)) V1 K0))) rfl hlz (El this) hn1)
   case hnodup=>exact hperm.nodup_iff.mpr hnd
   case hng=>exact fun n hn=>hng n (hperm.mem_iff.mp hn)
   case fin =>
    with_reducible refine let_mvar% ?zq9:=(fun s12 Dp oD itsd nd kvs tups prs=>?_:Fa8 _);Mz Bc (tie8:Tie _ (type_of% ?zq9)) (?zq9 _ _ _ _ _ _ _ _);intro hits hdD hkv hfr F12 N13 o12 b12
    clear N12;rw [hout] at hits hkv;have hy_dd:∃ dd,(declare lower nps (Am Av (tag::l.map (·.1.1))) [] [])=dd:=⟨_,rfl⟩
    revert hy_dd;refine exi ?_;with_reducible refine let_mvar% ?zq10:=(fun dd=>?_:Fa _);Aw neI (tie:Tie _ (type_of% ?zq10)) (?zq10 _);intro hlv;rw [hlv] at hits hkv
    dsimp only
    have hsz:itsd.size=dd.1.length:=by rw [← hits.length];simp
    have hddl:dd.1.length≤4:=by
     have:=(Bk lower nps (Am Av (tag::l.map (·.1.1))) [] [] (fun n hn=>(hng n ((Aj _ _).mem_iff.mp hn)).2)).2.2
     rw [hlv] at this;have h2:=(Aj Av (tag::l.map (·.1.1))).length_eq
     simp at this h2
     exact(Nl fun hn1=>fk [_,_,_] (.e V0 (.k 3) (.e V1 V2 (.e V2 (.s V0) (.e (.s (.k 4)) V1 K0)))) rfl hlz this (El h2) hn1)
    have hddq:∀ q∈dd.1,q∈nps:=fun q hq=>by
     have:=(Bk lower nps (Am Av (tag::l.map (·.1.1))) [] [] (fun n hn=>(hng n ((Aj _ _).mem_iff.mp hn)).2)).2.1
     rw [hlv] at this
     rcases this q hq with z | z
     ·exact nomatch z
     ·exact z
    have hdps:∀ n pp,dd.2.lookup n=some pp→pp.2.2.length≤200∧pp.2.1.length≤200∧pp.1.length≤500:=fun n pp hpp=>by
     have h3:=Js lower nps (fun q hq=>(hDs q hq).2) (fun q hq=>(hNq q hq).2) (Am Av (tag::l.map (·.1.1))) [] [] (fun _ z=>nomatch z) (fun n hn=>(Cg (hng n ((Aj _ _).mem_iff.mp hn)).1).2.2.2) (n,pp) (by rw [hlv];exact mem_lookup hpp)
     rcases h3 with z | ⟨z1,z2,z3,z4⟩
     ·exact nomatch z
     ·have hg9:=Cg (hng n ((Aj _ _).mem_iff.mp z1)).1
      simp only at z2 z3 z4
      rw [z2,z3];exact⟨hg9.2.2.1,hg9.2.2.2,z4⟩
    have hy_base:∃ base,(WQ ev x dx hsh tkn wr da de ns pm pr rs rd ep dl itsd nd++([(out,listOf (strValues ol).toArray n2),(wr,Ai out),(ns,listOf (nlv.map fun p=>Value.ref p.1).toArray nns),(pr,listOf (pre++[Value.bool pv]).toArray npr)]++((Dp,oD)::(tups++(prs++((D1,listOf (strValues outn).toArray c1)::(nl++(zt++[(L'+1+1,oc),(qm,methodObj (.ref 90) (.ref x)),(rn,orn),(qs,oS),(L'+1,o0)]))))))))=base:=⟨_,rfl⟩
    revert hy_base;refine exi ?_;with_reducible refine let_mvar% ?zq11:=(fun base=>?_:Fa _);Aw neI (tie:Tie _ (type_of% ?zq11)) (?zq11 _);intro hbase;rw [hbase] at N13
    have hprb:∀ q∈prs,q∈base:=fun q hq=>by rw [← hbase];walk_at "l_in"
    have hdlb:(dl,listOf itsd nd)∈base:=by rw [← hbase];walk_at "l_in"
    refine' wpAny_execs_cons (Bz (R:=fun s'=>∃ Da itsA nA tl,All2 (Ak (tl++base)) itsA.toList (Am Bj (dd.1.map Bt))∧(∀ q∈tl,q.1≠Da∧∀ r∈base,q.1≠r.1)∧(∀ r∈base,Da≠r.1)∧Fr g L' s'.heap (fun y=>if y=Str.ofString "attr_list" then some (.ref Da) else if y=Str.ofString "parsed_qnames" then some (.ref Dp) else if y=Str.ofString "qattrs" then some .none else if y=Str.ofString "resolved_names" then some (.ref rn) else if y=Str.ofString "qnames" then some (.ref qs) else if y=Str.ofString "qname_text" then some (Value.none) else if y=Str.ofString "new_namespaces" then some (Value.ref dl) else if y=Str.ofString "attrs" then some (Value.ref at_) else if y=Str.ofString "tag" then some (Value.str tag tt) else none)∧News g L' s'.heap ((Da,listOf itsA nA)::(tl++base))∧s'.os=os∧AllBare s'.gens) ?c1 ?c2)
    case c1 =>
     repeat' (first
      | ((with_reducible show wpAny _ _ (truthy (Value.ref dl)) _ _ _);refine wpAny_truthy_list ⟨_,(N13 _ hdlb).1,rfl,_,rfl⟩ (Fd (by rw [hsz,sizeLine_eq];exact(Nl fun hn1=>fk [_] (.e V0 (.k 4) (.e (.s (.k 16777216)) V0 K0)) rfl hddl hn1))) ?_;(try dsimp only))
      | ((with_reducible show (if _ then _ else _));refine Bo ?_ ?_<;>intro hq)
      | ((fail_if_success (with_reducible show wpAny _ _ (execs (Stmt.Assign _ _ _::_) _) _ _ _));walk_at "go"))
     (try any_goals (exact Str.empty))
     (try any_goals (exact Value.none))
     (try any_goals (exact L'))
     ·refine wpAny_execs_cons (ns_stmt (cl:=[]) (s:={ s12 with toks:=s12.toks+1+1 }) (ax:=dl) (its:=itsd) (lv:=dd.1) (prs:=prs) (base:=base) (os:=os) (L:=L') X T ?hh8 ?r1 ?r2 ?r3 ?r4 ?r5 ?r6 ?hit F12 N13 o12 b12 ⟨_,hdlb⟩ hprb hits (by exact(Nl fun hn1=>fk [_] (.e V0 (.k 4) (.e (.s (.k 50)) V0 K0)) rfl hddl hn1)) (fun q hq=>(hNq q (hddq q hq)).2) ?fin8)
      case hh8=>exact hh
      case r1=>rfl
      case r2=>rfl
      case r3=>rfl
      case r4=>exact fun _=>rfl
      case r5=>rfl
      case r6=>rfl
      case hit=>exact fun Q' hQ=>nameX_L F12 rfl hQ rfl rfl
      case fin8 =>
       with_reducible refine let_mvar% ?zq15:=(fun s14 Da ys tl=>?_:Fa4 _);Ax Bc (Cy:Tie _ (type_of% ?zq15)) (?zq15 _ _ _ _);intro hys ht1 ht2 F14 N14 o14 b14
       dsimp only
       repeat' (first
        | ((with_reducible show wpAny _ _ (call (Value.builtin "list.sort") _) _ _ _);refine Qy (D:=Da) (vs:=ys) (news:=tl++base) F14 N14 (fun q hq=>?hne) (hys.mono fun _ _ z=>z.mono fun _ hq=>Ml _ hq) ?hy4 ?sk8)
        | ((fail_if_success (with_reducible show wpAny _ _ (call (Value.builtin "list.sort") _) _ _ _));walk_at "go"))
       (try any_goals (exact Str.empty))
       (try any_goals (exact Value.none))
       (try any_goals (exact L'))
       case hne =>
        rcases List.mem_append.mp hq with z | z
        ·exact(ht1 q z).1
        ·exact Ne.symm (ht2 q z)
       case hy4=>have:=hys.length;rw [List.length_map] at this;exact(Nl fun hn1=>fk [_,_] (.e V0 (.k 4) (.e V1 V0 (.e (.s (.k 4)) V1 K0))) rfl hddl (El this) hn1)
       case sk8 =>
        with_reducible refine let_mvar% ?zq16:=(fun out8 c8 h15=>?_:Fa3 _);Au neI (Cv:Tie _ (type_of% ?zq16)) (?zq16 _ _ _);intro ho8 F15 N15
        repeat' ((fail_if_success (with_reducible show Flow.next=_∧_));walk_at "go")
        exact⟨rfl,Da,out8.toArray,c8,tl,by simpa using ho8,ht1,ht2,F15,N15,o14,b14⟩
     ·have hemp:dd.1=[]:=by
       have hq':itsd.isEmpty=true:=by simpa using hq
       have:itsd.size=0:=by simpa [Array.isEmpty] using hq'
       exact List.eq_nil_of_length_eq_zero (by exact(Nat.le_antisymm (Nl fun hn2=>fk [_,_] (.e V0 V1 (.e V1 K0 (.e (.s K0) V0 K0))) rfl (Es hsz) (El this) hn2) (Nl fun hn3=>fk [_] (.e (.s V0) K0 K0) rfl hn3)))
      repeat' ((fail_if_success (with_reducible show Flow.next=_∧_));walk_at "go")
      (try any_goals (exact Str.empty))
      (try any_goals (exact Value.none))
      (try any_goals (exact L'))
      rename_i Da hA lA hB F15 N15
      exact⟨rfl,Da,#[],0,[],by rw [hemp];exact .nil,(fun _ z=>nomatch z),(fun r hr=>Nat.ne_of_gt (lA r hr)),F15,N15,o12,b12⟩
    refine exs4 ?_;with_reducible refine let_mvar% ?zq38:=(fun s15 Da itsA nA tl=>?_:Fa5 _);Ci Bc (Hf:Tie _ (type_of% ?zq38)) (?zq38 _ _ _ _ _);rintro⟨hA,ht1,ht2,F15,N15,o15,b15⟩
    clear F12 N13
    (try dsimp only)
    have hdat:∀ (h:Heap),(∀ b o,g.get? b=some o→h.get? b=some o)→h.DictOf (PySem.strKind rw_dn0283_03.row.prog w) at_ (Dn l):=fun h hk=>Heap.dictOf_iff.mpr ⟨_,hk _ _ hat,Hc hnd2⟩
    rw [m5_none (a:=Str.ofString "k") (b:=Str.ofString "v") (c:=Str.ofString "attr_qname") (d:=Str.ofString "attr_name") (e:=Str.ofString "uri") (m0:=(fun y=>if y=Str.ofString "attr_list" then some (Value.ref Da) else if y=Str.ofString "parsed_qnames" then some (Value.ref Dp) else if y=Str.ofString "qattrs" then some Value.none else if y=Str.ofString "resolved_names" then some (Value.ref rn) else if y=Str.ofString "qnames" then some (Value.ref qs) else if y=Str.ofString "qname_text" then some (Value.none) else if y=Str.ofString "new_namespaces" then some (Value.ref dl) else if y=Str.ofString "attrs" then some (Value.ref at_) else if y=Str.ofString "tag" then some (Value.str tag tt) else none)) rfl rfl rfl rfl rfl] at F15
    refine' wpAny_execs_cons (Bz (R:=fun s'=>∃ itsB nB tlB u1 u2 u3 u4 u5,All2 (Ak (tlB++base)) itsB.toList (Az dd.1 dd.2 (l.map fun p=>(p.1.1,p.2.1)))∧(∀ q∈tlB,q.1≠Da∧∀ r∈base,q.1≠r.1)∧Fr g L' s'.heap (m5 (Str.ofString "k") (Str.ofString "v") (Str.ofString "attr_qname") (Str.ofString "attr_name") (Str.ofString "uri") (fun y=>if y=Str.ofString "attr_list" then some (Value.ref Da) else if y=Str.ofString "parsed_qnames" then some (Value.ref Dp) else if y=Str.ofString "qattrs" then some Value.none else if y=Str.ofString "resolved_names" then some (Value.ref rn) else if y=Str.ofString "qnames" then some (Value.ref qs) else if y=Str.ofString "qname_text" then some (Value.none) else if y=Str.ofString "new_namespaces" then some (Value.ref dl) else if y=Str.ofString "attrs" then some (Value.ref at_) else if y=Str.ofString "tag" then some (Value.str tag tt) else none) u1 u2 u3 u4 u5)∧News g L' s'.heap ((Da,listOf itsB nB)::(tlB++base))∧s'.os=os∧AllBare s'.gens) ?d1 ?d2)
    case d1 =>
     repeat' (first
      | ((with_reducible show wpAny _ _ (truthy (Value.ref at_)) _ _ _);refine wpAny_truthy_dict hsys (hdat _ F15.keep) (Fd (by rw [List.length_map,sizeLine_eq];exact(Nl fun hn1=>fk [_] (.e V0 (.k 3) (.e (.s (.k 16777216)) V0 K0)) rfl hlz hn1))) ?_;(try dsimp only))
      | ((with_reducible show (if _ then _ else _));refine Bo ?_ ?_<;>intro hq)
      | ((fail_if_success (with_reducible show wpAny _ _ (execs (Stmt.For _ _ _ _ _::_) _) _ _ _));(fail_if_success (with_reducible show Flow.next=_∧_));walk_at "go"))
     (try any_goals (exact Str.empty))
     (try any_goals (exact Value.none))
     (try any_goals (exact L'))
     ·refine wpAny_execs_cons (For_ (fun _=>rfl) ?_)
      repeat' (first
       | ((with_reducible show wpAny _ _ (getMethod (Value.ref at_) (Str.ofString "items") _) _ _ _);refine Hd (l:=l) (n:=na) (F15.keep _ _ hat) ?_;(try dsimp only))
       | ((with_reducible show wpAny _ _ (call (Value.builtin "dict.items") _) _ _ _);(try dsimp only);refine Qi (l:=l) (n:=na) F15 N15 (F15.keep _ _ hat) hnd2 hsys ?_;clear F15 N15;with_reducible refine let_mvar% ?zq17:=(fun vw h16=>?_:Fa2 _);Ah neI (Ar:Tie _ (type_of% ?zq17)) (?zq17 _ _);intro F16 N16 l16 k16;(try dsimp only))
       | ((with_reducible show wpAny _ _ (call (Value.builtin "sorted") [Value.ref _]) _ _ _);refine Oe (l:=l) (n:=na) (d:=at_) ?hh16 F16 N16 (N16 _ (.head _)).1 (F16.keep _ _ hat) hnd2 (by exact(Nl fun hn1=>fk [_] (.e V0 (.k 3) (.e (.s (.k 4)) V0 K0)) rfl hlz hn1)) ?sk16)
       | ((fail_if_success (with_reducible show wpAny _ _ (call (Value.builtin "sorted") _) _ _ _));(fail_if_success (with_reducible show wpAny _ _ (call (Value.builtin "dict.items") _) _ _ _));walk_at "go"))
      (try any_goals (exact Str.empty))
      (try any_goals (exact Value.none))
      (try any_goals (exact L'))
      case hh16=>exact hh
      case sk16 =>
       with_reducible refine let_mvar% ?zq18:=(fun B tls outS cB h17 tk17=>?_:Fa6 _);Gg neI (tie6:Tie _ (type_of% ?zq18)) (?zq18 _ _ _ _ _ _);intro a1 a2 a3 a4 a5 a6 F17 N17
       have hy_base2:∃ base2,(B,listOf outS.toArray cB)::(tls++((vw,({ cls:=.type "dict_items",data:=.fields #[.ref at_] }:Obj))::(tl++base)))=base2:=⟨_,rfl⟩
       revert hy_base2;refine exi ?_;with_reducible refine let_mvar% ?zq12:=(fun base2=>?_:Fa _);Aw neI (tie:Tie _ (type_of% ?zq12)) (?zq12 _);intro hb2
       have hDb2:∀ r∈base2,Da≠r.1:=by
        intro r hr;rw [← hb2] at hr
        rcases List.mem_cons.mp hr with rfl | hr
        ·exact Nat.ne_of_lt (a5 (Da,listOf itsA nA) (.tail _ (.head _)))
        ·rcases List.mem_append.mp hr with hr | hr
         ·exact Nat.ne_of_lt (a4 (Da,listOf itsA nA) (.tail _ (.head _)) r hr)
         ·rcases List.mem_cons.mp hr with rfl | hr
          ·exact Nat.ne_of_lt (l16 (Da,listOf itsA nA) (.head _))
          ·rcases List.mem_append.mp hr with hr | hr
           ·exact Ne.symm (ht1 r hr).1
           ·exact ht2 r hr
       have N18:News g L' h17 ((Da,listOf itsA nA)::([]++base2)):=News.sub N17 (by
        rw [← hb2]
        exact Fc (by walk_at "l_in") (show ∀ q∈_++_,_ from by walk_at "l_sub"))
       have hsubB:∀ r∈tls++((vw,({ cls:=.type "dict_items",data:=.fields #[.ref at_] }:Obj))::(Da,listOf itsA nA)::(tl++base)),r∈(Da,listOf itsA nA)::base2:=by
        rw [← hb2]
        walk_at "l_sub"
       have notDa:∀ {v:Value} {q:Pr} {ll:List (Addr × Obj)},Ak ((Da,listOf itsA nA)::ll) v q→Ak ll v q:=fun⟨a',t1,t2,e,hm⟩=>by
        rcases List.mem_cons.mp hm with z | z
        ·exact absurd (congrArg (fun p:Addr × Obj=>p.2.cls) z) (by simp)
        ·exact⟨a',t1,t2,e,z⟩
       have houtP:All2 (Ak base2) outS (Am Bj (l.map fun p=>(p.1.1,p.2.1))):=a6.mono fun _ _ z=>notDa (z.mono hsubB)
       have hAP:All2 (Ak base2) itsA.toList (Am Bj (dd.1.map Bt)):=hA.mono fun _ _ z=>z.mono (by
        rw [← hb2]
        walk_at "l_sub")
       refine Vr (its:=outS.toArray) (ax:=B) (os:=os) (L:=L') (h₀:=g) (fun rem m own=>∃ q1 q2 itsB nB tlB u1 u2 u3 u4 u5,Am Bj (l.map fun p=>(p.1.1,p.2.1))=q1++q2∧All2 (Ak base2) rem q2∧m=(m5 (Str.ofString "k") (Str.ofString "v") (Str.ofString "attr_qname") (Str.ofString "attr_name") (Str.ofString "uri") (fun y=>if y=Str.ofString "attr_list" then some (Value.ref Da) else if y=Str.ofString "parsed_qnames" then some (Value.ref Dp) else if y=Str.ofString "qattrs" then some Value.none else if y=Str.ofString "resolved_names" then some (Value.ref rn) else if y=Str.ofString "qnames" then some (Value.ref qs) else if y=Str.ofString "qname_text" then some (Value.none) else if y=Str.ofString "new_namespaces" then some (Value.ref dl) else if y=Str.ofString "attrs" then some (Value.ref at_) else if y=Str.ofString "tag" then some (Value.str tag tt) else none) u1 u2 u3 u4 u5)∧own=(Da,listOf itsB nB)::(tlB++base2) ∧
        All2 (Ak (tlB++base2)) itsB.toList (Am Bj (dd.1.map Bt)++q1.map (Gh dd.2))∧(∀ q∈tlB,q.1≠Da∧∀ r∈base2,q.1≠r.1)) (Uv (Str.ofString "k") (Str.ofString "v")) ?hh17 ?hsrc ?hown ?hasg ?step ?done ⟨[],_,itsA,nA,[],none,none,none,none,none,rfl,by simpa using houtP,rfl,rfl,by simpa using hAP,fun _ z=>nomatch z⟩ F17 N18 o15 b15
       case hh17=>exact hh
       case hsrc =>
        rintro rem m own ⟨q1,q2,itsB,nB,tlB,u1,u2,u3,u4,u5,_,_,_,rfl,_⟩
        exact .inr ⟨_,.tail _ (Mr _ (by rw [← hb2];exact .head _)),rfl,_,rfl⟩
       case hown =>
        intro I i v s1 Q' E' hit hv hq';obtain⟨j,hj⟩:=List.mem_iff_getElem?.mp hv
        have hlt:j<(Am Bj (l.map fun p=>(p.1.1,p.2.1))).length:=by
         rw [← houtP.length]
         rcases Nat.lt_or_ge j outS.length with z | z
         ·exact z
         ·rw [List.getElem?_eq_none (by simpa using z)] at hj;cases hj
        obtain⟨v',e,a',_,_,e2,_⟩:=houtP.get (List.getElem?_eq_getElem hlt)
        have:v=v':=by
         have hj':outS[j]?=some v:=by simpa using hj
         rw [hj'] at e;cases e;rfl
        rw [this,e2];exact wpAny_letOwnedTupleGo_listiter hit hq'
       case hasg =>
        rintro s1 v rem m own news Q' E' ⟨q1,q2,itsB,nB,tlB,u1,u2,u3,u4,u5,_,h2,_,rfl,_⟩ hsub F19 N19 hk
        cases h2 with
        | cons z _=>exact Uz hh (z.mono fun r hr=>.tail _ (Mr _ hr)) hsub F19 N19 hk rfl rfl rfl
       case step =>
        with_reducible refine let_mvar% ?zq19:=(fun s1 v rem m m' own I oI=>?_:Fa8 _);Mz Bc (tie8:Tie _ (type_of% ?zq19)) (?zq19 _ _ _ _ _ _ _ _);intro hJ9 hB9 F19 N19 off19 o19 b19
        refine Dt ?_;with_reducible refine let_mvar% ?zq37:=(fun Q8 E8=>?_:Fa2 _);Ah neI (Ar:Tie _ (type_of% ?zq37)) (?zq37 _ _);intro hq8 he8
        revert hJ9;refine exi7 ?_;with_reducible refine let_mvar% ?zq20:=(fun q1 q2 itsB nB tlB u1 u2=>?_:Fa7 _);Ap neI (Cm:Tie _ (type_of% ?zq20)) (?zq20 _ _ _ _ _ _ _);refine Nd ?_;with_reducible refine let_mvar% ?zq21:=(fun u3 u4 u5=>?_:Fa3 _);Au neI (Cv:Tie _ (type_of% ?zq21)) (?zq21 _ _ _);rintro⟨e1,h2,rfl,rfl,hB,htB⟩
        revert hB9;refine Nd ?_;with_reducible refine let_mvar% ?zq22:=(fun q t1 t2=>?_:Fa3 _);Au neI (Cv:Tie _ (type_of% ?zq22)) (?zq22 _ _ _);rintro⟨hz9,rfl⟩;revert hz9;refine exi ?_;with_reducible refine let_mvar% ?zq23:=(fun a=>?_:Fa _);Aw neI (tie:Tie _ (type_of% ?zq23)) (?zq23 _);rintro⟨rfl,hm⟩
        cases h2 with
        | @cons _ q' _ q2' z h2' =>
         revert q' q2';show ∀ (q':Pr) (q2':List Pr),_;with_reducible refine let_mvar% ?zq24:=(fun q' q2'=>?_:Fa2 _);Ah neI (Ar:Tie _ (type_of% ?zq24)) (?zq24 _ _);intro z h2' e1
         revert z;refine Nd ?_;with_reducible refine let_mvar% ?zq25:=(fun a' w1 w2=>?_:Fa3 _);Au neI (Cv:Tie _ (type_of% ?zq25)) (?zq25 _ _ _);rintro⟨ea,hma⟩
         cases ea
         have hqq:q=q':=by
          exact tup2_eq (N19 (a,_) (.tail _ hm)).1 (N19 (a,_) (.tail _ (.tail _ (Mr _ hma)))).1
         subst hqq
         have hqk:q.1∈tag::l.map (·.1.1):=by
          have:q∈l.map fun p=>(p.1.1,p.2.1):=(Aj Bj _).mem_iff.mp (by rw [e1];walk_at "l_in")
          obtain⟨p',hp',rfl⟩:=List.mem_map.mp this
          exact .tail _ (List.mem_map_of_mem (f:=fun x:(Str × Tok) × (Str × Tok)=>x.1.1) hp')
         have hy_pp:∃ pp,dd.2.lookup q.1=some pp:=by
          have h3:=(Bk lower nps (Am Av (tag::l.map (·.1.1))) [] [] (fun n hn=>(hng n ((Aj _ _).mem_iff.mp hn)).2)).1
          rw [hlv] at h3
          exact lookup_mem (by rw [h3];exact(Aj Av _).mem_iff.mpr hqk)
         revert hy_pp;refine exi ?_;with_reducible refine let_mvar% ?zq26:=(fun pp=>?_:Fa _);Aw neI (tie:Tie _ (type_of% ?zq26)) (?zq26 _);intro hpp
         have hy_ta:=Cw.find hkv hpp
         revert hy_ta;refine exi4 ?_;with_reducible refine let_mvar% ?zq28:=(fun ta y1 y2 y3=>?_:Fa4 _);Ax neI (Cy:Tie _ (type_of% ?zq28)) (?zq28 _ _ _ _);rintro⟨hval,htup⟩
         have hpu:pp.2.2.length≤200:=(hdps _ _ hpp).1
         have hbb:∀ r∈base,r∈(I,oI)::(Da,listOf itsB nB)::(tlB++base2):=fun r hr=>.tail _ (.tail _ (Mr _ (by rw [← hb2];walk_at "l_in")))
         have hDpb:(Dp,oD)∈base:=by rw [← hbase];walk_at "l_in"
         have htab:(ta,Ad #[.str pp.1 y1,.str pp.2.1 y2,.str pp.2.2 y3])∈base:=by rw [← hbase];walk_at "l_in"
         repeat' (first
          | ((with_reducible show wpAny _ _ (subscriptTail _ _ (Value.ref Dp) (Value.str _ _)) _ _ _);refine Mw (kvs:=kvs) (Heap.dictOf_iff.mpr ⟨oD,(N19 _ (hbb _ hDpb)).1,hdD⟩) hval ?_;(try dsimp only))
          | ((with_reducible show wpAny _ _ (assign (Expr.Tuple _ _ _) _ (Value.ref ta)) _ _ _);refine Qt hh F19 N19 ⟨_,(N19 _ (hbb _ htab)).1,rfl,_,rfl⟩ ?_ rfl rfl rfl rfl;clear F19 N19;with_reducible refine let_mvar% ?zq30:=(fun h20 tk20=>?_:Fa2 _);Ah neI (Ar:Tie _ (type_of% ?zq30)) (?zq30 _ _);intro F20 N20;(try dsimp only))
          | ((with_reducible show wpAny _ _ (newTuple _) _ _ _);(rename Fr ..=>F9);(rename News ..=>N9);refine kup_newTuple F9 N9 ?_ (by rw [sizeLine_eq];exact Nat.le_of_ble_eq_true rfl);clear F9 N9;walk_at "eps2";rename_i D21 h21;intro F21 N21 hlt20;(try dsimp only))
          | ((fail_if_success (with_reducible show wpAny _ _ (call (Value.builtin "list.append") _) _ _ _));walk_at "go"))
         (try any_goals (exact Str.empty))
         (try any_goals (exact Value.none))
         (try any_goals (exact L'))
         all_goals
          rename_i hqq;have hIDa:I≠Da:=Ne.symm (off19 (Da,listOf itsB nB) (.head _))
          have hDaR:∀ r∈tlB++base2,r.1≠Da:=fun r hr=>by
           rcases List.mem_append.mp hr with z | z
           ·exact(htB r z).1
           ·exact Ne.symm (hDb2 r z)
          have hszB:itsB.size=(Am Bj (dd.1.map Bt)).length+q1.length:=by
           have:=hB.length
           simp only [Array.length_toList,List.length_append,List.length_map] at this
           exact this
          have hq1l:q1.length≤3:=by
           have h5:=congrArg List.length e1
           have h6:=(Aj Bj (l.map fun p=>(p.1.1,p.2.1))).length_eq
           simp at h5 h6
           exact(Nl fun hn1=>fk [_,_,_,_] (.e V0 (.k 3) (.e (.a V1 (.s V2)) V3 (.e V3 V0 (.e (.s (.k 3)) V1 K0)))) rfl hlz (Es h5) (El h6) hn1)
          have hsl:(Am Bj (dd.1.map Bt)).length≤4:=by
           rw [(Aj Bj (dd.1.map Bt)).length_eq,List.length_map];exact hddl
          refine append_K F21 N21 (.tail (Nat.ne_of_gt (hlt20 (Da,listOf itsB nB) (.tail _ (.head _)))) (.tail hIDa (.head hDaR))) ?_ (by rw [hszB,sizeLine_eq];exact(Nl fun hn1=>fk [_,_] (.e V0 (.k 3) (.e V1 (.k 4) (.e (.s (.k 16777216)) (.a V1 V0) K0))) rfl hq1l hsl hn1))
          walk_at "eps";rename_i h22;intro F22 N22
          repeat' ((fail_if_success (with_reducible show Q8 _ _));walk_at "go")
         ·have hatt:Gh dd.2 q=(pp.1,q.2):=by unfold Gh;rw [hpp];exact congrArg (·,q.2) (if_neg (Fn hqq))
          refine hq8 _ _ ?_
          (try dsimp only)
          refine⟨_,(Da,listOf (itsB.push (.ref D21)) (nB+1))::(((D21,Ad #[.str pp.1 y1,.str q.2 t2])::tlB)++base2),⟨q1++[q],q2',itsB.push (.ref D21),nB+1,(D21,Ad #[.str pp.1 y1,.str q.2 t2])::tlB,_,_,_,_,_,by rw [e1,List.append_assoc];rfl,h2',Sp,rfl,?_,?_⟩,F22,News.sub N22 ?_,?_,o19,b19⟩
          ·rw [Array.toList_push,List.map_append,← List.append_assoc]
           refine(hB.mono fun _ _ z=>z.mono fun r hr=>.tail _ hr).snoc ?_
           rw [hatt];exact⟨D21,y1,t2,rfl,.head _⟩
          ·intro r hr
           rcases List.mem_cons.mp hr with rfl | hr
           ·exact⟨Nat.ne_of_gt (hlt20 (Da,listOf itsB nB) (.tail _ (.head _))),fun r' hr'=>Nat.ne_of_gt (hlt20 r' (.tail _ (.tail _ (Mr _ hr'))))⟩
           ·exact htB r hr
          ·dsimp only [List.cons_append]
           walk_at "l_sub"
          ·intro r hr
           revert r hr
           exact Fc (off19 (Da,listOf itsB nB) (.head _)) (Fc (Nat.ne_of_gt (hlt20 (I,oI) (.head _))) (fun r hr=>off19 r (.tail _ hr)))
         ·have hatt:Gh dd.2 q=(pp.2.1,q.2):=by unfold Gh;rw [hpp];exact congrArg (·,q.2) (if_pos (Fl hqq))
          refine hq8 _ _ ?_
          (try dsimp only)
          refine⟨_,(Da,listOf (itsB.push (.ref D21)) (nB+1))::(((D21,Ad #[.str pp.2.1 y2,.str q.2 t2])::tlB)++base2),⟨q1++[q],q2',itsB.push (.ref D21),nB+1,(D21,Ad #[.str pp.2.1 y2,.str q.2 t2])::tlB,_,_,_,_,_,by rw [e1,List.append_assoc];rfl,h2',Sp,rfl,?_,?_⟩,F22,News.sub N22 ?_,?_,o19,b19⟩
          ·rw [Array.toList_push,List.map_append,← List.append_assoc]
           refine(hB.mono fun _ _ z=>z.mono fun r hr=>.tail _ hr).snoc ?_
           rw [hatt];exact⟨D21,y2,t2,rfl,.head _⟩
          ·intro r hr
           rcases List.mem_cons.mp hr with rfl | hr
           ·exact⟨Nat.ne_of_gt (hlt20 (Da,listOf itsB nB) (.tail _ (.head _))),fun r' hr'=>Nat.ne_of_gt (hlt20 r' (.tail _ (.tail _ (Mr _ hr'))))⟩
           ·exact htB r hr
          ·dsimp only [List.cons_append]
           walk_at "l_sub"
          ·intro r hr
           revert r hr
           exact Fc (off19 (Da,listOf itsB nB) (.head _)) (Fc (Nat.ne_of_gt (hlt20 (I,oI) (.head _))) (fun r hr=>off19 r (.tail _ hr)))
       case done =>
        rintro s1 m own ⟨q1,q2,itsB,nB,tlB,u1,u2,u3,u4,u5,e1,h2,rfl,rfl,hB,htB⟩ F19 N19 o19 b19
        cases h2
        rw [List.append_nil] at e1;dsimp only
        repeat' ((fail_if_success (with_reducible show Flow.next=_∧_));walk_at "go")
        have hb3:base2=((B,listOf outS.toArray cB)::(tls++((vw,({ cls:=.type "dict_items",data:=.fields #[.ref at_] }:Obj))::tl)))++base:=by rw [← hb2];simp
        refine⟨rfl,itsB,nB,tlB++((B,listOf outS.toArray cB)::(tls++((vw,({ cls:=.type "dict_items",data:=.fields #[.ref at_] }:Obj))::tl))),u1,u2,u3,u4,u5,?_,?_,F19,?_,o19,b19⟩
        ·rw [List.append_assoc,← hb3]
         unfold Az;rw [e1];exact hB
        ·exact Fp (fun r hr=>⟨(htB r hr).1,fun r' hr'=>(htB r hr).2 r' (by rw [hb3];exact Mr _ hr')⟩) (Fc ⟨Nat.ne_of_gt (a5 (Da,listOf itsA nA) (.tail _ (.head _))),fun r' hr'=>Nat.ne_of_gt (a5 r' (.tail _ (.tail _ (Mr _ hr'))))⟩ (Fp (fun r hr=>⟨Nat.ne_of_gt (a4 (Da,listOf itsA nA) (.tail _ (.head _)) r hr),fun r' hr'=>Nat.ne_of_gt (a4 r' (.tail _ (.tail _ (Mr _ hr'))) r hr)⟩) (Fc ⟨Nat.ne_of_gt (l16 (Da,listOf itsA nA) (.head _)),fun r' hr'=>Nat.ne_of_gt (l16 r' (.tail _ (Mr _ hr')))⟩ ht1)))
        ·rw [List.append_assoc,← hb3];exact N19
     ·have hl0:l=[]:=by
       cases l with
       | nil=>rfl
       | cons _ _=>exact absurd rfl hq
      refine⟨rfl,itsA,nA,tl,none,none,none,none,none,?_,ht1,F15,N15,o15,b15⟩;rw [hl0];unfold Az
      simpa [Am] using hA
    refine exs8 ?_;with_reducible refine let_mvar% ?zq39:=(fun s16 itsB nB tlB u1 u2 u3=>?_:Fa7 _);Ap Bc (Cm:Tie _ (type_of% ?zq39)) (?zq39 _ _ _ _ _ _ _);with_reducible refine let_mvar% ?zq40:=(fun u4 u5=>?_:Fa2 _);Ah neI (Ar:Tie _ (type_of% ?zq40)) (?zq40 _ _);rintro⟨hB,htB,F16,N16,o16,b16⟩
    clear F15 N15 ht1 hA
    (try dsimp only)
    have hW7:∀ r∈WQ ev x dx hsh tkn wr da de ns pm pr rs rd ep dl itsd nd++[(out,listOf (strValues ol).toArray n2),(wr,Ai out),(ns,listOf (nlv.map fun p=>Value.ref p.1).toArray nns),(pr,listOf (pre++[Value.bool pv]).toArray npr)],r.2.cls≠.type "tuple":=by
     repeat' (first | with_reducible exact List.forall_mem_nil _ | with_reducible refine Fp ?_ ?_ | with_reducible refine Fc ?_ ?_ | exact(by decide:(.ref 150:Value)≠.type "tuple") | exact(by decide:(.type "dict":Value)≠.type "tuple") | exact(by decide:(.type "list":Value)≠.type "tuple") | simp)
    have hoff:=fin_off (d:=(Da,listOf itsB nB)) hbase ht2 htB hfr htmp
    have N17:=fin_led (c:=(L'+1,o0)) hbase (by first | k_mem | simp) N16
    have hBr:=hB.mono fun _ _ z=>Rv (W:=WQ ev x dx hsh tkn wr da de ns pm pr rs rd ep dl itsd nd++[(out,listOf (strValues ol).toArray n2),(wr,Ai out),(ns,listOf (nlv.map fun p=>Value.ref p.1).toArray nns),(pr,listOf (pre++[Value.bool pv]).toArray npr)]) hW7 (by rw [← hbase,← List.append_assoc (WQ ev x dx hsh tkn wr da de ns pm pr rs rd ep dl itsd nd)] at z;exact z)
    have hal:=Ox (l:=l.map fun p=>(p.1.1,p.2.1)) hddq hNe (by
     intro q hq;obtain⟨p',hp',rfl⟩:=List.mem_map.mp hq
     exact⟨(hvl p' hp').1,(hvl p' hp').2,(Cg (hng _ (.tail _ (List.mem_map_of_mem (f:=fun x:(Str × Tok) × (Str × Tok)=>x.1.1) hp'))).1).2.1⟩) hdps
    have hall:(Az dd.1 dd.2 (l.map fun p=>(p.1.1,p.2.1))).length≤50:=by rw [Iz,List.length_map];exact(Nl fun hn1=>fk [_,_] (.e V0 (.k 3) (.e V1 (.k 4) (.e (.s (.k 50)) (.a V1 V0) K0))) rfl hlz hddl hn1)
    have hsub0:∀ r∈tlB++((Dp,oD)::(tups++(prs++((D1,listOf (strValues outn).toArray c1)::(nl++(zt++[(L'+1+1,oc),(qm,methodObj (.ref 90) (.ref x)),(rn,orn),(qs,oS),(L'+1,o0)])))))),r∈(Da,listOf itsB nB)::(tlB++((Dp,oD)::(tups++(prs++((D1,listOf (strValues outn).toArray c1)::(nl++(zt++[(L'+1+1,oc),(qm,methodObj (.ref 90) (.ref x)),(rn,orn),(qs,oS),(L'+1,o0)]))))))):=fun r hr=>.tail _ hr
    have hin1:(Da,listOf itsB nB)∈(Da,listOf itsB nB)::(tlB++((Dp,oD)::(tups++(prs++((D1,listOf (strValues outn).toArray c1)::(nl++(zt++[(L'+1+1,oc),(qm,methodObj (.ref 90) (.ref x)),(rn,orn),(qs,oS),(L'+1,o0)]))))))):=.head _;have hin2:(Dp,oD)∈(Da,listOf itsB nB)::(tlB++((Dp,oD)::(tups++(prs++((D1,listOf (strValues outn).toArray c1)::(nl++(zt++[(L'+1+1,oc),(qm,methodObj (.ref 90) (.ref x)),(rn,orn),(qs,oS),(L'+1,o0)]))))))):=.tail _ (Mr _ (.head _))
    have hin3:∀ r∈tups,r∈(Da,listOf itsB nB)::(tlB++((Dp,oD)::(tups++(prs++((D1,listOf (strValues outn).toArray c1)::(nl++(zt++[(L'+1+1,oc),(qm,methodObj (.ref 90) (.ref x)),(rn,orn),(qs,oS),(L'+1,o0)]))))))):=fun r hr=>.tail _ (Mr _ (.tail _ (Ml _ hr)))
    have hin4:∀ r∈prs++zt,r∈(Da,listOf itsB nB)::(tlB++((Dp,oD)::(tups++(prs++((D1,listOf (strValues outn).toArray c1)::(nl++(zt++[(L'+1+1,oc),(qm,methodObj (.ref 90) (.ref x)),(rn,orn),(qs,oS),(L'+1,o0)]))))))):=fun r hr=>by
     rcases List.mem_append.mp hr with z | z
     ·exact .tail _ (Mr _ (.tail _ (Mr _ (Ml _ z))))
     ·exact .tail _ (Mr _ (.tail _ (Mr _ (Mr _ (.tail _ (Mr _ (Ml _ z)))))))
    have hy_rest:∃ rest,(Da,listOf itsB nB)::(tlB++((Dp,oD)::(tups++(prs++((D1,listOf (strValues outn).toArray c1)::(nl++(zt++[(L'+1+1,oc),(qm,methodObj (.ref 90) (.ref x)),(rn,orn),(qs,oS),(L'+1,o0)])))))))=rest:=⟨_,rfl⟩
    revert hy_rest;refine exi ?_;with_reducible refine let_mvar% ?zq13:=(fun rest=>?_:Fa _);Aw neI (tie:Tie _ (type_of% ?zq13)) (?zq13 _);intro hrest9;rw [hrest9] at N17 hoff hsub0 hin1 hin2 hin3 hin4
    have hBr:=hBr.mono fun _ _ z=>z.mono hsub0
    clear N16 hW7 ht2 htB hfr htmp hB hsub0 hdlb hprb
    simp only [List.cons_append,List.nil_append] at N17
    have e_x:∀ r∈rest,r.1≠x:=fun r hr=>(hoff r hr).1
    have e_dx:∀ r∈rest,r.1≠dx:=fun r hr=>(hoff r hr).2.1
    have e_dl:∀ r∈rest,r.1≠dl:=fun r hr=>(hoff r hr).2.2.1
    have e_out:∀ r∈rest,r.1≠out:=fun r hr=>(hoff r hr).2.2.2.1
    have e_ns:∀ r∈rest,r.1≠ns:=fun r hr=>(hoff r hr).2.2.2.2.2.1
    have e_pr:∀ r∈rest,r.1≠pr:=fun r hr=>(hoff r hr).2.2.2.2.2.2
    have c_dx:L'+1≠dx:=Nat.ne_of_gt (Nat.lt_trans (low (dx,_) (Ml _ (.tail _ (.head _)))) (Nat.lt_succ_self _));have c_out:L'+1≠out:=Nat.ne_of_gt (Nat.lt_trans (low (out,_) (Mr _ (Ml _ (.head _)))) (Nat.lt_succ_self _));have c_ns:L'+1≠ns:=Nat.ne_of_gt (Nat.lt_trans (low (ns,_) (Mr _ (Ml _ (.tail _ (.tail _ (.head _)))))) (Nat.lt_succ_self _));have c_pr:L'+1≠pr:=Nat.ne_of_gt (Nat.lt_trans (low (pr,_) (Mr _ (Ml _ (.tail _ (.tail _ (.tail _ (.head _))))))) (Nat.lt_succ_self _))
    repeat' (first
     | ((with_reducible show wpAny _ _ (getMethod (Value.ref at_) (Str.ofString "get") _) _ _ _);refine Vu (l:=l) (n:=na) (F16.keep _ _ hat) ?_;(try dsimp only))
     | ((with_reducible show wpAny _ _ (call (Value.builtin "dict.get") _) _ _ _);(try dsimp only);refine Va (hdat _ F16.keep) hsys ?_;(try dsimp only))
     | ((fail_if_success (with_reducible show wpAny _ _ (execs (Stmt.Expr _ _::_) _) _ _ _));walk_at "go"))
    (try any_goals (exact Str.empty))
    (try any_goals (exact Value.none))
    (try any_goals (exact L'))
    rename_i h17 F17 N17;have hy_vsb:∃ vsb,(valueAt (Dn l) (Str.ofString "{http://www.w3.org/XML/1998/namespace}space")).getD Value.none=vsb:=⟨_,rfl⟩
    revert hy_vsb;refine exi ?_;with_reducible refine let_mvar% ?zq14:=(fun vsb=>?_:Fa _);Aw neI (tie:Tie _ (type_of% ?zq14)) (?zq14 _);intro hvs;rw [hvs] at F17
    refine' wpAny_execs_cons (Bz (R:=fun s'=>∃ n5,Fr g L' s'.heap (fun y=>if y=Str.ofString "space_behaviour" then some vsb else m5 (Str.ofString "k") (Str.ofString "v") (Str.ofString "attr_qname") (Str.ofString "attr_name") (Str.ofString "uri") (fun y=>if y=Str.ofString "attr_list" then some (Value.ref Da) else if y=Str.ofString "parsed_qnames" then some (Value.ref Dp) else if y=Str.ofString "qattrs" then some Value.none else if y=Str.ofString "resolved_names" then some (Value.ref rn) else if y=Str.ofString "qnames" then some (Value.ref qs) else if y=Str.ofString "qname_text" then some (Value.none) else if y=Str.ofString "new_namespaces" then some (Value.ref dl) else if y=Str.ofString "attrs" then some (Value.ref at_) else if y=Str.ofString "tag" then some (Value.str tag tt) else none) u1 u2 u3 u4 u5 y)∧News g L' s'.heap ((x,instObj 150 dx)::(dx,dictOf (wd hsh tkn (.bool false) (.bool false) .none ev (.bool false) .none .none .none wr da de ns pm pr rs rd 0) ep)::(dl,listOf itsd nd)::(out,listOf (strValues ol).toArray n2)::(wr,Ai out)::(ns,listOf (nlv.map fun p=>Value.ref p.1).toArray nns)::(pr,listOf (pre++[Value.bool pv,Value.bool (Be pv (l.map fun p=>(p.1.1,p.2.1)))]).toArray n5)::(L'+1,o0)::rest)∧s'.os=os∧AllBare s'.gens) ?p1 ?p2)
    case p1 =>
     rcases Qk Qh l with ⟨v1,v2⟩ | hyz
     ·have hv0:vsb=.none:=by rw [← hvs];rw [v2];rfl
      subst hv0
      have hk0:Be pv (l.map fun p=>(p.1.1,p.2.1))=pv:=by unfold Be;rw [v1]
      rw [hk0]
      repeat' (first
       | ((with_reducible show wpAny _ _ (subscriptTail _ _ (Value.ref pr) (Value.int (-1) _)) _ _ _);refine Cu (vs:=pre) (v:=.bool pv) ⟨_,News.get (by k_asm) (by k_mem),rfl,_,rfl⟩ ?_;(try dsimp only))
       | ((with_reducible show wpAny _ _ (call (Value.builtin "list.append") [Value.ref pr,_]) _ _ _);(rename Fr ..=>F9);(rename News ..=>N9);refine append_K F9 N9 (by walk_at "l_upd") ?_ (by(rw [sizeLine_eq];simp;exact(Nl fun hn1=>fk [_] (.e V0 (.k 1000) (.e (.s (.k 16777215)) V0 K0)) rfl hl3 hn1)));clear F9 N9;walk_at "eps";rename_i h9;intro F9 N9;(try k_sweep))
       | ((fail_if_success (with_reducible show Flow.next=_∧_));walk_at "go"))
      (try any_goals (exact Str.empty))
      (try any_goals (exact Value.none))
      (try any_goals (exact L'))
      all_goals ((rename Fr ..=>F9);(rename News ..=>N9))
      all_goals first
       | exact trivial
       | (simp only [List.push_toArray,List.append_assoc,List.cons_append,List.nil_append] at N9;exact⟨_,F9,N9,o16,b16⟩)
     ·revert hyz;refine Hm ?_;with_reducible refine let_mvar% ?zq31:=(fun b tb=>?_:Fa2 _);Ah neI (Ar:Tie _ (type_of% ?zq31)) (?zq31 _ _);rintro⟨v1,v2,hyz⟩;revert hyz;refine exi ?_;with_reducible refine let_mvar% ?zq32:=(fun pz=>?_:Fa _);Aw neI (tie:Tie _ (type_of% ?zq32)) (?zq32 _);rintro⟨hpz,rfl⟩
      have hv0:vsb=.str pz.2.1 tb:=by rw [← hvs];rw [v2];rfl
      subst hv0;have hbz:pz.2.1.length≤100:=(hvl pz hpz).1
      repeat' (first
       | ((with_reducible show wpAny _ _ (subscriptTail _ _ (Value.ref pr) (Value.int (-1) _)) _ _ _);refine Cu (vs:=pre) (v:=.bool pv) ⟨_,News.get (by k_asm) (by k_mem),rfl,_,rfl⟩ ?_;(try dsimp only))
       | ((with_reducible show wpAny _ _ (call (Value.builtin "list.append") [Value.ref pr,_]) _ _ _);(rename Fr ..=>F9);(rename News ..=>N9);refine append_K F9 N9 (by walk_at "l_upd") ?_ (by(rw [sizeLine_eq];simp;exact(Nl fun hn1=>fk [_] (.e V0 (.k 1000) (.e (.s (.k 16777215)) V0 K0)) rfl hl3 hn1)));clear F9 N9;walk_at "eps";rename_i h9;intro F9 N9;(try k_sweep))
       | ((fail_if_success (with_reducible show Flow.next=_∧_));walk_at "go"))
      (try any_goals (exact Str.empty))
      (try any_goals (exact Value.none))
      (try any_goals (exact L'))
      all_goals ((rename Fr ..=>F9);(rename News ..=>N9);simp only [List.push_toArray,List.append_assoc,List.cons_append,List.nil_append] at N9)
      (try any_goals exact trivial)
      ·have hq:((pz.2.1.length:Int) != 0)=true:=by assumption
       have hk0:Be pv (l.map fun p=>(p.1.1,p.2.1))=(pz.2.1 == Str.ofString "preserve"):=by
        unfold Be;rw [v1];simp only;rw [if_neg (Fn hq)];by_cases he:pz.2.1=Str.ofString "preserve"<;>simp [he]
       rw [hk0];exact⟨_,F9,N9,o16,b16⟩
      ·have hq:¬ ((pz.2.1.length:Int) != 0)=true:=by assumption
       have hk0:Be pv (l.map fun p=>(p.1.1,p.2.1))=pv:=by
        unfold Be;rw [v1];simp only;rw [if_pos (Fl hq)]
       rw [hk0];exact⟨_,F9,N9,o16,b16⟩
    refine exs1 ?_;with_reducible refine let_mvar% ?zq41:=(fun s18 n5=>?_:Fa2 _);Ah Bc (Ar:Tie _ (type_of% ?zq41)) (?zq41 _ _);rintro⟨F18,N18,o18,b18⟩
    clear F17 N17
    (try dsimp only)
    have hy_pp:∃ pp,dd.2.lookup tag=some pp:=by
     have h3:=(Bk lower nps (Am Av (tag::l.map (·.1.1))) [] [] (fun n hn=>(hng n ((Aj _ _).mem_iff.mp hn)).2)).1
     rw [hlv] at h3
     exact lookup_mem (by rw [h3];exact(Aj Av _).mem_iff.mpr (.head _))
    revert hy_pp;refine exi ?_;with_reducible refine let_mvar% ?zq27:=(fun pp=>?_:Fa _);Aw neI (tie:Tie _ (type_of% ?zq27)) (?zq27 _);intro hpp
    have hy_ta:=Cw.find hkv hpp
    revert hy_ta;refine exi4 ?_;with_reducible refine let_mvar% ?zq29:=(fun ta y1 y2 y3=>?_:Fa4 _);Ax neI (Cy:Tie _ (type_of% ?zq29)) (?zq29 _ _ _ _);rintro⟨hval,htup⟩
    have hpz:pp.1.length≤500:=(hdps _ _ hpp).2.2
    have hozz:(strValues ol).toArray.size≤sizeLine:=by rw [sizeLine_eq];simp [strValues];exact(Nl fun hn1=>fk [_] (.e V0 (.k 5000) (.e (.s (.k 16777216)) V0 K0)) rfl hol hn1)
    repeat' (first
     | ((with_reducible show wpAny _ _ (subscriptTail _ _ (Value.ref Dp) (Value.str _ _)) _ _ _);(rename News ..=>N9);refine Mw (kvs:=kvs) (Heap.dictOf_iff.mpr ⟨oD,(N9 _ (List.mem_append_right [_,_,_,_,_,_,_,_] hin2)).1,hdD⟩) hval ?_;(try dsimp only))
     | ((with_reducible show wpAny _ _ (subscriptTail _ _ (Value.ref ta) (Value.int 0 _)) _ _ _);(rename News ..=>N9);refine Hw ⟨_,(N9 _ (List.mem_append_right [_,_,_,_,_,_,_,_] (hin3 _ htup))).1,rfl,_,rfl⟩ ?_;(try dsimp only))
     | ((with_reducible show wpAny _ _ (callWith _ (Value.ref wr) _ _ _) _ _ _);refine Ce ?_;(try dsimp only))
     | ((with_reducible show BmP _ _∧_);refine⟨⟨_,_,News.get (by k_asm) (by k_mem)⟩,?_⟩)
     | ((with_reducible show wpAny _ _ (call (Value.ref wr) _) _ _ _);(rename Fr ..=>F9);(rename News ..=>N9);refine Hg F9 N9 (by k_mem) (by walk_at "l_upd") hozz ?_;clear F9 N9;walk_at "eps";rename_i h9;intro F9 N9;(try dsimp only))
     | ((fail_if_success (with_reducible show wpAny _ _ (execs (Stmt.If _ _ _ _::_) _) _ _ _));walk_at "go"))
    (try any_goals (exact Str.empty))
    (try any_goals (exact Value.none))
    (try any_goals (exact L'))
    rw [← Bw] at N9
    have hstx:Fs dd.2 tag=pp.1:=by unfold Fs;rw [hpp]
    have hal0:itsB.size=(Az dd.1 dd.2 (l.map fun p=>(p.1.1,p.2.1))).length:=by rw [← hBr.length];simp
    refine' wpAny_execs_cons (Bz (R:=fun s'=>∃ ol2 n3,ol2.map (·.1)=ol.map (·.1)++([Str.ofString "<"++Fs dd.2 tag]++(if Az dd.1 dd.2 (l.map fun p=>(p.1.1,p.2.1))=[] then [] else [Txt.join Str.empty ((Az dd.1 dd.2 (l.map fun p=>(p.1.1,p.2.1))).map Br)]))∧ol2.length≤6000∧Fr g L' s'.heap (fun y=>if y=Str.ofString "write" then some (Value.ref wr) else if y=Str.ofString "space_behaviour" then some vsb else m5 (Str.ofString "k") (Str.ofString "v") (Str.ofString "attr_qname") (Str.ofString "attr_name") (Str.ofString "uri") (fun y=>if y=Str.ofString "attr_list" then some (Value.ref Da) else if y=Str.ofString "parsed_qnames" then some (Value.ref Dp) else if y=Str.ofString "qattrs" then some Value.none else if y=Str.ofString "resolved_names" then some (Value.ref rn) else if y=Str.ofString "qnames" then some (Value.ref qs) else if y=Str.ofString "qname_text" then some (Value.none) else if y=Str.ofString "new_namespaces" then some (Value.ref dl) else if y=Str.ofString "attrs" then some (Value.ref at_) else if y=Str.ofString "tag" then some (Value.str tag tt) else none) u1 u2 u3 u4 u5 y)∧News g L' s'.heap ((x,instObj 150 dx)::(dx,dictOf (wd hsh tkn (.bool false) (.bool false) .none ev (.bool false) .none .none .none wr da de ns pm pr rs rd 0) ep)::(dl,listOf itsd nd)::(out,listOf (strValues ol2).toArray n3)::(wr,Ai out)::(ns,listOf (nlv.map fun p=>Value.ref p.1).toArray nns)::(pr,listOf (pre++[Value.bool pv,Value.bool (Be pv (l.map fun p=>(p.1.1,p.2.1)))]).toArray n5)::(L'+1,o0)::rest)∧s'.os=os∧AllBare s'.gens) ?q1 ?q2)
    case q1 =>
     have hozz:∀ t,(strValues (ol++[(Str.ofString "<"++pp.1,t)])).toArray.size≤sizeLine:=fun t=>by rw [sizeLine_eq];simp [strValues];exact(Nl fun hn1=>fk [_] (.e V0 (.k 5000) (.e (.s (.k 16777215)) V0 K0)) rfl hol hn1)
     repeat' (first
      | ((with_reducible show wpAny _ _ (truthy (Value.ref Da)) _ _ _);refine wpAny_truthy_list ⟨_,(N9 _ (List.mem_append_right [_,_,_,_,_,_,_,_] hin1)).1,rfl,_,rfl⟩ (Fd (by rw [hal0,sizeLine_eq];exact(Nl fun hn1=>fk [_] (.e V0 (.k 50) (.e (.s (.k 16777216)) V0 K0)) rfl hall hn1))) ?_;(try dsimp only))
      | ((with_reducible show (if _ then _ else _));refine Bo ?_ ?_<;>intro hq)
      | ((with_reducible show wpAny _ _ (callWith _ (Value.ref wr) _ _ _) _ _ _);refine Ce ?_;(try dsimp only))
      | ((with_reducible show BmP _ _∧_);refine⟨⟨_,_,News.get (by k_asm) (by k_mem)⟩,?_⟩)
      | ((fail_if_success (with_reducible show Flow.next=_∧_));(fail_if_success (with_reducible show wpAny _ _ (eval (Expr.ListComp _ _ _ _) _) _ _ _));walk_at "go"))
     (try any_goals (exact Str.empty))
     (try any_goals (exact Value.none))
     (try any_goals (exact L'))
     ·refine at_list (prs:=rest) (its:=itsB) (al:=Az dd.1 dd.2 (l.map fun p=>(p.1.1,p.2.1))) (ax:=Da) (os:=os) (cl:=[]) X T ?hh9 ?hrm9 ?r1 ?r2 ?hit F9 N9 o18 b18 ?hax ?hprs hBr hall hal ?fin9
      case hh9=>exact hh
      case hrm9=>show A.depth+1<890;exact(Nt fun hn1=>fk [_] (.e (.s V0) (.k 800) (.e (.k 890) (.s V0) K0)) rfl zq hn1)
      case r1=>rfl
      case r2=>exact fun _=>rfl
      case hit=>exact fun Q' hQ=>nameX_L F9 rfl hQ rfl rfl
      case hax=>exact⟨_,List.mem_append_right [_,_,_,_,_,_,_,_] hin1⟩
      case hprs=>exact fun r hr=>List.mem_append_right [_,_,_,_,_,_,_,_] hr
      case fin9 =>
       with_reducible refine let_mvar% ?zq33:=(fun s21 D21 ts=>?_:Fa3 _);Au Bc (Cv:Tie _ (type_of% ?zq33)) (?zq33 _ _ _);intro hts hD21 F21 N21 o21 b21
       clear F9 N9;have hDo:D21≠out:=hD21 (out,_) (.tail _ (.tail _ (.tail _ (.head _))))
       have hne:Az dd.1 dd.2 (l.map fun p=>(p.1.1,p.2.1))≠[]:=fun e=>by
        rw [e] at hal0;have:itsB=#[]:=Array.eq_empty_of_size_eq_zero hal0;rw [this] at hq
        exact absurd hq (by decide)
       have hjo:JoinOk Str.empty (ts.map (·.1))=true:=by rw [hts];exact join_ok hall hal
       repeat' (first
        | ((with_reducible show wpAny _ _ (call (Value.builtin "str.join") _) _ _ _);refine join_list (ds:=ts) ⟨_,(N21 _ (.head _)).1,rfl,_,rfl⟩ hjo ?_;with_reducible refine let_mvar% ?zq34:=(fun t22 k22=>?_:Fa2 _);Ah neI (Ar:Tie _ (type_of% ?zq34)) (?zq34 _ _);(try dsimp only))
        | ((with_reducible show wpAny _ _ (callWith _ (Value.ref wr) _ _ _) _ _ _);refine Ce ?_;(try dsimp only))
        | ((with_reducible show BmP _ _∧_);refine⟨⟨_,_,News.get (by k_asm) (by k_mem)⟩,?_⟩)
        | ((with_reducible show wpAny _ _ (call (Value.ref wr) _) _ _ _);(rename Fr ..=>F9);(rename News ..=>N9);refine Hg F9 N9 (by k_mem) (by walk_at "l_upd") (hozz _) ?_;clear F9 N9;walk_at "eps";rename_i h9;intro F9 N9;(try dsimp only))
        | ((fail_if_success (with_reducible show Flow.next=_∧_));walk_at "go"))
       (try any_goals (exact Str.empty))
       (try any_goals (exact Value.none))
       (try any_goals (exact L'))
       rw [← Bw] at N9
       refine⟨rfl,_,_,?_,?_,F9,News.sub N9 (fun _ z=>.tail _ z),o21,b21⟩
       ·rw [if_neg hne,List.map_append,List.map_append,hstx,← hts,List.append_assoc];rfl
       ·simp;exact(Nl fun hn1=>fk [_] (.e V0 (.k 5000) (.e (.s (.k 5998)) V0 K0)) rfl hol hn1)
     ·have hne:Az dd.1 dd.2 (l.map fun p=>(p.1.1,p.2.1))=[]:=by
       refine List.eq_nil_of_length_eq_zero ?_;rw [← hal0]
       have:itsB.isEmpty=true:=by simpa using hq
       simpa [Array.isEmpty] using this
      refine⟨rfl,_,_,?_,?_,F9,N9,o18,b18⟩
      ·rw [if_pos hne,List.map_append,hstx];rfl
      ·simp;exact(Nl fun hn1=>fk [_] (.e V0 (.k 5000) (.e (.s (.k 5999)) V0 K0)) rfl hol hn1)
    refine exs2 ?_;with_reducible refine let_mvar% ?zq42:=(fun s20 ol2 n3=>?_:Fa3 _);Au Bc (Cv:Tie _ (type_of% ?zq42)) (?zq42 _ _ _);rintro⟨hol2,hol3,F20,N20,o20,b20⟩
    (try dsimp only)
    have hozz:(strValues ol2).toArray.size≤sizeLine:=by rw [sizeLine_eq];simp [strValues];exact(Nl fun hn1=>fk [_] (.e V0 (.k 6000) (.e (.s (.k 16777216)) V0 K0)) rfl hol3 hn1)
    repeat' (first
     | ((with_reducible show wpAny _ _ (callWith _ (Value.ref wr) _ _ _) _ _ _);refine Ce ?_;(try dsimp only))
     | ((with_reducible show BmP _ _∧_);refine⟨⟨_,_,News.get (by k_asm) (by k_mem)⟩,?_⟩)
     | ((with_reducible show wpAny _ _ (call (Value.ref wr) _) _ _ _);(rename Fr ..=>F9);(rename News ..=>N9);refine Hg F9 N9 (by k_mem) (by walk_at "l_upd") hozz ?_;clear F9 N9;walk_at "eps";rename_i h9;intro F9 N9;(try dsimp only))
     | ((with_reducible show wpAny _ _ (setAttr (Value.ref x) _ _) _ _ _);k_dflt (refine' set_dict ?k1 ?k2 ?k3 ?k4 ?k5 ?k6 ?k7 ?k8 ?k9 ?k10 ?k11 ?k12 ?k13 ?_;(case k1=>k_asm);(case k2=>k_asm);(case k3=>k_asm);(case k4=>k_inst);(case k5=>exact rfl);(case k6=>k_is);(case k7=>k_is);(case k8=>k_is);(case k9=>k_is);(case k10=>k_get);(case k11=>exact put_rs);(case k12=>walk_at "l_upd");(case k13=>exact Nat.le_of_ble_eq_true rfl);k_whole;walk_at "eps";rename_i h9;intro F9 N9;(try k_sweep)))
     | ((with_reducible show wpAny _ _ (call (Value.builtin "list.append") [Value.ref ns,_]) _ _ _);(rename Fr ..=>F9);(rename News ..=>N9);refine append_K F9 N9 (by walk_at "l_upd") ?_ (by(rw [sizeLine_eq];simp;exact(Nl fun hn1=>fk [_] (.e V0 (.k 1000) (.e (.s (.k 16777216)) V0 K0)) rfl hl2 hn1)));clear F9 N9;walk_at "eps";rename_i h9;intro F9 N9;(try k_sweep))
     | ((fail_if_success (with_reducible show LeaveM _ _ _ _ _));walk_at "go"))
    (try any_goals (exact Str.empty))
    (try any_goals (exact Value.none))
    (try any_goals (exact L'))
    rename_i l2 _ hlt2;rw [← Bw,List.push_toArray] at N9
    have N22:News g L' h9 ([(x,instObj 150 dx),(dx,dictOf (wd hsh tkn (.bool false) (.bool false) .none ev (.bool false) .none .none .none wr da de ns pm pr true rd 0) ep),(out,listOf (strValues (ol2++[(Str.ofString ">",s20.toks)])).toArray (n3+1)),(wr,Ai out),(dl,listOf itsd nd),(ns,listOf ((nlv.map fun p=>Value.ref p.1)++[Value.ref l2]).toArray (nns+1)),(l2,listOf #[] 0),(pr,listOf (pre++[Value.bool pv,Value.bool (Be pv (l.map fun p=>(p.1.1,p.2.1)))]).toArray n5)]++(prs++zt)):=News.sub N9 (by
     exact Fp (by walk_at "l_mem") fun q hq=>List.mem_append_right [_,_,_,_,_,_,_,_,_] (hin4 q hq))
    clear N9;subst hlv;obtain⟨f1,f2,f3,f4,f5,f6,f7,f8,f9⟩:=hlt2;refine hq9 _ _ ?_
    refine leaveM_ F9 N22 o20 b20 fun H'=>hN _ _ _ _ _ _ _ _ _ _ ?e1 hits hT' ?e2 ?e3 H'
    case e1 =>
     rw [List.map_append,hol2];unfold Bm
     simp only [List.append_assoc,List.map_cons,List.map_nil]
    case e2 =>
     intro r hr;obtain⟨g1,g2,g3,g4,g5,g6,g7⟩:=hoff r (hin4 r hr);refine⟨?_,Nat.ne_of_lt (Lv f9 r (hin4 r hr))⟩;exact Ab g1 (Ab g2 (Ab g4 (Ab g5 (Ab g3 (Ab g6 (Ab g7 An))))))
    case e3 =>
     exact Ab (Nat.ne_of_gt f1) (Ab (Nat.ne_of_gt f2) (Ab (Nat.ne_of_gt f4) (Ab (Nat.ne_of_gt f5) (Ab (Nat.ne_of_gt f3) (Ab (Nat.ne_of_gt f6) (Ab (Nat.ne_of_gt f7) An))))))
end
theorem rs6:True∧True:=by
 (try walk1);(try w_top off)
 all_goals (first | trivial | exact ⟨trivial,trivial⟩)
section

local macro_rules | `(tactic| walk_at "l_mem")=>`(tactic| repeat' (first | exact List.forall_mem_nil _ | refine Fc (by k_mem) ?_ | (intro p hp;repeat' (first | exact hp | refine List.Mem.tail _ ?_))))
local macro_rules | `(tactic| walk_at "l_notin")=>`(tactic| repeat' (first | exact List.forall_mem_nil _ | assumption | refine Fc (by(simp only [List.map_cons,List.map_nil,List.mem_cons,List.not_mem_nil,or_false,not_or];(repeat' (first | refine And.intro ?_ ?_ | walk_at "l_ne" | exact not_false)))) ?_))
noncomputable def He(w:World)(A:Around)(s:Shared)(g:Heap)(os:OsState)(p:Program)(zw:List Str)(zr:ExcName→Option Value)(mg mb:Str→Option Value)(R:Result→Shared→Prop)(x dx:Addr)(hsh:Nat→Int)(tkn:Nat→Tok)(wr da de ns pm pr:Addr)(rs rd:Bool)(ep:Nat)(out:Addr)(n1 n2:Nat)(ds ol:List (Str × Tok))(pre:List Value)(pv:Bool)(at_:Addr)(nde nns npr na:Nat)(dlv nlv:List (Addr × Array Value))(lower nps:List Pr)(tag:Str)(tt:Tok)(l:List ((Str × Tok) × (Str × Tok)))(tabs:List (Addr × Obj))(ev:Value)(S:Str→Bool):Prop :=
 ∀ (X:(hd03.heap_39 w.params).In g) (T:Top p zw zr mg mb g) (H:Ok g os ([(x,instObj 150 dx),(dx,dictOf (wd hsh tkn (.bool false) (.bool false) .none ev (.bool false) .none .none .none wr da de ns pm pr rs rd 0) ep),(da,listOf (strValues ds).toArray n1),(out,listOf (strValues ol).toArray n2),(wr,Ai out),(de,listOf (dlv.map fun p=>Value.ref p.1).toArray nde),(ns,listOf (nlv.map fun p=>Value.ref p.1).toArray nns),(pr,listOf (pre++[Value.bool pv]).toArray npr)]++tabs) s) (hh:A.handled=none) (zq:A.depth<700) (C116:CodeHd g 125 123) (hok:JoinOk Str.empty (ds.map (·.1))=true) (hdz:(strValues ds).toArray.size≤sizeLine) (hdl:(Txt.join Str.empty (ds.map (·.1))).length≤2000) (hoz:(strValues ol).toArray.size≤sizeLine) (hu:A.units<8000) (hT:Ds 123 ⟨139,71,139,96⟩ (Str.ofString "C14NWriterTarget._start.<locals>.<lambda>") tabs) (hat:g.get? at_=some (dictOf (Bb w.params l) na)) (hlz:l.length≤3) (hsys:(at_ == sysModules)=false) (hnd:(tag::l.map (·.1.1)).Nodup) (hng:∀ n∈tag::l.map (·.1.1),Cc n=true∧known nps (cutName n).1) (hvl:∀ p∈l,p.2.1.length≤100∧(Di p.2.1).length≤1000) (hDl:∀ p∈dlv,g.IsList p.1 p.2) (hDz:∀ p∈dlv,(p.2.size:Int)<2 ^ 63) (hDp:All2 (As g) (comes dlv) lower) (hDn:lower.length<2900) (hDs:∀ q∈lower,q.1.length≤200∧q.2.length≤200) (hNl:∀ p∈nlv,g.IsList p.1 p.2∧(p.2.size:Int)<2 ^ 63) (hNp:All2 (As g) (comes nlv) nps) (hNe:∀ q∈nps,q.1.length≤100∧q.2.length≤200∧(Di q.1).length≤1000) (hol:ol.length≤4000) (hl1:dlv.length≤1000) (hl2:nlv.length≤1000) (hl3:pre.length≤1000) (zp:∀ p∈tabs,p.1∉([x,dx,da,out,wr,de,ns,pr]:List Addr)) (nd:([x,dx,da,out,wr,de,ns,pr]:List Addr).Nodup) (hxt:Qs rw_dn0283_03.row.prog w g ev S) (hSt:S tag=false) (hN:∀ (s':Shared) (n2 n3 n4 n5 n6:Nat) (nl dl:Addr) (ol2:List (Str × Tok)) (itsd:Array Value) (nd:Nat) (prs zt:List (Addr × Obj)),ol2.map (·.1)=ol.map (·.1)++(Bn rs (Bq true (Txt.join Str.empty (ds.map (·.1))))++Bm (declare lower nps (Am Av (tag::l.map (·.1.1))) [] []).1 (declare lower nps (Am Av (tag::l.map (·.1.1))) [] []).2 tag (l.map fun p=>(p.1.1,p.2.1)))→All2 (Ak prs) itsd.toList (declare lower nps (Am Av (tag::l.map (·.1.1))) [] []).1→Ds 123 ⟨139,71,139,96⟩ (Str.ofString "C14NWriterTarget._start.<locals>.<lambda>") zt→(∀ r∈prs++zt,r.1∉([x,dx,da,out,wr,de,ns,pr]:List Addr)∧r.1≠nl∧r.1≠dl)→nl∉([x,dx,da,out,wr,de,ns,pr]:List Addr)→dl∉([x,dx,da,out,wr,de,ns,pr]:List Addr)→nl≠dl→Ok g os ([(x,instObj 150 dx),(dx,dictOf (wd hsh tkn (.bool false) (.bool false) .none ev (.bool false) .none .none .none wr da de ns pm pr true rd 0) ep),(da,listOf #[] n2),(out,listOf (strValues ol2).toArray n3),(wr,Ai out),(de,listOf ((dlv++[(dl,itsd)]).map fun(p:Addr × Array Value)=>Value.ref p.1).toArray n6),(dl,listOf itsd nd),(ns,listOf ((nlv++[(nl,(#[]:Array Value))]).map fun(p:Addr × Array Value)=>Value.ref p.1).toArray n4),(nl,listOf #[] 0),(pr,listOf (pre++[Value.bool pv,Value.bool (Be pv (l.map fun p=>(p.1.1,p.2.1)))]).toArray n5)]++(prs++zt)) s'→R (.ok (.ret .none)) s'),codeAny (model rw_dn0283_03.row.prog w) A (.call (.ref 120) ⟨[.ref x,.str tag tt,.ref at_],[]⟩) R s
theorem Sd:∀ {w A s g os p zw zr mg mb R x dx hsh tkn wr da de ns pm pr rs rd ep out n1 n2 ds ol pre pv at_ nde nns npr na dlv nlv lower nps tag tt l tabs ev S},He w A s g os p zw zr mg mb R x dx hsh tkn wr da de ns pm pr rs rd ep out n1 n2 ds ol pre pv at_ nde nns npr na dlv nlv lower nps tag tt l tabs ev S:=by
 refine @(Aa (Al neW)<|@(Aa neI<|@(Aa neI<|@(Aa neI<|@(Aa neI<|@(Cp neI<|let_mvar% ?n:=(fun w A s g os p zw zr mg mb R x dx hsh tkn wr da de ns pm pr rs rd ep out n1 n2 ds ol pre pv at_ nde nns npr na dlv nlv lower nps tag tt l tabs ev S=>?_:∀ a b c d e f g h i j k l m n o p q r s t u v w x y z a1 b1 c1 d1 e1 f1 g1 h1 i1 j1 k1 l1 m1 n1 o1 p1 q1 r1 s1 t1,He a b c d e f g h i j k l m n o p q r s t u v w x y z a1 b1 c1 d1 e1 f1 g1 h1 i1 j1 k1 l1 m1 n1 o1 p1 q1 r1 s1 t1);?n _ _ _ _ _ _ _ _ _ _ _ _ _ _ _ _ _ _ _ _ _ _ _ _ _ _ _ _ _ _ _ _ _ _ _ _ _ _ _ _ _ _ _ _ _ _))))))
 intro X T H hh zq C116 hok hdz hdl hoz hu hT hat hlz hsys hnd hng hvl hDl hDz hDp hDn hDs hNl hNp hNe hol hl1 hl2 hl3 zp nd hxt hSt hN;revert X
 k_fill
 intro X
 refine' Gr (fun y=>List.lookup y [("attrs",.ref at_),("tag",.str tag tt),("self",.ref x)]) H X T ?k6 ?k7 (Nat.lt_trans zq (by decide)) ?k9 ?kB ?km ?kl ?_ ?c1 ?c2 ?c3 ?c4
 (case k6=>k_is)
 (case k7=>k_is)
 (case k9=>exact BindsTo.of_eq rfl)
 (case kB=>exact locs rfl)
 (case km=>exact rfl)
 (case kl=>exact Nat.succ_pos _)
 (case c1=>exact rfl)
 (case c2=>exact rfl)
 (case c3=>exact rfl)
 (case c4=>decide)
 k_whole;with_reducible refine let_mvar% ?zq1:=(fun L' h1 k0=>?_:Fa3 _);Au neI (Cv:Tie _ (type_of% ?zq1)) (?zq1 _ _ _);intro hk0 F1 N1 l1;(try k_lt l1);(try dsimp only)
 refine Dt ?_;walk_at "eps2";rename_i Q9 E9;intro hq9 he9;have ndf:([x,dx,da,out,wr]:List Addr).Nodup:=Rq nd;refine ndk8 nd ?_;intro n_x_dx n_x_da n_x_out n_x_wr n_x_de n_x_ns n_x_pr n_dx_da n_dx_out n_dx_wr n_dx_de n_dx_ns n_dx_pr n_da_out n_da_wr n_da_de n_da_ns n_da_pr n_out_wr n_out_de n_out_ns n_out_pr n_wr_de n_wr_ns n_wr_pr n_de_ns n_de_pr n_ns_pr;dsimp only [List.cons_append,List.nil_append] at N1
 have tb5:∀ p∈tabs,p.1∉[x,dx,da,out,wr]:=fun p hp z=>zp p hp (List.mem_append_left [de,ns,pr] z)
 have tde:∀ p∈tabs,p.1≠de:=fun p hp=>By (zp p hp) (by k_mem)
 refine' wpAny_execs_cons (Bz (R:=fun s'=>∃ k,s'={ s with heap:=h1,toks:=k }) ?a1 ?a2)
 case a1 =>
  clear hN H
  rcases hxt with ⟨rfl,_⟩ | ⟨sx,nx,rfl,hSx⟩
  ·repeat' (first
    | ((with_reducible show Flow.next=_∧_);exact⟨rfl,_,rfl⟩)
    | ((with_reducible show Q9 _ _);refine hq9 _ _ ?_;(try dsimp only))
    | walk_at "go")
  ·repeat' (first
    | ((with_reducible show Flow.next=_∧_);exact⟨rfl,_,rfl⟩)
    | ((with_reducible show wpAny _ _ (compareOp CmpOp.In _ _) _ _ _);refine set_in (Om (Fr.keep (by k_asm)) hSx) ?_;rw [hSt];(try dsimp only))
    | ((with_reducible show Q9 _ _);refine hq9 _ _ ?_;(try dsimp only))
    | walk_at "go")
 refine exs1 ?_;with_reducible refine let_mvar% ?zq4:=(fun s98 k98=>?_:Fa2 _);Ah Bc (Ar:Tie _ (type_of% ?zq4)) (?zq4 _ _);rintro rfl
 (try dsimp only)
 repeat' ((fail_if_success (with_reducible show wpAny _ _ (execs (Stmt.If (Expr.Attribute _ "_data" _) _ _ _::_) _) _ _ _));walk_at "go")
 refine' wpAny_execs_cons (Bz (R:=fun s'=>∃ n3 n4 ol2,ol2.map (·.1)=ol.map (·.1)++Bn rs (Bq true (Txt.join Str.empty (ds.map (·.1))))∧Fr g L' s'.heap (fun y=>List.lookup y [(Str.ofString "attrs",Value.ref at_),(Str.ofString "tag",Value.str tag tt),(Str.ofString "self",Value.ref x)])∧News g L' s'.heap ([(x,instObj 150 dx),(dx,dictOf (wd hsh tkn (.bool false) (.bool false) .none ev (.bool false) .none .none .none wr da de ns pm pr rs rd 0) ep),(da,listOf #[] n3),(out,listOf (strValues ol2).toArray n4),(wr,Ai out),(de,listOf (dlv.map fun p=>Value.ref p.1).toArray nde),(ns,listOf (nlv.map fun p=>Value.ref p.1).toArray nns),(pr,listOf (pre++[Value.bool pv]).toArray npr)]++tabs)∧s'.os=os∧AllBare s'.gens) ?c1 ?c2)
 case c1 =>
  by_cases hds:ds=[]
  ·subst hds
   repeat' (first
    | ((with_reducible show wpAny _ _ (truthy (.ref da)) _ _ _);refine wpAny_truthy_list ⟨_,News.get (by k_asm) (by k_mem),rfl,_,rfl⟩ (Fd hdz) ?_;(try dsimp only))
    | ((with_reducible show Flow.next=_∧_);(rename Fr ..=>F9);(rename News ..=>N9);first | exact⟨rfl,_,_,_,e5,F9,N9,o5,b5⟩ | exact⟨rfl,_,_,_,by(rw [Cf,List.append_nil]),F9,N9,H.os,H.bare⟩)
    | ((with_reducible show Q9 _ _);refine hq9 _ _ ?_;(try dsimp only))
    | walk_at "go")
  ·have hsz:(!(strValues ds).toArray.isEmpty)=true:=ne_sz hds
   repeat' (first
    | ((with_reducible show wpAny _ _ (truthy (.ref da)) _ _ _);refine wpAny_truthy_list ⟨_,News.get (by k_asm) (by k_mem),rfl,_,rfl⟩ (Fd hdz) ?_;(try dsimp only))
    | ((with_reducible show Flow.next=_∧_);(rename Fr ..=>F9);(rename News ..=>N9);first | exact⟨rfl,_,_,_,e5,F9,N9,o5,b5⟩ | exact⟨rfl,_,_,_,by(rw [Cf,List.append_nil]),F9,N9,H.os,H.bare⟩)
    | ((with_reducible show wpAny _ _ (call (Value.ref 106) _) _ _ _);(rename Fr ..=>F9);(rename News ..=>N9);refine Ca [(x,instObj 150 dx),(dx,dictOf (wd hsh tkn (.bool false) (.bool false) .none ev (.bool false) .none .none .none wr da de ns pm pr rs rd 0) ep),(da,listOf (strValues ds).toArray n1),(out,listOf (strValues ol).toArray n2),(wr,Ai out)] ([(de,listOf (dlv.map fun p=>Value.ref p.1).toArray nde),(ns,listOf (nlv.map fun p=>Value.ref p.1).toArray nns),(pr,listOf (pre++[Value.bool pv]).toArray npr)]++tabs) F9 N9 H.os H.bare (by walk_at "l_mem") (by walk_at "l_mem") (by walk_at "l_notin") fun g₂ H₂ K₂ r₂ back=>Ng (X.keeps K₂) (T.keeps K₂) H₂ hh (Nat.lt_of_lt_of_le (Nat.succ_lt_succ zq) (by decide)) ⟨_,r₂ (pr,_) (by k_mem),rfl,_,rfl⟩ hok hdz ndf hdl hoz fun s5 n3 n4 ol2 e5 H5=>?_;obtain⟨F5,N5,o5,b5⟩:=back _ _ H5;clear back F9 N9 H₂ H5;(try clear g₂);revert s5 n3 n4 ol2;with_reducible refine let_mvar% ?ns6S4x5:=(fun s5 n3 n4 ol2=>?_:Fa4 _);Ax Bc (Cy:Tie _ (type_of% ?ns6S4x5)) (?ns6S4x5 _ _ _ _);intro e5 F5 N5 o5 b5;(try dsimp only))
    | ((with_reducible show Q9 _ _);refine hq9 _ _ ?_;(try dsimp only))
    | walk_at "go")
 refine exs3 ?_;with_reducible refine let_mvar% ?zq3:=(fun s6 n3 n4 ol2=>?_:Fa4 _);Ax Bc (Cy:Tie _ (type_of% ?zq3)) (?zq3 _ _ _ _);rintro⟨e5,F6,N6,o6,b6⟩
 (try dsimp only)
 dsimp only [List.cons_append,List.nil_append] at N6
 repeat' (first
    | ((with_reducible show wpAny _ _ (call (.builtin "list.append") [.ref de,_]) _ _ _);(rename Fr ..=>F9);(rename News ..=>N9);refine append_K F9 N9 (by walk_at "l_upd") ?_ (by(rw [sizeLine_eq];simp;exact(Nl fun hn1=>fk [_] (.e V0 (.k 1000) (.e (.s (.k 16777216)) V0 K0)) rfl hl1 hn1)));clear F9 N9;walk_at "eps";rename_i h9;intro F9 N9;(try k_sweep))
    | ((fail_if_success (with_reducible show wpAny _ _ (call (.ref 126) _) _ _ _));walk_at "go"))
 rename_i dl _ hlt _;obtain⟨f1,f2,f3,f4,f5,f6,f7,f8,f9⟩:=hlt
 replace f1:=Nat.ne_of_gt f1
 replace f2:=Nat.ne_of_gt f2
 replace f3:=Nat.ne_of_gt f3
 replace f4:=Nat.ne_of_gt f4
 replace f5:=Nat.ne_of_gt f5
 replace f6:=Nat.ne_of_gt f6
 replace f7:=Nat.ne_of_gt f7
 replace f8:=Nat.ne_of_gt f8
 have ede:(List.map (fun p=>Value.ref p.1) dlv).toArray.push (Value.ref dl)=((dlv++[(dl,(#[]:Array Value))]).map fun(p:Addr × Array Value)=>Value.ref p.1).toArray:=by simp
 rw [ede] at N9
 have hol2:ol2.length≤5000:=by
  have h1:=congrArg List.length e5;have h2:=Ff rs (Bq true (Txt.join Str.empty (ds.map (·.1))))
  simp only [List.length_map,List.length_append] at h1
  exact(Nl fun hn1=>fk [_,_,_] (.e V0 (.k 4000) (.e V1 K1 (.e V2 (.a V0 V1) (.e (.s (.k 5000)) V2 K0)))) rfl hol h2 (El h1) hn1)
 refine Ca ([(x,instObj 150 dx),(dx,dictOf (wd hsh tkn (.bool false) (.bool false) .none ev (.bool false) .none .none .none wr da de ns pm pr rs rd 0) ep),(out,listOf (strValues ol2).toArray n4),(wr,Ai out),(dl,listOf #[] 0),(ns,listOf (nlv.map fun p=>Value.ref p.1).toArray nns),(pr,listOf (pre++[Value.bool pv]).toArray npr)]++tabs) [(da,listOf #[] n3),(de,listOf ((dlv++[(dl,(#[]:Array Value))]).map fun(p:Addr × Array Value)=>Value.ref p.1).toArray (nde+1))] F9 N9 o6 b6 ?m1 ?m2 ?m3 ?call
 case m1=>walk_at "l_sub"
 case m2=>walk_at "l_sub"
 case m3=>exact Fc (Mm (by walk_at "l_allne") (fun r hr=>By (zp r hr) (by k_mem))) (Fc (Mm (by walk_at "l_allne") tde) (List.forall_mem_nil _))
 case call =>
  walk_at "eps";rename_i g₂;intro H₂ K₂ r₂ back
  refine Ql (dlv:=dlv) (nlv:=nlv) (lower:=lower) (nps:=nps) (l:=l) (na:=na) (tabs:=tabs) (X.keeps K₂) (T.keeps K₂) H₂ hh ?rm ?cc ?uu hT (K₂ _ _ hat) hlz hsys hnd hng hvl ⟨_,r₂ (de,_) (.tail _ (.head _)),rfl,_,rfl⟩ (fun q hq=>Ae K₂ (hDl q hq)) hDz (hDp.mono fun _ _ z=>z.keeps K₂) hDn hDs (fun q hq=>⟨Ae K₂ (hNl q hq).1,(hNl q hq).2⟩) (hNp.mono fun _ _ z=>z.keeps K₂) hNe hol2 hl2 hl3 ?tb ?nn ?hN
  case rm=>show A.depth+1<800;exact(Nt fun hn1=>fk [_] (.e (.s V0) (.k 700) (.e (.k 800) (.s V0) K0)) rfl zq hn1)
  case cc =>
   obtain⟨o,vs,file,tf,fl,tg,inF,text,tt',h1,h2⟩:=C116;exact⟨o,vs,file,tf,fl,tg,inF,text,tt',K₂ _ _ h1,h2⟩
  case uu=>show A.units+3<9000;exact(Nt fun hn1=>fk [_] (.e (.s V0) (.k 8000) (.e (.k 9000) (.a V0 (.k 3)) K0)) rfl hu hn1)
  case tb=>exact fun q hq=>Ab (By (zp q hq) (by k_mem)) (Ab (By (zp q hq) (by k_mem)) (Ab (By (zp q hq) (by k_mem)) (Ab (By (zp q hq) (by k_mem)) (Ab (Nat.ne_of_lt (Lv f9 q hq)) (Ab (By (zp q hq) (by k_mem)) (Ab (By (zp q hq) (by k_mem)) An))))))
  case nn=>exact ndm7 n_x_dx n_x_out n_x_wr (Ne.symm f1) n_x_ns n_x_pr n_dx_out n_dx_wr (Ne.symm f2) n_dx_ns n_dx_pr n_out_wr (Ne.symm f4) n_out_ns n_out_pr (Ne.symm f5) n_wr_ns n_wr_pr f7 f8 n_ns_pr
  case hN =>
   with_reducible refine let_mvar% ?zs1:=(fun s7 n7 n8 n9 nl ol7 itsd=>?_:Fa7 _);Ap Bc (Cm:Tie _ (type_of% ?zs1)) (?zs1 _ _ _ _ _ _ _);with_reducible refine let_mvar% ?zs2:=(fun ndd prs zt=>?_:Fa3 _);Au neI (Cv:Tie _ (type_of% ?zs2)) (?zs2 _ _ _);intro e7 hits hT' hoff hnl H7
   have hod:∀ r∈[(x,instObj 150 dx),(dx,dictOf (wd hsh tkn (.bool false) (.bool false) .none ev (.bool false) .none .none .none wr da de ns pm pr true rd 0) ep),(out,listOf (strValues ol7).toArray n7),(wr,Ai out),(dl,listOf itsd ndd),(ns,listOf ((nlv.map fun p=>Value.ref p.1)++[Value.ref nl]).toArray n8),(nl,listOf #[] 0),(pr,listOf (pre++[Value.bool pv,Value.bool (Be pv (l.map fun p=>(p.1.1,p.2.1)))]).toArray n9)]++(prs++zt),r.1≠da∧r.1≠de:=fun r hr=>⟨Gl H7 r₂ (show (r.1,r.2)∈_ from hr) (.head _),Gl H7 r₂ (show (r.1,r.2)∈_ from hr) (.tail _ (.head _))⟩
   obtain⟨F8,N8,o8,b8⟩:=back _ _ H7;clear back F9 N9 H₂ H7
   (try dsimp only)
   repeat' ((fail_if_success (with_reducible show LeaveM _ _ _ _ _));walk_at "go")
   (try any_goals (exact Str.empty))
   (try any_goals (exact .none))
   (try any_goals (exact L'))
   have edl:((dlv++[(dl,(#[]:Array Value))]).map fun(p:Addr × Array Value)=>Value.ref p.1)=((dlv++[(dl,itsd)]).map fun(p:Addr × Array Value)=>Value.ref p.1):=by simp
   have enl:(nlv.map fun p=>Value.ref p.1)++[Value.ref nl]=((nlv++[(nl,(#[]:Array Value))]).map fun(p:Addr × Array Value)=>Value.ref p.1):=by simp
   rw [edl,enl] at N8;refine hq9 _ _ ?_
   refine leaveM_ F8 (News.sub N8 ?sub) o8 b8 fun H'=>hN _ n3 n7 n8 n9 (nde+1) nl dl ol7 itsd ndd prs zt ?e hits hT' ?o1 ?o2 ?o3 ?o4 H'
   case sub=>walk_at "l_sub"
   case e=>rw [e7,e5,List.append_assoc]
   case o1 =>
    intro r hr;obtain⟨z1,z2⟩:=hoff r hr;obtain⟨z3,z4⟩:=hod r (Mr _ hr)
    exact⟨Ab (By z1 (by k_mem)) (Ab (By z1 (by k_mem)) (Ab z3 (Ab (By z1 (by k_mem)) (Ab (By z1 (by k_mem)) (Ab z4 (Ab (By z1 (by k_mem)) (Ab (By z1 (by k_mem)) An))))))),z2,By z1 (by k_mem)⟩
   case o2 =>
    obtain⟨z3,z4⟩:=hod (nl,_) (.tail _ (.tail _ (.tail _ (.tail _ (.tail _ (.tail _ (.head _)))))))
    exact Ab (By hnl (by k_mem)) (Ab (By hnl (by k_mem)) (Ab z3 (Ab (By hnl (by k_mem)) (Ab (By hnl (by k_mem)) (Ab z4 (Ab (By hnl (by k_mem)) (Ab (By hnl (by k_mem)) An)))))))
   case o3=>exact Ab f1 (Ab f2 (Ab f3 (Ab f4 (Ab f5 (Ab f6 (Ab f7 (Ab f8 An)))))))
   case o4=>exact By hnl (by k_mem)
end
theorem rs7:True∧True:=by
 (try walk1);(try w_top off)
 all_goals (first | trivial | exact ⟨trivial,trivial⟩)
section

noncomputable abbrev ofL{α:Type}[Inhabited α](l:List α)(n:Nat):α:=l.getD n default
noncomputable def nsl:List ((Str × Tok) × (Str × Tok)):=[(("http://www.w3.org/XML/1998/namespace",329),("xml",330)),(("http://www.w3.org/1999/xhtml",331),("html",332)),(("http://www.w3.org/1999/02/22-rdf-syntax-ns#",333),("rdf",334)),(("http://schemas.xmlsoap.org/wsdl/",335),("wsdl",336)),(("http://www.w3.org/2001/XMLSchema",337),("xs",338)),(("http://www.w3.org/2001/XMLSchema-instance",339),("xsi",340)),(("http://purl.org/dc/elements/1.1/",341),("dc",342))]
theorem h37{w:World}:(hd03.heap_39 w.params).lookup 44=some (dictOf (Bb w.params nsl) 7):=rfl
theorem of8{a b c d e f g h r:Prop}:a∧b∧c∧d∧e∧f∧g∧h∧r→a∧b∧c∧d∧e∧f∧g∧h:=fun⟨a,b,c,d,e,f,g,h,_⟩=>⟨a,b,c,d,e,f,g,h⟩
noncomputable def Ih(w:World)(A:Around)(s:Shared)(g:Heap)(os:OsState)(p:Program)(zw:List Str)(zr:ExcName→Option Value)(mg mb:Str→Option Value)(R:Result→Shared→Prop)(x dx wr:Addr):Prop :=
 ∀ (X:(hd03.heap_39 w.params).In g) (T:Top p zw zr mg mb g) (H:Ok g os [(x,instObj 150 dx),(dx,dictOf [] 0)] s) (hh:A.handled=none) (zq:A.depth<750) (nd:([x,dx]:List Addr).Nodup) (hN:∀ (s':Shared) (hsh:Nat→Int) (tkn:Nat→Tok) (ep n1 n2 n3 n4 n5 n6 n7:Nat) (pr pm nl B0 vw ns de dl D da a1 a2 a3 a4 a5 a6 a7:Addr) (oM oV:Obj) (tD tE t1 t2 t3 t4 t5 t6 t7:Tok),(x<da∧dx<da)→(da<D∧D<dl∧dl<de∧de<ns)→(ns<a1∧ns<a2∧ns<a3∧ns<a4∧ns<a5∧ns<a6∧ns<a7∧ns<B0)→(a1<nl∧a2<nl∧a3<nl∧a4<nl∧a5<nl∧a6<nl∧a7<nl∧B0<nl)→nl<pr→Ok g os [(pr,listOf #[.bool false] n1),(pm,oM),(nl,listOf #[] n2),(a1,Ad #[.str "http://www.w3.org/XML/1998/namespace" t1,.str "xml" 330]),(a2,Ad #[.str "http://www.w3.org/1999/xhtml" t2,.str "html" 332]),(a3,Ad #[.str "http://www.w3.org/1999/02/22-rdf-syntax-ns#" t3,.str "rdf" 334]),(a4,Ad #[.str "http://schemas.xmlsoap.org/wsdl/" t4,.str "wsdl" 336]),(a5,Ad #[.str "http://www.w3.org/2001/XMLSchema" t5,.str "xs" 338]),(a6,Ad #[.str "http://www.w3.org/2001/XMLSchema-instance" t6,.str "xsi" 340]),(a7,Ad #[.str "http://purl.org/dc/elements/1.1/" t7,.str "dc" 342]),(B0,listOf #[.ref a1,.ref a2,.ref a3,.ref a4,.ref a5,.ref a6,.ref a7] n3),(vw,oV),(ns,listOf #[.ref B0,.ref nl] n4),(de,listOf #[.ref dl] n5),(dl,listOf #[.ref D] n6),(D,Ad #[.str "http://www.w3.org/XML/1998/namespace" tD,.str "xml" tE]),(da,listOf #[] n7),(x,instObj 150 dx),(dx,dictOf (wd hsh tkn (.bool false) (.bool false) .none .none (.bool false) .none .none .none wr da de ns pm pr false false 0) ep)] s'→R (.ok (.ret .none)) s'),codeAny (model rw_dn0283_03.row.prog w) A (.call (.ref 67) ⟨[.ref x,.ref wr],[]⟩) R s
theorem Tt:∀ {a b c d e f g h i j k l m n},Ih a b c d e f g h i j k l m n:=by
 refine @(Aa (Al neW)<|@(Cp neI<|let_mvar% ?n:=(fun w A s g os p zw zr mg mb R x dx wr=>?_:∀ a b c d e f g h i j k l m n,Ih a b c d e f g h i j k l m n);?n _ _ _ _ _ _ _ _ _ _ _ _ _ _))
 intro X T H hh zq nd hN;revert X
 k_fill
 intro X
 refine' Gr _ H X T ?k6 ?k7 (Nat.lt_trans zq (by decide)) ?k9 ?kB ?km ?kl ?_ ?c1 ?c2 ?c3 ?c4
 (case k6=>k_is)
 (case k7=>k_is)
 (case k9=>(refine' kp_binds (X.keeps H.keep) ?ke;(case ke=>exact fun _=>rfl)))
 (case kB=>exact locs rfl)
 (case km=>exact rfl)
 (case kl=>exact Nat.succ_pos _)
 (case c1=>exact rfl)
 (case c2=>exact rfl)
 (case c3=>exact rfl)
 (case c4=>decide)
 k_whole;with_reducible refine let_mvar% ?zq5:=(fun L' h1 k0=>?_:Fa3 _);Au neI (Cv:Tie _ (type_of% ?zq5)) (?zq5 _ _ _);intro hk0 F1 N1 l1;(try k_lt l1);(try dsimp only)
 simp only [List.nodup_cons,List.mem_cons,List.not_mem_nil,or_false,List.nodup_nil,and_true,not_false_eq_true] at nd
 repeat' (first
    | ((with_reducible show wpAny _ _ (getMethod (.ref 44) "items" _) _ _ _);(rename Fr ..=>F9);(rename News ..=>N9);refine Hd (l:=nsl) (n:=7) ((X.keeps F9.keep) _ _ h37) ?_;(try dsimp only))
    | ((with_reducible show wpAny _ _ (newList _) _ _ _);k_dflt (refine' newList_K ?k1 ?k2 ?_;(case k1 | k2=>k_asm);k_whole);walk_at "eps2";intro F' N' l1;have l2:=l1;(try k_lt l1);(try k_sweep))
    | ((with_reducible show wpAny _ _ (newTuple _) _ _ _);k_dflt (refine' kup_newTuple ?F ?N ?_ ?z;(case F | N=>k_asm);(case z=>kmk_size));walk_at "eps2";intro F' N' l1;have l2:=l1;(try k_lt l1);(try k_sweep))
    | ((with_reducible show wpAny _ _ (eval (Expr.Dict [] [] _) _) _ _ _);k_dflt (refine' newDict_K ?k1 ?k2 (TopRead.nolimit (by k_asm)) ?_;(case k1 | k2=>k_asm);k_whole);with_reducible refine let_mvar% ?n:=(fun x y z=>?_:Fa3 _);Au neI (Cv:Tie _ (type_of% ?n)) (?n _ _ _);intro F' N' l1 lo' hs' fs' hi' fi';have l2:=l1;(try k_lt l1);(try k_sweep))
    | ((with_reducible show wpAny _ _ (call (.builtin "dict.items") _) _ _ _);(try dsimp only);(rename Fr ..=>F9);(rename News ..=>N9);refine Qi (l:=nsl) (n:=7) F9 N9 ((X.keeps F9.keep) _ _ h37) (by decide) rfl ?_;clear F9 N9;walk_at "eps2";rename_i vw h9;intro F9 N9 l9 k9;have l8:=l9;k_lt l9;(try dsimp only))
    | ((with_reducible show wpAny _ _ (call (Value.type "list") [.ref vw]) _ _ _);(rename Fr ..=>F9);(rename News ..=>N9);refine Wz (n:=7) hh F9 N9 ((X.keeps F9.keep) _ _ h37) (by decide) (by k_mem) ?_;clear F9 N9;with_reducible refine let_mvar% ?zq2:=(fun B0 a1 a2 a3 a4 a5 a6 a7=>?_:Fa8 _);Mz neI (tie8:Tie _ (type_of% ?zq2)) (?zq2 _ _ _ _ _ _ _ _);with_reducible refine let_mvar% ?zq3:=(fun t1 t2 t3 t4 t5 t6 t7 c0=>?_:Fa8 _);Mz neI (tie8:Tie _ (type_of% ?zq3)) (?zq3 _ _ _ _ _ _ _ _);walk_at "eps2";rename_i h9 tk9;intro hBa l9 F9 N9;have l8:=l9;have m1:=fun p hp=>Nat.lt_trans (l9 p hp) hBa.1;have m2:=fun p hp=>Nat.lt_trans (l9 p hp) hBa.2.1;have m3:=fun p hp=>Nat.lt_trans (l9 p hp) hBa.2.2.1;have m4:=fun p hp=>Nat.lt_trans (l9 p hp) hBa.2.2.2.1;have m5:=fun p hp=>Nat.lt_trans (l9 p hp) hBa.2.2.2.2.1;have m6:=fun p hp=>Nat.lt_trans (l9 p hp) hBa.2.2.2.2.2.1;have m7:=fun p hp=>Nat.lt_trans (l9 p hp) hBa.2.2.2.2.2.2;k_lt l9;(try dsimp only))
    | ((try ((with_reducible show wpAny _ _ (execs _ _) _ _ _);(conv=>(arg 6;dsimp only))));walk_at "go"))
 (rename Fr ..=>F9)
 (rename News ..=>N9)
 refine leaveM_ F9 N9 H.os H.bare fun H'=>hN _ (ofL [_,_,_,_,_,_,_,_,_,_,_,_,_,_,_,_,_]) (ofL [_,_,_,_,_,_,_,_,_,_,_,_,_,_,_,_,_,_]) _ _ _ _ _ _ _ _ _ _ _ _ _ _ _ _ _ _ _ _ _ _ _ _ _ _ _ _ _ _ _ _ _ _ _ _ ?d1 ?d2 ?d3 ?d4 ?d5 H'
 case d1=>assumption
 case d2=>exact⟨And.left (by assumption),And.left (by assumption),And.left (by assumption),And.left (by assumption)⟩
 case d3 =>
  obtain⟨b1,b2,b3,b4,b5,b6,b7⟩:=hBa;have b0:=l9.2.1;exact⟨Nat.lt_trans b0 b1,Nat.lt_trans b0 b2,Nat.lt_trans b0 b3,Nat.lt_trans b0 b4,Nat.lt_trans b0 b5,Nat.lt_trans b0 b6,Nat.lt_trans b0 b7,b0⟩
 case d4=>exact of8 (by assumption)
 case d5=>exact And.left (And.right (by assumption))
end
theorem rs8:True∧True:=by
 (try walk1);(try w_top off)
 all_goals (first | trivial | exact ⟨trivial,trivial⟩)
section

noncomputable def Eu(w:World)(A:Around)(s:Shared)(g:Heap)(os:OsState)(p:Program)(zw:List Str)(zr:ExcName→Option Value)(mg mb:Str→Option Value)(R:Result→Shared→Prop)(x dx:Addr)(hsh:Nat→Int)(tkn:Nat→Tok)(wr da de ns pm pr:Addr)(rs rd:Bool)(ep:Nat)(out:Addr)(n1 n2:Nat)(ds ol:List (Str × Tok))(pre:List Value)(pv:Bool)(nl:Addr)(its:Array Value)(n:Nat)(npre:List Value)(pf uri:Str)(tp tu:Tok)(ev:Value):Prop :=
 ∀ (X:(hd03.heap_39 w.params).In g) (T:Top p zw zr mg mb g) (H:Ok g os [(x,instObj 150 dx),(dx,dictOf (wd hsh tkn (.bool false) (.bool false) .none ev (.bool false) .none .none .none wr da de ns pm pr rs rd 0) ep),(da,listOf (strValues ds).toArray n1),(out,listOf (strValues ol).toArray n2),(wr,Ai out),(nl,listOf its n)] s) (hh:A.handled=none) (zq:A.depth<700) (hpr:g.IsList pr (pre++[Value.bool pv]).toArray) (hok:JoinOk Str.empty (ds.map (·.1))=true) (hdz:(strValues ds).toArray.size≤sizeLine) (hdl:(Txt.join Str.empty (ds.map (·.1))).length≤2000) (hoz:(strValues ol).toArray.size≤sizeLine) (hns:g.IsList ns (npre++[Value.ref nl]).toArray) (hiz:its.size≤sizeLine) (nd:([x,dx,da,out,wr,nl]:List Addr).Nodup) (hN:∀ s' n3 n4 ol2 tb,x<tb→dx<tb→da<tb→out<tb→wr<tb→nl<tb→ol2.map (·.1)=ol.map (·.1)++Bn rs (Bq true (Txt.join Str.empty (ds.map (·.1))))→Ok g os [(tb,Ad #[.str uri tu,.str pf tp]),(x,instObj 150 dx),(dx,dictOf (wd hsh tkn (.bool false) (.bool false) .none ev (.bool false) .none .none .none wr da de ns pm pr rs rd 0) ep),(da,listOf #[] n3),(out,listOf (strValues ol2).toArray n4),(wr,Ai out),(nl,listOf (its.push (.ref tb)) (n+1))] s'→R (.ok (.ret .none)) s'),codeAny (model rw_dn0283_03.row.prog w) A (.call (.ref 113) ⟨[.ref x,.str pf tp,.str uri tu],[]⟩) R s
theorem Lq:∀ {a b c d e f g h i j k l m n o p q r s t u v w x y z a1 b1 c1 d1 e1 f1 g1 h1 i1 j1 k1 l1 m1 n1},Eu a b c d e f g h i j k l m n o p q r s t u v w x y z a1 b1 c1 d1 e1 f1 g1 h1 i1 j1 k1 l1 m1 n1:=by
 refine @(Aa (Al neW)<|@(Aa neI<|@(Aa neI<|@(Aa neI<|@(Aa neI<|let_mvar% ?n:=(fun w A s g os p zw zr mg mb R x dx hsh tkn wr da de ns pm pr rs rd ep out n1 n2 ds ol pre pv nl its n npre pf uri tp tu ev=>?_:∀ a b c d e f g h i j k l m n o p q r s t u v w x y z a1 b1 c1 d1 e1 f1 g1 h1 i1 j1 k1 l1 m1 n1,Eu a b c d e f g h i j k l m n o p q r s t u v w x y z a1 b1 c1 d1 e1 f1 g1 h1 i1 j1 k1 l1 m1 n1);?n _ _ _ _ _ _ _ _ _ _ _ _ _ _ _ _ _ _ _ _ _ _ _ _ _ _ _ _ _ _ _ _ _ _ _ _ _ _ _ _)))))
 intro X T H hh zq hpr hok hdz hdl hoz hns hiz nd hN;revert X
 k_fill
 intro X
 refine' Gr (fun y=>List.lookup y [("uri",.str uri tu),("prefix",.str pf tp),("self",.ref x)]) H X T ?k6 ?k7 (Nat.lt_trans zq (by decide)) ?k9 ?kB ?km ?kl ?_ ?c1 ?c2 ?c3 ?c4
 (case k6=>k_is)
 (case k7=>k_is)
 (case k9=>exact BindsTo.of_eq rfl)
 (case kB=>exact locs rfl)
 (case km=>exact rfl)
 (case kl=>exact Nat.succ_pos _)
 (case c1=>exact rfl)
 (case c2=>exact rfl)
 (case c3=>exact rfl)
 (case c4=>decide)
 k_whole;with_reducible refine let_mvar% ?zq1:=(fun L' h1 k0=>?_:Fa3 _);Au neI (Cv:Tie _ (type_of% ?zq1)) (?zq1 _ _ _);intro hk0 F1 N1 l1;(try k_lt l1);(try dsimp only)
 refine Dt ?_;walk_at "eps2";rename_i Q9 E9;intro hq9 he9;have ndf:([x,dx,da,out,wr]:List Addr).Nodup:=Rq nd;refine ndk6 nd ?_;intro n_x_dx n_x_da n_x_out n_x_wr n_x_nl n_dx_da n_dx_out n_dx_wr n_dx_nl n_da_out n_da_wr n_da_nl n_out_wr n_out_nl n_wr_nl
 repeat' ((fail_if_success (with_reducible show wpAny _ _ (execs (Stmt.If (Expr.Attribute _ "_data" _) _ _ _::_) _) _ _ _));walk_at "go")
 refine' wpAny_execs_cons (Bz (R:=fun s'=>∃ n3 n4 ol2,ol2.map (·.1)=ol.map (·.1)++Bn rs (Bq true (Txt.join Str.empty (ds.map (·.1))))∧Fr g L' s'.heap (fun y=>List.lookup y [("uri",.str uri tu),("prefix",.str pf tp),("self",.ref x)])∧News g L' s'.heap [(x,instObj 150 dx),(dx,dictOf (wd hsh tkn (.bool false) (.bool false) .none ev (.bool false) .none .none .none wr da de ns pm pr rs rd 0) ep),(da,listOf #[] n3),(out,listOf (strValues ol2).toArray n4),(wr,Ai out),(nl,listOf its n)]∧s'.os=os∧AllBare s'.gens) ?c1 ?c2)
 case c1 =>
  by_cases hds:ds=[]
  ·subst hds
   repeat' (first
    | ((with_reducible show Flow.next=_∧_);(rename Fr ..=>F9);(rename News ..=>N9);first | exact⟨rfl,_,_,_,e5,F9,N9,o5,b5⟩ | exact⟨rfl,_,_,_,by(rw [Cf,List.append_nil]),F9,N9,H.os,H.bare⟩)
    | ((with_reducible show Q9 _ _);refine hq9 _ _ ?_;(try dsimp only))
    | walk_at "go")
  ·have hsz:(!(strValues ds).toArray.isEmpty)=true:=ne_sz hds
   repeat' (first
    | ((with_reducible show wpAny _ _ (truthy (.ref da)) _ _ _);refine wpAny_truthy_list ⟨_,News.get (by k_asm) (by k_mem),rfl,_,rfl⟩ (Fd hdz) ?_;(try dsimp only))
    | ((with_reducible show Flow.next=_∧_);(rename Fr ..=>F9);(rename News ..=>N9);first | exact⟨rfl,_,_,_,e5,F9,N9,o5,b5⟩ | exact⟨rfl,_,_,_,by(rw [Cf,List.append_nil]),F9,N9,H.os,H.bare⟩)
    | ((with_reducible show wpAny _ _ (call (.ref 106) _) _ _ _);(rename Fr ..=>F9);(rename News ..=>N9);refine Ca [(x,instObj 150 dx),(dx,dictOf (wd hsh tkn (.bool false) (.bool false) .none ev (.bool false) .none .none .none wr da de ns pm pr rs rd 0) ep),(da,listOf (strValues ds).toArray n1),(out,listOf (strValues ol).toArray n2),(wr,Ai out)] [(nl,listOf its n)] F9 N9 H.os H.bare (by walk_at "l_mem") (by walk_at "l_mem") (by walk_at "l_notin") fun g₂ H₂ K₂ _ back=>Ng (X.keeps K₂) (T.keeps K₂) H₂ hh (Nat.lt_of_lt_of_le (Nat.succ_lt_succ zq) (by decide)) (Ae K₂ hpr) hok hdz ndf hdl hoz fun s5 n3 n4 ol2 e5 H5=>?_;obtain⟨F5,N5,o5,b5⟩:=back _ _ H5;clear back F9 N9 H₂ H5;(try clear g₂);revert s5 n3 n4 ol2;with_reducible refine let_mvar% ?ns10S4x3:=(fun s5 n3 n4 ol2=>?_:Fa4 _);Ax Bc (Cy:Tie _ (type_of% ?ns10S4x3)) (?ns10S4x3 _ _ _ _);intro e5 F5 N5 o5 b5;(try dsimp only))
    | ((with_reducible show Q9 _ _);refine hq9 _ _ ?_;(try dsimp only))
    | walk_at "go")
 refine exs3 ?_;with_reducible refine let_mvar% ?zq3:=(fun s6 n3 n4 ol2=>?_:Fa4 _);Ax Bc (Cy:Tie _ (type_of% ?zq3)) (?zq3 _ _ _ _);rintro⟨e5,F6,N6,o6,b6⟩
 (try dsimp only)
 repeat' (first
    | ((with_reducible show wpAny _ _ (subscriptTail _ _ (.ref ns) (.int (-1) _)) _ _ _);refine Cu (vs:=npre) (v:=.ref nl) (Ae (Fr.keep (by k_asm)) hns) ?_;(try dsimp only))
    | ((with_reducible show wpAny _ _ (call (.builtin "list.append") [.ref nl,_]) _ _ _);(rename Fr ..=>F9);(rename News ..=>N9);refine append_K F9 N9 (by walk_at "l_upd") ?_ hiz;clear F9 N9;walk_at "eps";rename_i h9;intro F9 N9;(try k_sweep))
    | ((with_reducible show LeaveM _ _ _ _ _);(rename Fr ..=>F9);(rename News ..=>N9);exact leaveM_ F9 N9 o6 b6 fun H'=>hN _ n3 n4 ol2 _ (ltN (by(rename_i ina0;exact ina0.1))) (ltN (by(rename_i ina0;exact ina0.2.1))) (ltN (by(rename_i ina0;exact ina0.2.2.1))) (ltN (by(rename_i ina0;exact ina0.2.2.2.1))) (ltN (by(rename_i ina0;exact ina0.2.2.2.2.1))) (ltN (by(rename_i ina0;exact ina0.2.2.2.2.2))) e5 H')
    | ((with_reducible show Q9 _ _);refine hq9 _ _ ?_;(try dsimp only))
    | walk_at "go")
end
theorem rs9:True∧True:=by
 (try walk1);(try w_top off)
 all_goals (first | trivial | exact ⟨trivial,trivial⟩)
section

noncomputable def Ju(w:World)(A:Around)(s:Shared)(g:Heap)(os:OsState)(p:Program)(zw:List Str)(zr:ExcName→Option Value)(mg mb:Str→Option Value)(R:Result→Shared→Prop)(x dx:Addr)(hsh:Nat→Int)(tkn:Nat→Tok)(wr da de ns pm pr:Addr)(rd:Bool)(ep:Nat)(out:Addr)(n1 n2:Nat)(ds ol:List (Str × Tok))(pre:List Value)(pv:Bool)(dl nl:Addr)(its nits:Array Value)(n nde nns nn npr:Nat)(dlv nlv:List (Addr × Array Value))(dps nps:List Pr)(q uri tag:Str)(tq:Tok)(ev:Value):Prop :=
 ∀ (X:(hd03.heap_39 w.params).In g) (T:Top p zw zr mg mb g) (H:Ok g os [(x,instObj 150 dx),(dx,dictOf (wd hsh tkn (.bool false) (.bool false) .none ev (.bool false) .none .none .none wr da de ns pm pr true rd 0) ep),(da,listOf (strValues ds).toArray n1),(out,listOf (strValues ol).toArray n2),(wr,Ai out),(de,listOf ((dlv++[(dl,its)]).map fun p=>Value.ref p.1).toArray nde),(dl,listOf its n),(ns,listOf ((nlv++[(nl,nits)]).map fun p=>Value.ref p.1).toArray nns),(nl,listOf nits nn),(pr,listOf (pre++[Value.bool pv]).toArray npr)] s) (hh:A.handled=none) (zq:A.depth<700) (hok:JoinOk Str.empty (ds.map (·.1))=true) (hdz:(strValues ds).toArray.size≤sizeLine) (hdl:(Txt.join Str.empty (ds.map (·.1))).length≤2000) (hoz:(strValues ol).toArray.size≤sizeLine) (hDl:∀ p∈dlv,g.IsList p.1 p.2) (hDz:∀ p∈dlv++[(dl,its)],(p.2.size:Int)<2 ^ 63) (hDp:All2 (As g) (comes (dlv++[(dl,its)])) dps) (hDn:dps.length<3000) (hDs:∀ q∈dps,q.1.length≤200∧q.2.length≤200) (hNl:∀ p∈nlv,g.IsList p.1 p.2∧(p.2.size:Int)<2 ^ 63) (hNp:All2 (As g) (comes (nlv++[(nl,nits)])) nps) (hNq:∀ q∈nps,q.1.length≤200∧q.2.length≤200) (hnz:(nits.size:Int)<2 ^ 63) (hiz:its.size≤sizeLine) (hol:ol.length≤5000) (hq:q.length≤200) (hut:uri.length≤200∧tag.length≤200) (hn:Ek q uri tag=true) (hsome:qn dps nps uri tag≠none) (hl1:dlv.length≤1000) (hl2:nlv.length≤1000) (hl3:pre.length≤1000) (nd:([x,dx,da,out,wr,de,dl,ns,nl,pr]:List Addr).Nodup) (hN:∀ s' n3 n4 ol3 txt o rd2,qn dps nps uri tag=some (txt,o)→rd2=decide (pre.length=1)→ol3.map (·.1)=ol.map (·.1)++(Bn true (Bq true (Txt.join Str.empty (ds.map (·.1))))++[Str.ofString "</"++txt++Str.ofString ">"])→Ok g os [(x,instObj 150 dx),(dx,dictOf (wd hsh tkn (.bool false) (.bool false) .none ev (.bool false) .none .none .none wr da de ns pm pr true rd2 0) ep),(da,listOf #[] n3),(out,listOf (strValues ol3).toArray n4),(wr,Ai out),(de,listOf (dlv.map fun p=>Value.ref p.1).toArray (nde+1)),(ns,listOf (nlv.map fun p=>Value.ref p.1).toArray (nns+1)),(pr,listOf pre.toArray (npr+1))] s'→R (.ok (.ret .none)) s'),codeAny (model rw_dn0283_03.row.prog w) A (.call (.ref 133) ⟨[.ref x,.str q tq],[]⟩) R s
theorem Vh:∀ {w A s g os p zw zr mg mb R x dx hsh tkn wr da de ns pm pr rd ep out n1 n2 ds ol pre pv dl nl its nits n nde nns nn npr dlv nlv dps nps q uri tag tq ev},Ju w A s g os p zw zr mg mb R x dx hsh tkn wr da de ns pm pr rd ep out n1 n2 ds ol pre pv dl nl its nits n nde nns nn npr dlv nlv dps nps q uri tag tq ev:=by
 refine @(Aa (Al neW)<|@(Aa neI<|@(Aa neI<|@(Aa neI<|@(Aa neI<|@(Aa neI<|let_mvar% ?n:=(fun w A s g os p zw zr mg mb R x dx hsh tkn wr da de ns pm pr rd ep out n1 n2 ds ol pre pv dl nl its nits n nde nns nn npr dlv nlv dps nps q uri tag tq ev=>?_:∀ a b c d e f g h i j k l m n o p q r s t u v w x y z a1 b1 c1 d1 e1 f1 g1 h1 i1 j1 k1 l1 m1 n1 o1 p1 q1 r1 s1 t1 u1 v1,Ju a b c d e f g h i j k l m n o p q r s t u v w x y z a1 b1 c1 d1 e1 f1 g1 h1 i1 j1 k1 l1 m1 n1 o1 p1 q1 r1 s1 t1 u1 v1);?n _ _ _ _ _ _ _ _ _ _ _ _ _ _ _ _ _ _ _ _ _ _ _ _ _ _ _ _ _ _ _ _ _ _ _ _ _ _ _ _ _ _ _ _ _ _ _ _))))))
 intro X T H hh zq hok hdz hdl hoz hDl hDz hDp hDn hDs hNl hNp hNq hnz hiz hol hq hut hn hsome hl1 hl2 hl3 nd hN;revert X
 k_fill
 intro X
 refine' Gr (fun y=>List.lookup y [("tag",.str q tq),("self",.ref x)]) H X T ?k6 ?k7 (Nat.lt_trans zq (by decide)) ?k9 ?kB ?km ?kl ?_ ?c1 ?c2 ?c3 ?c4
 (case k6=>k_is)
 (case k7=>k_is)
 (case k9=>exact BindsTo.of_eq rfl)
 (case kB=>exact locs rfl)
 (case km=>exact rfl)
 (case kl=>exact Nat.succ_pos _)
 (case c1=>exact rfl)
 (case c2=>exact rfl)
 (case c3=>exact rfl)
 (case c4=>decide)
 k_whole;with_reducible refine let_mvar% ?zq1:=(fun L' h1 k0=>?_:Fa3 _);Au neI (Cv:Tie _ (type_of% ?zq1)) (?zq1 _ _ _);intro hk0 F1 N1 l1;(try k_lt l1);(try dsimp only)
 refine Dt ?_;walk_at "eps2";rename_i Q9 E9;intro hq9 he9
 have hz1:∀ {k:Nat},k≤1000→k+1≤sizeLine:=fun h=>by rw [sizeLine_eq];exact(Nl fun hn1=>fk [_] (.e V0 (.k 1000) (.e (.s (.k 16777216)) (.s V0) K0)) rfl h hn1)
 have ndf:([x,dx,da,out,wr]:List Addr).Nodup:=Rq nd;refine ndk10 nd ?_;intro n_x_dx n_x_da n_x_out n_x_wr n_x_de n_x_dl n_x_ns n_x_nl n_x_pr n_dx_da n_dx_out n_dx_wr n_dx_de n_dx_dl n_dx_ns n_dx_nl n_dx_pr n_da_out n_da_wr n_da_de n_da_dl n_da_ns n_da_nl n_da_pr n_out_wr n_out_de n_out_dl n_out_ns n_out_nl n_out_pr n_wr_de n_wr_dl n_wr_ns n_wr_nl n_wr_pr n_de_dl n_de_ns n_de_nl n_de_pr n_dl_ns n_dl_nl n_dl_pr n_ns_nl n_ns_pr n_nl_pr
 repeat' ((fail_if_success (with_reducible show wpAny _ _ (execs (Stmt.If (Expr.Attribute _ "_data" _) _ _ _::_) _) _ _ _));walk_at "go")
 refine' wpAny_execs_cons (Bz (R:=fun s'=>∃ n3 n4 ol2,ol2.map (·.1)=ol.map (·.1)++Bn true (Bq true (Txt.join Str.empty (ds.map (·.1))))∧Fr g L' s'.heap (fun y=>List.lookup y [(Str.ofString "tag",Value.str q tq),(Str.ofString "self",Value.ref x)])∧News g L' s'.heap [(x,instObj 150 dx),(dx,dictOf (wd hsh tkn (.bool false) (.bool false) .none ev (.bool false) .none .none .none wr da de ns pm pr true rd 0) ep),(da,listOf #[] n3),(out,listOf (strValues ol2).toArray n4),(wr,Ai out),(de,listOf ((dlv++[(dl,its)]).map fun p=>Value.ref p.1).toArray nde),(dl,listOf its n),(ns,listOf ((nlv++[(nl,nits)]).map fun p=>Value.ref p.1).toArray nns),(nl,listOf nits nn),(pr,listOf (pre++[Value.bool pv]).toArray npr)]∧s'.os=os∧AllBare s'.gens) ?c1 ?c2)
 case c1 =>
  by_cases hds:ds=[]
  ·subst hds
   repeat' (first
    | ((with_reducible show Flow.next=_∧_);(rename Fr ..=>F9);(rename News ..=>N9);first | exact⟨rfl,_,_,_,e5,F9,N9,o5,b5⟩ | exact⟨rfl,_,_,_,by(rw [Cf,List.append_nil]),F9,N9,H.os,H.bare⟩)
    | ((with_reducible show Q9 _ _);refine hq9 _ _ ?_;(try dsimp only))
    | walk_at "go")
  ·have hsz:(!(strValues ds).toArray.isEmpty)=true:=ne_sz hds
   repeat' (first
    | ((with_reducible show wpAny _ _ (truthy (.ref da)) _ _ _);refine wpAny_truthy_list ⟨_,News.get (by k_asm) (by k_mem),rfl,_,rfl⟩ (Fd hdz) ?_;(try dsimp only))
    | ((with_reducible show Flow.next=_∧_);(rename Fr ..=>F9);(rename News ..=>N9);first | exact⟨rfl,_,_,_,e5,F9,N9,o5,b5⟩ | exact⟨rfl,_,_,_,by(rw [Cf,List.append_nil]),F9,N9,H.os,H.bare⟩)
    | ((with_reducible show wpAny _ _ (call (Value.ref 106) _) _ _ _);(rename Fr ..=>F9);(rename News ..=>N9);refine Ca [(x,instObj 150 dx),(dx,dictOf (wd hsh tkn (.bool false) (.bool false) .none ev (.bool false) .none .none .none wr da de ns pm pr true rd 0) ep),(da,listOf (strValues ds).toArray n1),(out,listOf (strValues ol).toArray n2),(wr,Ai out)] [(de,listOf ((dlv++[(dl,its)]).map fun p=>Value.ref p.1).toArray nde),(dl,listOf its n),(ns,listOf ((nlv++[(nl,nits)]).map fun p=>Value.ref p.1).toArray nns),(nl,listOf nits nn),(pr,listOf (pre++[Value.bool pv]).toArray npr)] F9 N9 H.os H.bare (by walk_at "l_mem") (by walk_at "l_mem") (by walk_at "l_notin") fun g₂ H₂ K₂ r₂ back=>Ng (X.keeps K₂) (T.keeps K₂) H₂ hh (Nat.lt_of_lt_of_le (Nat.succ_lt_succ zq) (by decide)) ⟨_,r₂ (pr,_) (by k_mem),rfl,_,rfl⟩ hok hdz ndf hdl hoz fun s5 n3 n4 ol2 e5 H5=>?_;obtain⟨F5,N5,o5,b5⟩:=back _ _ H5;clear back F9 N9 H₂ H5;(try clear g₂);revert s5 n3 n4 ol2;with_reducible refine let_mvar% ?ns12S4x4:=(fun s5 n3 n4 ol2=>?_:Fa4 _);Ax Bc (Cy:Tie _ (type_of% ?ns12S4x4)) (?ns12S4x4 _ _ _ _);intro e5 F5 N5 o5 b5;(try dsimp only))
    | ((with_reducible show Q9 _ _);refine hq9 _ _ ?_;(try dsimp only))
    | walk_at "go")
 refine exs3 ?_;with_reducible refine let_mvar% ?zq3:=(fun s6 n3 n4 ol2=>?_:Fa4 _);Ax Bc (Cy:Tie _ (type_of% ?zq3)) (?zq3 _ _ _ _);rintro⟨e5,F6,N6,o6,b6⟩
 (try dsimp only)
 have hoz2:=oz_of e5 (Nat.le_trans (Ff _ _) (by decide)) hol
 refine' wpAny_execs_cons (Bz (R:=fun s'=>∃ n4 ol3 txt o,qn dps nps uri tag=some (txt,o)∧ol3.map (·.1)=ol.map (·.1)++(Bn true (Bq true (Txt.join Str.empty (ds.map (·.1))))++[Str.ofString "</"++txt++Str.ofString ">"])∧Fr g L' s'.heap (fun y=>List.lookup y [(Str.ofString "tag",Value.str q tq),(Str.ofString "self",Value.ref x)])∧News g L' s'.heap [(x,instObj 150 dx),(dx,dictOf (wd hsh tkn (.bool false) (.bool false) .none ev (.bool false) .none .none .none wr da de ns pm pr true rd 0) ep),(da,listOf #[] n3),(out,listOf (strValues ol3).toArray n4),(wr,Ai out),(de,listOf ((dlv++[(dl,its)]).map fun p=>Value.ref p.1).toArray nde),(ns,listOf ((nlv++[(nl,nits)]).map fun p=>Value.ref p.1).toArray nns),(nl,listOf nits nn),(pr,listOf (pre++[Value.bool pv]).toArray npr)]∧s'.os=os∧AllBare s'.gens) ?d1 ?d2)
 case d1 =>
  repeat' (first
    | ((with_reducible show wpAny _ _ (callWith _ (.ref wr) _ _ _) _ _ _);refine Ce ?_;(try dsimp only))
    | ((with_reducible show BmP _ _∧_);refine⟨⟨_,_,News.get (by k_asm) (by k_mem)⟩,?_⟩)
    | ((with_reducible show wpAny _ _ (call (.ref wr) _) _ _ _);(rename Fr ..=>F9);(rename News ..=>N9);refine Hg F9 N9 (by k_mem) (by walk_at "l_upd") hoz2 ?_;clear F9 N9;walk_at "eps";rename_i h9;intro F9 N9;(try dsimp only))
    | ((with_reducible show wpAny _ _ (call (Value.ref 90) _) _ _ _);(rename Fr ..=>F9);(rename News ..=>N9);refine Ca [(x,instObj 150 dx),(dx,dictOf (wd hsh tkn (.bool false) (.bool false) .none ev (.bool false) .none .none .none wr da de ns pm pr true rd 0) ep),(dl,listOf its n)] [(da,listOf #[] n3),(out,listOf (strValues ol2).toArray n4),(wr,Ai out),(de,listOf ((dlv++[(dl,its)]).map fun p=>Value.ref p.1).toArray nde),(ns,listOf ((nlv++[(nl,nits)]).map fun p=>Value.ref p.1).toArray nns),(nl,listOf nits nn),(pr,listOf (pre++[Value.bool pv]).toArray npr)] F9 N9 o6 b6 (by walk_at "l_mem") (by walk_at "l_mem") (by walk_at "l_notin") fun g₂ H₂ K₂ r₂ back=>Kq (dlv:=dlv) (nlv:=nlv++[(nl,nits)]) (dps:=dps) (nps:=nps) (uri:=uri) (tag:=tag) (X.keeps K₂) (T.keeps K₂) H₂ ⟨_,r₂ (de,_) (by k_mem),rfl,_,rfl⟩ (fun p hp=>Ae K₂ (hDl p hp)) hDz (hDp.mono fun _ _ z=>z.keeps K₂) hDn (fun z hz=>⟨Nat.le_trans (hDs z hz).1 (by decide),Nat.le_trans (hDs z hz).2 (by decide)⟩) ⟨_,r₂ (ns,_) (by k_mem),rfl,_,rfl⟩ ?hNl (hNp.mono fun _ _ z=>z.keeps K₂) (fun z hz=>⟨Nat.le_trans (hNq z hz).1 (by decide),Nat.le_trans (hNq z hz).2 (by decide)⟩) (by walk_at "l_ne") (by walk_at "l_ne") hiz hh (Nat.lt_of_lt_of_le (Nat.succ_lt_succ zq) (by decide)) (Nat.le_trans hq (by decide)) ⟨Nat.le_trans hut.1 (by decide),Nat.le_trans hut.2 (by decide)⟩ hn (fun s7 txt ta t1 t2 t3 hqn l1 l2 l3 H7=>?_) (fun s7 txt pf ta tb t1 t2 t3 t4 t5 hqn l1 l2 l3 l4 l5 l6 l7 H7=>?_) hsome;(case hNl=>(intro z hz;rcases List.mem_append.mp hz with hz | hz;exact⟨Ae K₂ (hNl z hz).1,(hNl z hz).2⟩;(rw [List.mem_singleton.mp hz];exact⟨⟨_,r₂ (nl,_) (by k_mem),rfl,_,rfl⟩,hnz⟩)));all_goals (have nto:ta≠out:=Gl H7 r₂ (List.Mem.head _) (show (out,_)∈_ by k_mem);(try (have ntb:tb≠out:=Gl H7 r₂ (show (tb,_)∈_ by k_mem) (show (out,_)∈_ by k_mem)));obtain⟨F7,N7,o7,b7⟩:=back _ _ H7;simp only [List.cons_append,List.nil_append] at N7;have hql:txt.length≤1000:=Nat.le_trans (Wn hqn (fun z hz=>(hDs z hz).2) (fun z hz=>(hNq z hz).2) hut.2) (by decide);replace l1:=ltN l1;replace l2:=ltN l2;replace l3:=ltN l3;clear back F9 N9 H₂ H7;(try dsimp only)))
    | ((first | (with_reducible show Flow.next=_∧_) | (with_reducible show True∧_));(rename Fr ..=>F9);(rename News ..=>N9);exact⟨by first | exact rfl | exact trivial,_,ol2++[(_,_)],_,_,hqn,by(rw [List.map_append,e5,List.append_assoc];rfl),F9,by(rw [Bw];exact News.sub N9 (by walk_at "l_mem")),by assumption,by assumption⟩)
    | ((with_reducible show Q9 _ _);refine hq9 _ _ ?_;(try dsimp only))
    | walk_at "go")
 refine exs4 ?_;with_reducible refine let_mvar% ?zq4:=(fun s8 n4 ol3 txt o=>?_:Fa5 _);Ci Bc (Hf:Tie _ (type_of% ?zq4)) (?zq4 _ _ _ _ _);rintro⟨hqn,e8,F8,N8,o8,b8⟩
 (try dsimp only)
 rw [List.map_append,List.map_append] at N8
 (try dsimp only [List.map] at N8)
 repeat' (first
    | ((with_reducible show wpAny _ _ (call (.builtin "list.pop") _) _ _ _);(try dsimp only);(with_reducible show wpAny _ _ (call _ [.ref pr]) _ _ _);(rename Fr ..=>F9);(rename News ..=>N9);refine Pw F9 N9 (by walk_at "l_upd") (hz1 hl3) ?_;clear F9 N9;walk_at "eps";rename_i h9;intro F9 N9;(try dsimp only))
    | ((with_reducible show wpAny _ _ (call (.builtin "list.pop") _) _ _ _);(try dsimp only);(with_reducible show wpAny _ _ (call _ [.ref de]) _ _ _);(rename Fr ..=>F9);(rename News ..=>N9);refine Pw F9 N9 (by walk_at "l_upd") (hz1 (by(rw [List.length_map];exact hl1))) ?_;clear F9 N9;walk_at "eps";rename_i h9;intro F9 N9;(try dsimp only))
    | ((with_reducible show wpAny _ _ (call (.builtin "list.pop") _) _ _ _);(try dsimp only);(with_reducible show wpAny _ _ (call _ [.ref ns]) _ _ _);(rename Fr ..=>F9);(rename News ..=>N9);refine Pw F9 N9 (by walk_at "l_upd") (hz1 (by(rw [List.length_map];exact hl2))) ?_;clear F9 N9;walk_at "eps";rename_i h9;intro F9 N9;(try dsimp only))
    | ((with_reducible show wpAny _ _ (setAttr (.ref x) _ _) _ _ _);k_dflt (refine' set_dict ?k1 ?k2 ?k3 ?k4 ?k5 ?k6 ?k7 ?k8 ?k9 ?k10 ?k11 ?k12 ?k13 ?_;(case k1=>k_asm);(case k2=>k_asm);(case k3=>k_asm);(case k4=>k_inst);(case k5=>exact rfl);(case k6=>k_is);(case k7=>k_is);(case k8=>k_is);(case k9=>k_is);(case k10=>k_get);(case k11=>exact put_rd);(case k12=>walk_at "l_upd");(case k13=>exact Nat.le_of_ble_eq_true rfl);k_whole;walk_at "eps";rename_i h9;intro F9 N9;(try k_sweep)))
    | ((with_reducible show wpAny _ _ (call (.builtin "len") [.ref pr]) _ _ _);refine call_len_list ⟨_,News.get (by k_asm) (by k_mem),rfl,_,rfl⟩ (Fd (by(rw [List.size_toArray,sizeLine_eq];exact(Nl fun hn1=>fk [_] (.e V0 (.k 1000) (.e (.s (.k 16777216)) V0 K0)) rfl hl3 hn1)))) ?_;(try dsimp only))
    | ((with_reducible show Q9 _ _);refine hq9 _ _ ?_;(try dsimp only))
    | walk_at "go")
 rename News ..=>N9
 rename Fr ..=>F9
 refine leaveM_ F9 (News.sub N9 (by walk_at "l_mem")) o8 b8 fun H'=>hN _ n3 n4 ol3 txt o _ hqn ?_ e8 H'
 rw [Bool.eq_iff_iff,beq_iff_eq,decide_eq_true_eq,List.size_toArray]
 lia
end
section

set_option genSizeOf false in
set_option genInjectivity false in
structure FD where
 (dx wr da de ns pm pr out:Addr)
 hsh:Nat→Int
 tkn:Nat→Tok
 (ep n1 n2 nde nns npr:Nat)
 (ds ol:List (Str × Tok))
 (dlv nlv:List (Addr × Array Value))
 rest:List (Addr × Obj)
 ev:Value
theorem Nx:Nonempty FD:=⟨⟨0,0,0,0,0,0,0,0,fun _=>0,fun _=>default,0,0,0,0,0,0,[],[],[],[],[],.none⟩⟩
theorem neWS:Nonempty WS:=⟨⟨false,false,[],[],[],[],[]⟩⟩
theorem neTold:Nonempty Told:=⟨.data Str.empty⟩
noncomputable abbrev FD.base(f:FD)(w:WS)(x:Addr):List (Addr × Obj):=[(x,instObj 150 f.dx),(f.dx,dictOf (wd f.hsh f.tkn (.bool false) (.bool false) .none f.ev (.bool false) .none .none .none f.wr f.da f.de f.ns f.pm f.pr w.seen w.done 0) f.ep),(f.da,listOf (strValues f.ds).toArray f.n1),(f.out,listOf (strValues f.ol).toArray f.n2),(f.wr,Ai f.out),(f.de,listOf (f.dlv.map fun p=>.ref p.1).toArray f.nde),(f.ns,listOf (f.nlv.map fun p=>.ref p.1).toArray f.nns),(f.pr,listOf (w.pre.map .bool).toArray f.npr)]
noncomputable abbrev FD.own(f:FD)(w:WS)(x:Addr):List (Addr × Obj):=[(x,instObj 150 f.dx),(f.dx,dictOf (wd f.hsh f.tkn (.bool false) (.bool false) .none f.ev (.bool false) .none .none .none f.wr f.da f.de f.ns f.pm f.pr w.seen w.done 0) f.ep),(f.da,listOf (strValues f.ds).toArray f.n1),(f.out,listOf (strValues f.ol).toArray f.n2),(f.wr,Ai f.out),(f.de,listOf (f.dlv.map fun p=>.ref p.1).toArray f.nde),(f.ns,listOf (f.nlv.map fun p=>.ref p.1).toArray f.nns),(f.pr,listOf (w.pre.map .bool).toArray f.npr)]++f.rest
noncomputable abbrev FD.eight(f:FD)(x:Addr):List Addr:=[x,f.dx,f.da,f.out,f.wr,f.de,f.ns,f.pr]
abbrev FD.Off(f:FD)(x:Addr)(tabs:List (Addr × Obj)):Prop:=∀ r∈tabs,r.1∉f.eight x∧∀ q∈f.rest,r.1≠q.1
noncomputable def Dh(y:Str):Bool:=decide (y=Str.ofString "x") || decide (y=Str.ofString "{urn:a}x")
noncomputable abbrev FD.key(f:FD):Addr × Value:=(f.out,f.ev)
def Hi(W:World)(rest:List (Addr × Obj))(ev:Value):Prop:=ev=.none∨∃ sx o c,ev=.ref sx∧(sx,o)∈rest∧Bi rw_dn0283_03.row.prog W o Dh c
structure FD.Is (W:World) (f:FD) (w:WS) (x:Addr):Prop where
 data:f.ds.map (·.1)=w.data
 out:f.ol.map (·.1)=w.out
 dl:∀ p∈f.dlv,∃ n,(p.1,listOf p.2 n)∈f.rest
 nl:∀ p∈f.nlv,∃ n,(p.1,listOf p.2 n)∈f.rest
 dp:All2 (fun(p:Addr × Array Value) l=>All2 (Ak f.rest) p.2.toList l) f.dlv w.decl
 np:All2 (fun(p:Addr × Array Value) l=>All2 (Ak f.rest) p.2.toList l) f.nlv w.nss
 nd:(f.eight x).Nodup
 off:∀ r∈f.rest,r.1∉f.eight x
 ndl:(f.dlv.map (·.1)++f.nlv.map (·.1)).Nodup
 left:Hi W f.rest f.ev
section
variable{W:World}{f:FD}{w:WS}{x:Addr}{tabs:List (Addr × Obj)}{n:Nat}
theorem FD.Is.pre(hI:f.Is W w x)(hT:f.Off x tabs)(k:Nat):(∀ q∈(f.base w x).take k,q∈f.own w x++tabs)∧(∀ q∈(f.base w x).drop k++(f.rest++tabs),q∈f.own w x++tabs)∧(∀ q∈(f.base w x).drop k++(f.rest++tabs),q.1∉((f.base w x).take k).map (·.1)):=by
 have e8:f.eight x=(f.base w x).map (·.1):=rfl;have nd:=hI.nd;rw [e8,← List.take_append_drop k (f.base w x),List.map_append] at nd
 refine⟨fun q hq=>Ml _ (Ml _ (List.mem_of_mem_take hq)),fun q hq=>?_,fun q hq z=>?_⟩
 ·rcases List.mem_append.mp hq with h | h
  ·exact Ml _ (Ml _ (List.mem_of_mem_drop h))
  ·rcases List.mem_append.mp h with h | h
   ·exact Ml _ (Mr _ h)
   ·exact Mr _ h
 ·have z8:q.1∈f.eight x:=by
   obtain⟨r,hr,e⟩:=List.mem_map.mp z;rw [← e,e8];exact List.mem_map_of_mem (List.mem_of_mem_take hr)
  rcases List.mem_append.mp hq with h | h
  ·exact(List.nodup_append.mp nd).2.2 _ z _ (List.mem_map_of_mem h) rfl
  ·rcases List.mem_append.mp h with h | h
   ·exact hI.off q h z8
   ·exact(hT q h).1 z8
theorem FD.Is.preN(hI:f.Is W w x)(hT:f.Off x tabs)(k:Nat){nl:Addr}{o:Obj}(hnl:(nl,o)∈f.rest){filt:List (Addr × Obj)}(hout:∀ r∈filt,r∈f.rest∧r.1≠nl) :
  (∀ q∈(f.base w x).take k++[(nl,o)],q∈f.own w x++tabs)∧(∀ q∈(f.base w x).drop k++(filt++tabs),q∈f.own w x++tabs)∧(∀ q∈(f.base w x).drop k++(filt++tabs),q.1∉((f.base w x).take k++[(nl,o)]).map (·.1)):=by
 obtain⟨p1,p2,p3⟩:=hI.pre hT k
 have up:∀ q∈(f.base w x).drop k++(filt++tabs),q∈(f.base w x).drop k++(f.rest++tabs)∧q.1≠nl:=fun q hq=>by
  rcases List.mem_append.mp hq with h | h
  ·refine⟨Ml _ h,fun e=>hI.off _ hnl ?_⟩
   show nl∈f.eight x
   rw [← e];exact List.mem_map_of_mem (f:=(·.1)) (l:=f.base w x) (List.mem_of_mem_drop h)
  ·rcases List.mem_append.mp h with h | h
   ·exact⟨Mr _ (Ml _ (hout q h).1),(hout q h).2⟩
   ·exact⟨Mr _ (Mr _ h),(hT q h).2 _ hnl⟩
 refine⟨fun q hq=>?_,fun q hq=>p2 q (up q hq).1,fun q hq z=>?_⟩
 ·rcases List.mem_append.mp hq with h | h
  ·exact p1 q h
  ·rw [List.mem_singleton.mp h];exact Ml _ (Mr _ hnl)
 ·rw [List.map_append] at z
  rcases List.mem_append.mp z with z | z
  ·exact p3 q (up q hq).1 z
  ·exact(up q hq).2 (List.mem_singleton.mp z)
theorem FD.Is.bounds(hI:f.Is W w x)(hf:Fit n w)(hn:n≤100):JoinOk Str.empty (f.ds.map (·.1))=true∧(strValues f.ds).toArray.size≤sizeLine∧(Txt.join Str.empty (f.ds.map (·.1))).length≤2000∧(strValues f.ol).toArray.size≤sizeLine∧f.ol.length≤400:=by
 have h1:=Tj hf hn;have h2:=hf.d1;have h3:=hf.o1;rw [← hI.data] at h1;rw [← hI.data,List.length_map] at h2;rw [← hI.out,List.length_map] at h3
 have e:∀ l:List (Str × Tok),(strValues l).toArray.size=l.length:=fun l=>by simp [strValues]
 rw [e,e,sizeLine_eq]
 exact⟨h1.1,by exact(Nl fun hn1=>fk [_,_] (.e V0 (.k 100) (.e V1 V0 (.e (.s (.k 16777216)) V1 K0))) rfl hn h2 hn1),h1.2,by exact(Nl fun hn1=>fk [_,_] (.c 4 V0 (.k 100) (.e V1 (.m 4 V0) (.e (.s (.k 16777216)) V1 K0))) rfl hn h3 hn1),by exact(Nl fun hn1=>fk [_,_] (.c 4 V0 (.k 100) (.e V1 (.m 4 V0) (.e (.s (.k 400)) V1 K0))) rfl hn h3 hn1)⟩
theorem Fit.lastOf(hf:Fit n w):∃ b pv,w.pre=b++[pv]∧w.core.last=pv∧w.pre.map Value.bool=b.map Value.bool++[Value.bool pv]:=by
 obtain⟨b,pv,e⟩:=Dm hf.l4
 exact⟨b,pv,e,by unfold KS.last WS.core;rw [e];simp [List.getLastD_eq_getLast?],by rw [e];simp⟩
theorem FD.Is.nd3(hI:f.Is W w x):([x,f.dx,f.da]:List Addr).Nodup:=List.Nodup.sublist (List.take_sublist 3 (f.eight x)) hI.nd
theorem FD.Is.nd5(hI:f.Is W w x):([x,f.dx,f.da,f.out,f.wr]:List Addr).Nodup:=List.Nodup.sublist (List.take_sublist 5 (f.eight x)) hI.nd
theorem FD.Is.nd4(hI:f.Is W w x):([x,f.dx,f.out,f.wr]:List Addr).Nodup:=List.Nodup.sublist (.cons_cons _ (.cons_cons _ (.cons _ (List.Sublist.refl _)))) hI.nd5
end
theorem Gk{l:List Addr}{a:Addr}(h:l.Nodup)(ha:a∉l):(l++[a]).Nodup:=List.nodup_append.mpr ⟨h,(by simp),fun b hb c hc e=>ha (by rw [← List.mem_singleton.mp hc,← e];exact hb)⟩
theorem nd10_of{a b c d e f g h i j:Addr}(n8:([a,b,c,d,e,f,g,h]:List Addr).Nodup)(hi:i∉[a,b,c,d,e,f,g,h])(hj:j∉[a,b,c,d,e,f,g,h])(hij:i≠j):([a,b,c,d,e,f,i,g,j,h]:List Addr).Nodup:=by
 have p:([a,b,c,d,e,f,i,g,j,h]:List Addr).Perm ([a,b,c,d,e,f,g,h]++[i]++[j]):=by
  refine .cons _ (.cons _ (.cons _ (.cons _ (.cons _ (.cons _ ?_)))))
  show ([i,g,j,h]:List Addr).Perm [g,h,i,j]
  refine(List.Perm.swap _ _ _).trans (.cons _ ?_)
  show ([i,j,h]:List Addr).Perm [h,i,j]
  exact(List.perm_append_comm (l₁:=[i,j]) (l₂:=[h]))
 refine p.symm.nodup (Gk (Gk n8 hi) fun z=>?_)
 rcases List.mem_append.mp z with z | z
 ·exact hj z
 ·exact hij (List.mem_singleton.mp z).symm
end
section

theorem Rt{P:Prop}{g:Heap}{os:OsState}{news:List (Addr × Obj)}{s:Shared}(own rest:List (Addr × Obj))(H:Ok g os news s)(h1:∀ p∈own,p∈news)(h2:∀ p∈rest,p∈news)(h3:∀ p∈rest,p.1∉own.map (·.1))
  (h:∀ g₂,Ok g₂ os own s→(∀ b o,g.get? b=some o→g₂.get? b=some o)→(∀ p∈rest,g₂.get? p.1=some p.2)→(∀ s' own',Ok g₂ os own' s'→Ok g os (own'++rest) s')→P):P:=by
 have nm:∀ b o,g.get? b=some o→b∉own.map (·.1):=fun b o e q=>by
  obtain⟨p,hp,rfl⟩:=List.mem_map.mp q;rw [(H.own p (h1 p hp)).2] at e;cases e
 have st:∀ b o,g.get? b=some o→(hideAll s.heap (own.map (·.1))).get? b=some o:=fun b o e=>hideAll_get _ (H.keep b o e) (nm b o e)
 have rs:∀ p∈rest,(hideAll s.heap (own.map (·.1))).get? p.1=some p.2:=fun p hp=>hideAll_get _ (H.own p (h2 p hp)).1 (h3 p hp)
 refine h _ ⟨Nat.le_of_eq (hideAll_size _ _),fun b o e=>of_hideAll _ e,fun p hp=>⟨(H.own p (h1 p hp)).1,hideAll_none _ (List.mem_map_of_mem hp)⟩,H.os,H.bare⟩ st rs fun s' own' H'=>⟨Nat.le_trans H.size (Nat.le_trans (Nat.le_of_eq (hideAll_size _ _).symm) H'.size),fun b o e=>H'.keep b o (st b o e),fun p hp=>?_,H'.os,H'.bare⟩
 rcases List.mem_append.mp hp with q | q
 ·refine⟨(H'.own p q).1,?_⟩
  cases z:g.get? p.1 with
  | none=>rfl
  | some o=>have:=(H'.own p q).2;rw [st _ _ z] at this;cases this
 ·exact⟨H'.keep _ _ (rs p q),(H.own p (h2 p q)).2⟩
end
section

theorem All2.unsnoc{α β:Type}{P:α→β→Prop}{a:α}:∀ {l:List α} {R:List β},All2 P (l++[a]) R→∃ r b,R=r++[b]∧All2 P l r∧P a b:=by
 intro l
 induction l with
 | nil =>
  intro R h
  cases h with
  | cons z t=>cases t;exact⟨[],_,rfl,.nil,z⟩
 | cons c l ih =>
  intro R h
  cases h with
  | cons z h =>
   obtain⟨r,b,e,h1,h2⟩:=ih h;exact⟨_::r,b,congrArg _ e,.cons z h1,h2⟩
theorem swap45{α:Type}{a b c d e:α}:∀ q∈[a,b,d,e],q∈[a,b,c,d,e]:=Fc (.head _) (Fc (.tail _ (.head _)) (Fc (.tail _ (.tail _ (.tail _ (.head _)))) (Fc (.tail _ (.tail _ (.tail _ (.tail _ (.head _))))) (fun _ z=>nomatch z))))
theorem da_not4{a b c d e:Addr}(n:([a,b,c,d,e]:List Addr).Nodup):c∉[a,b,d,e]:=by simp at n ⊢;exact⟨Ne.symm n.1.2.1,Ne.symm n.2.1.1,n.2.2.1.1,n.2.2.1.2⟩
theorem swap_da{α:Type}{a b c d e:α}{l t:List α}:∀ q∈([a,b,c,d,e]++l)++t,q∈[a,b,d,e]++(c::(l++t)):=Fp (Fp (Fc (.head _) (Fc (.tail _ (.head _)) (Fc (.tail _ (.tail _ (.tail _ (.tail _ (.head _))))) (Fc (.tail _ (.tail _ (.head _))) (Fc (.tail _ (.tail _ (.tail _ (.head _)))) (List.forall_mem_nil _)))))) (fun _ h=>.tail _ (.tail _ (.tail _ (.tail _ (.tail _ (Ml _ h))))))) (fun _ h=>.tail _ (.tail _ (.tail _ (.tail _ (.tail _ (Mr _ h))))))
theorem Dr{h:Heap}{a l:Addr}{o its:Array Value}{k:Nat}(g1:h.get? a=some (Ad o))(g2:h.get? l=some (listOf its k)):a≠l:=fun e=>by
 subst e;rw [g1] at g2
 exact absurd (congrArg Obj.cls (Option.some.inj g2)) (by simp)
theorem Sj(nl:Addr)(l:List (Addr × Obj)):∃ filt:List (Addr × Obj),(∀ r∈l,r.1≠nl→r∈filt)∧∀ r∈filt,r∈l∧r.1≠nl:=⟨l.filter fun r=>decide (r.1≠nl),fun r hr e=>List.mem_filter.mpr ⟨hr,decide_eq_true e⟩,fun r hr=>⟨(List.mem_filter.mp hr).1,of_decide_eq_true (List.mem_filter.mp hr).2⟩⟩
theorem Gw{β:Type}(nb:List (Addr × β)){nl:Addr}{i:β}:nl∈(nb++[(nl,i)]).map (·.1):=by simp
theorem Sr{β:Type}{nb:List (Addr × β)}{nl:Addr}{i:β}{q:Addr × β}(nd:((nb++[(nl,i)]).map (·.1)).Nodup)(hq:q∈nb):q.1≠nl:=by
 rw [List.map_append] at nd
 exact fun e=>(List.nodup_append.mp nd).2.2 q.1 (List.mem_map_of_mem (f:=(·.1)) hq) nl (by simp) e
theorem notin8{a b c d e f g h t:Addr}(h1:t≠a)(h2:t≠b)(h3:t≠c)(h4:t≠d)(h5:t≠e)(h6:t≠f)(h7:t≠g)(h8:t≠h):t∉[a,b,c,d,e,f,g,h]:=Ab h1 (Ab h2 (Ab h3 (Ab h4 (Ab h5 (Ab h6 (Ab h7 (Ab h8 An)))))))
theorem Wu{α:Type}{a b c d e f g h t n:α}{l ts:List α}:∀ q∈([a,b,c,d,e,f,g,h]++(t::n::l))++ts,q∈[t,a,b,c,d,e,n]++([f,g,h]++(l++ts)):=Fp (Fp (Fc (.tail _ (.head _)) (Fc (.tail _ (.tail _ (.head _))) (Fc (.tail _ (.tail _ (.tail _ (.head _)))) (Fc (.tail _ (.tail _ (.tail _ (.tail _ (.head _))))) (Fc (.tail _ (.tail _ (.tail _ (.tail _ (.tail _ (.head _)))))) (Fc (.tail _ (.tail _ (.tail _ (.tail _ (.tail _ (.tail _ (.tail _ (.head _)))))))) (Fc (.tail _ (.tail _ (.tail _ (.tail _ (.tail _ (.tail _ (.tail _ (.tail _ (.head _))))))))) (Fc (.tail _ (.tail _ (.tail _ (.tail _ (.tail _ (.tail _ (.tail _ (.tail _ (.tail _ (.head _)))))))))) (List.forall_mem_nil _))))))))) (Fc (.head _) (Fc (.tail _ (.tail _ (.tail _ (.tail _ (.tail _ (.tail _ (.head _))))))) (fun _ h=>.tail _ (.tail _ (.tail _ (.tail _ (.tail _ (.tail _ (.tail _ (.tail _ (.tail _ (.tail _ (show _∈l++ts from Ml _ h)))))))))))))) (fun _ h=>.tail _ (.tail _ (.tail _ (.tail _ (.tail _ (.tail _ (.tail _ (.tail _ (.tail _ (.tail _ (show _∈l++ts from Mr _ h)))))))))))
theorem Hi.mono{W:World}{r r':List (Addr × Obj)}{ev:Value}(h:Hi W r ev)(k:∀ q∈r,ev=.ref q.1→(∃ c,Bi rw_dn0283_03.row.prog W q.2 Dh c)→q∈r'):Hi W r' ev:=by
 rcases h with h | ⟨sx,o,c,h1,h2,h3⟩
 ·exact .inl h
 ·exact .inr ⟨sx,o,c,h1,k (sx,o) h2 h1 ⟨c,h3⟩,h3⟩
theorem Dl{W:World}{h:Heap}{q:Addr × Obj}{l:Addr}{its:Array Value}{k:Nat}(x:∃ c,Bi rw_dn0283_03.row.prog W q.2 Dh c)(g1:h.get? q.1=some q.2)(g2:h.get? l=some (listOf its k)):q.1≠l:=fun e=>by
 obtain⟨c,es,ep,t,h1,h2,_⟩:=x;rw [e,g2] at g1;rw [← Option.some.inj g1] at h2
 cases h2
section
variable{W:World}{A:Around}{E:Value→Shared→Prop}{s:Shared}{g:Heap}{os:OsState}{p:Program}{zw:List Str}{zr:ExcName→Option Value}{mg mb:Str→Option Value}{L:Addr}{m:Str→Option Value}{Q:Value→Shared→Prop}{w:WS}{f:FD}{x:Addr}{tabs:List (Addr × Obj)}{n:Nat}
noncomputable def Oy(W:World)(A:Around)(s:Shared)(g:Heap)(os:OsState)(p:Program)(zw:List Str)(zr:ExcName→Option Value)(mg mb:Str→Option Value)(R:Result→Shared→Prop)(x:Addr)(tabs:List (Addr × Obj))(n:Nat)(pf uri:Str)(tp tu:Tok)(w:WS)(f:FD):Prop :=
 ∀ (X:(hd03.heap_39 W.params).In g) (T:Top p zw zr mg mb g) (hh:A.handled=none) (zq:A.depth<600) (H:Ok g os (f.own w x++tabs) s) (hI:f.Is W w x) (hT:f.Off x tabs) (hf:Fit n w) (hn:n≤100) (hc:Cz w (.sns pf uri)) (h:∀ (f':FD) (s':Shared),f'.key=f.key→f'.Is W (w.tell (.sns pf uri)) x→f'.Off x tabs→Ok g os (f'.own (w.tell (.sns pf uri)) x++tabs) s'→R (.ok (.ret .none)) s'),codeAny (model rw_dn0283_03.row.prog W) A (.call (.ref 113) ⟨[.ref x,.str pf tp,.str uri tu],[]⟩) R s
theorem do_sns:∀ {a b c d e f g h i j k l m n o p q r s t},Oy a b c d e f g h i j k l m n o p q r s t:=by
 refine @(Aa (Al neW)<|@(Aa neI<|@(Ee neI<|@(Bg neWS<|@(Bg Nx<|let_mvar% ?n:=(fun W A s g os p zw zr mg mb R x tabs n pf uri tp tu w f=>?_:∀ a b c d e f g h i j k l m n o p q r s t,Oy a b c d e f g h i j k l m n o p q r s t);?n _ _ _ _ _ _ _ _ _ _ _ _ _ _ _ _ _ _ _ _)))))
 intro X T hh zq H hI hT hf hn hc h;obtain⟨y1,y2,y3,y4,y5⟩:=hI.bounds hf hn;obtain⟨b,pv,epv,hlast,epm⟩:=hf.lastOf;have hI0:=hI;obtain⟨i1,i2,i3,i4,i5,i6,nd,off,ndl,left⟩:=hI
 obtain⟨nb,⟨nl,its⟩,enl⟩:=Dm (l:=f.nlv) (by rw [i6.length,hf.l2];exact Nat.succ_pos _)
 have hmnl:(nl,its)∈f.nlv:=by rw [enl];exact Mr _ (.head _)
 obtain⟨cnt,hnl⟩:=i4 (nl,its) hmnl;rw [enl] at i6 ndl;obtain⟨r0,b0,ens,j1,j2⟩:=All2.unsnoc i6
 have htup:∀ a o,(a,Ad o)∈f.rest→a≠nl:=fun a o hm=>Dr (H.own _ (Ml _ (Mr _ hm))).1 (H.own _ (Ml _ (Mr _ hnl))).1
 obtain⟨filt,hin,hout⟩:=Sj nl f.rest;obtain⟨p1,p2,p3⟩:=hI0.preN hT 5 hnl hout
 have hiz:its.size≤sizeLine:=by
  have e1:its.size=b0.length:=by rw [← j2.length];exact Array.length_toList.symm
  have e2:=hf.f2;rw [ens,Bs,List.length_append] at e2
  rw [e1,sizeLine_eq];exact(Nl fun hn1=>fk [_,_,_] (.e V0 (.k 100) (.e (.a V1 V2) (.a V0 (.k 7)) (.e (.s (.k 16777216)) V1 K0))) rfl hn e2 hn1)
 refine Rt [(x,instObj 150 f.dx),(f.dx,dictOf (wd f.hsh f.tkn (.bool false) (.bool false) .none f.ev (.bool false) .none .none .none f.wr f.da f.de f.ns f.pm f.pr w.seen w.done 0) f.ep),(f.da,listOf (strValues f.ds).toArray f.n1),(f.out,listOf (strValues f.ol).toArray f.n2),(f.wr,Ai f.out),(nl,listOf its cnt)] ([(f.de,listOf (f.dlv.map fun p=>.ref p.1).toArray f.nde),(f.ns,listOf (f.nlv.map fun p=>.ref p.1).toArray f.nns),(f.pr,listOf (w.pre.map .bool).toArray f.npr)]++(filt++tabs)) H p1 p2 p3 fun g₂ H₂ K₂ r₂ back=>?_
 have hpr:g₂.IsList f.pr (b.map Value.bool++[Value.bool pv]).toArray:=by rw [← epm];exact⟨_,r₂ (f.pr,_) (Ml _ (.tail _ (.tail _ (.head _)))),rfl,_,rfl⟩
 have hns:g₂.IsList f.ns ((nb.map fun p=>Value.ref p.1)++[Value.ref nl]).toArray:=by
  have enm:f.nlv.map (fun p=>Value.ref p.1)=(nb.map fun p=>Value.ref p.1)++[Value.ref nl]:=by rw [enl,List.map_append];rfl
  rw [← enm];exact⟨_,r₂ (f.ns,_) (Ml _ (.tail _ (.head _))),rfl,_,rfl⟩
 refine Lq (X.keeps K₂) (T.keeps K₂) H₂ hh (Nat.lt_trans zq (by decide)) hpr y1 y2 y3 y4 hns hiz (Gk hI0.nd5 fun z=>off _ hnl (List.mem_of_mem_take (i:=5) z)) fun s' n3 n4 ol2 tb l1 l2 l3 l4 l5 l6 e3 H'=>?_
 have hne:∀ r∈[(f.de,listOf (f.dlv.map fun p=>.ref p.1).toArray f.nde),(f.ns,listOf (f.nlv.map fun p=>.ref p.1).toArray f.nns),(f.pr,listOf (w.pre.map .bool).toArray f.npr)]++(filt++tabs),tb≠r.1:=fun r hr=>Gl H' r₂ (.head _) (show (r.1,r.2)∈_ from hr)
 have N':=back _ _ H'
 have enm2:f.nlv.map (fun p=>Value.ref p.1)=(nb++[(nl,its.push (.ref tb))]).map fun p=>Value.ref p.1:=by rw [enl,List.map_append,List.map_append];rfl
 rw [enm2] at N'
 have mono:∀ {v:Value} {q:Pr},Ak f.rest v q→Ak ((tb,Ad #[.str uri tu,.str pf tp])::(nl,listOf (its.push (.ref tb)) (cnt+1))::filt) v q:=fun⟨a',y1,y2,e,hm⟩=>⟨a',y1,y2,e,.tail _ (.tail _ (hin _ hm (htup _ _ hm)))⟩
 refine h { f with ds:=[],n1:=n3,ol:=ol2,n2:=n4,nlv:=nb++[(nl,its.push (.ref tb))],rest:=(tb,Ad #[.str uri tu,.str pf tp])::(nl,listOf (its.push (.ref tb)) (cnt+1))::filt } s' rfl ⟨rfl,?_,?_,?_,?_,?_,nd,?_,?_,left.mono fun q hq h1 h2=>.tail _ (.tail _ (hin _ hq (Dl h2 (H.own _ (Ml _ (Mr _ hq))).1 (H.own _ (Ml _ (Mr _ hnl))).1)))⟩ ?_ (Ok.sub N' ?_)
 ·show ol2.map (·.1)=w.out++w.core.flush w.data
  rw [e3,i2,i1]
  rfl
 ·intro q hq
  obtain⟨k,hk⟩:=i3 q hq
  exact⟨k,.tail _ (.tail _ (hin _ hk fun e=>(List.nodup_append.mp ndl).2.2 q.1 (List.mem_map_of_mem (f:=(·.1)) hq) nl (Gw nb) e))⟩
 ·intro q hq
  rcases List.mem_append.mp hq with hq | hq
  ·obtain⟨k,hk⟩:=i4 q (by rw [enl];exact Ml _ hq)
   exact⟨k,.tail _ (.tail _ (hin _ hk (Sr (β:=Array Value) (q:=q) (List.nodup_append.mp ndl).2.1 hq)))⟩
  ·rw [List.mem_singleton.mp hq]
   exact⟨cnt+1,.tail _ (.head _)⟩
 ·exact i5.mono fun _ _ z=>z.mono fun _ _=>mono
 ·show All2 _ (nb++[(nl,its.push (.ref tb))]) (Ed (uri,pf) w.nss)
  rw [ens,Ex]
  refine(j1.mono fun _ _ z=>z.mono fun _ _=>mono).snoc ?_
  show All2 _ (its.push (.ref tb)).toList (b0++[(uri,pf)])
  rw [Array.toList_push]
  exact(j2.mono fun _ _=>mono).snoc ⟨tb,tu,tp,rfl,.head _⟩
 ·intro r hr
  rcases List.mem_cons.mp hr with rfl | hr
  ·exact notin8 (Nat.ne_of_gt l1) (Nat.ne_of_gt l2) (Nat.ne_of_gt l3) (Nat.ne_of_gt l4) (Nat.ne_of_gt l5) (hne (f.de,_) (Ml _ (.head _))) (hne (f.ns,_) (Ml _ (.tail _ (.head _)))) (hne (f.pr,_) (Ml _ (.tail _ (.tail _ (.head _)))))
  rcases List.mem_cons.mp hr with rfl | hr
  ·exact off (nl,listOf its cnt) hnl
  ·exact off r (hout r hr).1
 ·show (f.dlv.map (·.1)++(nb++[(nl,its.push (.ref tb))]).map (·.1)).Nodup
  rw [List.map_append] at ndl ⊢;exact ndl
 ·intro r hr
  refine⟨(hT r hr).1,fun q hq=>?_⟩
  rcases List.mem_cons.mp hq with rfl | hq
  ·exact Ne.symm (hne r (Mr _ (Mr _ hr)))
  rcases List.mem_cons.mp hq with rfl | hq
  ·exact(hT r hr).2 (nl,listOf its cnt) hnl
  ·exact(hT r hr).2 q (hout q hq).1
 ·exact Wu
end
end
section

theorem Cq{P:Value→Pr→Prop}:∀ {dlv:List (Addr × Array Value)} {decl:List (List Pr)},All2 (fun(p:Addr × Array Value) l=>All2 P p.2.toList l) dlv decl→All2 P (comes dlv) (flat decl):=by
 intro dlv decl h
 induction h with
 | nil=>exact .nil
 | cons z h ih =>
  have:=ih.append z;unfold comes flat at *
  simpa using this
theorem Cs{P:Value→Pr→Prop}{dlv:List (Addr × Array Value)}{decl:List (List Pr)}(h:All2 (fun(p:Addr × Array Value) l=>All2 P p.2.toList l) dlv decl):∀ p∈dlv,p.2.size≤(flat decl).length:=by
 induction h with
 | nil=>exact fun _ z=>nomatch z
 | @cons p l dlv decl z h ih =>
  intro q hq
  have e:(flat (l::decl)).length=(flat decl).length+l.length:=by unfold flat;simp
  rcases List.mem_cons.mp hq with rfl | hq
  ·have:=z.length
   simp only [Array.length_toList] at this
   exact(Nl fun hn1=>fk [_,_,_,_] (.e (.a V0 V1) V2 (.e V3 V1 (.e (.s V2) V3 K0))) rfl (Es e) (El this) hn1)
  ·have:=ih q hq
   exact(Nl fun hn1=>fk [_,_,_,_] (.e (.a V0 V1) V2 (.e V3 V0 (.e (.s V2) V3 K0))) rfl (Es e) this hn1)
theorem shuf10{α:Type}{a b c d e f g h i j:α}:∀ q∈[a,b,c,d,e,f,i,g,j,h],q∈[a,b,c,d,e,f,g,h]++[i,j]:=Fc (.head _) (Fc (.tail _ (.head _)) (Fc (.tail _ (.tail _ (.head _))) (Fc (.tail _ (.tail _ (.tail _ (.head _)))) (Fc (.tail _ (.tail _ (.tail _ (.tail _ (.head _))))) (Fc (.tail _ (.tail _ (.tail _ (.tail _ (.tail _ (.head _)))))) (Fc (.tail _ (.tail _ (.tail _ (.tail _ (.tail _ (.tail _ (.tail _ (.tail _ (.head _))))))))) (Fc (.tail _ (.tail _ (.tail _ (.tail _ (.tail _ (.tail _ (.head _))))))) (Fc (.tail _ (.tail _ (.tail _ (.tail _ (.tail _ (.tail _ (.tail _ (.tail _ (.tail _ (.head _)))))))))) (Fc (.tail _ (.tail _ (.tail _ (.tail _ (.tail _ (.tail _ (.tail _ (.head _)))))))) (List.forall_mem_nil _))))))))))
theorem Vm(nl dl:Addr)(l:List (Addr × Obj)):∃ filt:List (Addr × Obj),(∀ r∈l,r.1≠nl→r.1≠dl→r∈filt)∧∀ r∈filt,r∈l∧r.1≠nl∧r.1≠dl:=⟨l.filter fun r=>decide (r.1≠nl∧r.1≠dl),fun r hr e e'=>List.mem_filter.mpr ⟨hr,decide_eq_true ⟨e,e'⟩⟩,fun r hr=>⟨(List.mem_filter.mp hr).1,of_decide_eq_true (List.mem_filter.mp hr).2⟩⟩
theorem nd_two{β:Type}{db nb:List (Addr × β)}{dl nl:Addr}{i j:β}(nd:((db++[(dl,i)]).map (·.1)++(nb++[(nl,j)]).map (·.1)).Nodup):dl≠nl∧(∀ q∈db,q.1≠dl∧q.1≠nl)∧(∀ q∈nb,q.1≠dl∧q.1≠nl)∧(db.map (·.1)++nb.map (·.1)).Nodup:=by
 obtain⟨n1,n2,n3⟩:=List.nodup_append.mp nd;rw [List.map_append] at n1 n2
 have up:∀ {l:List (Addr × β)} {q a:Addr × β},q∈l→q.1∈(l++[a]).map (·.1):=fun h=>List.mem_map_of_mem (Ml _ h)
 refine⟨n3 dl (Gw db) nl (Gw nb),fun q hq=>⟨(List.nodup_append.mp n1).2.2 q.1 (List.mem_map_of_mem hq) dl (.head _),n3 q.1 (up hq) nl (Gw nb)⟩,fun q hq=>⟨Ne.symm (n3 dl (Gw db) q.1 (up hq)),(List.nodup_append.mp n2).2.2 q.1 (List.mem_map_of_mem hq) nl (.head _)⟩,?_⟩
 refine List.nodup_append.mpr ⟨(List.nodup_append.mp n1).1,(List.nodup_append.mp n2).1,fun a ha c hc=>n3 a ?_ c ?_⟩
 ·rw [List.map_append];exact Ml _ ha
 ·rw [List.map_append];exact Ml _ hc
noncomputable def Lz(W:World)(A:Around)(s:Shared)(g:Heap)(os:OsState)(p:Program)(zw:List Str)(zr:ExcName→Option Value)(mg mb:Str→Option Value)(R:Result→Shared→Prop)(x:Addr)(tabs:List (Addr × Obj))(n:Nat)(d:Str)(td:Tok)(w:WS)(f:FD):Prop :=
 ∀ (X:(hd03.heap_39 W.params).In g) (T:Top p zw zr mg mb g) (hh:A.handled=none) (zq:A.depth<600) (H:Ok g os (f.own w x++tabs) s) (hI:f.Is W w x) (hT:f.Off x tabs) (hf:Fit n w) (hn:n≤100) (hc:Cz w (.stop d)) (h:∀ (f':FD) (s':Shared),f'.key=f.key→f'.Is W (w.tell (.stop d)) x→f'.Off x tabs→Ok g os (f'.own (w.tell (.stop d)) x++tabs) s'→R (.ok (.ret .none)) s'),codeAny (model rw_dn0283_03.row.prog W) A (.call (.ref 133) ⟨[.ref x,.str d td],[]⟩) R s
theorem do_stop:∀ {a b c d e f g h i j k l m n o p q r},Lz a b c d e f g h i j k l m n o p q r:=by
 refine @(Aa (Al neW)<|@(Aa neI<|@(Bg neWS<|@(Bg Nx<|let_mvar% ?n:=(fun W A s g os p zw zr mg mb R x tabs n d td w f=>?_:∀ a b c d e f g h i j k l m n o p q r,Lz a b c d e f g h i j k l m n o p q r);?n _ _ _ _ _ _ _ _ _ _ _ _ _ _ _ _ _ _))))
 intro X T hh zq H hI hT hf hn hc h;obtain⟨y1,y2,y3,y4,y5⟩:=hI.bounds hf hn;obtain⟨b,pv,epv,hlast,epm⟩:=hf.lastOf;have hI0:=hI;obtain⟨i1,i2,i3,i4,i5,i6,nd,off,ndl,left⟩:=hI;obtain⟨hnm,hpl,hsn⟩:=hc;have hg:=Cg hnm.1
 obtain⟨nb,⟨nl,nits⟩,enl⟩:=Dm (l:=f.nlv) (by rw [i6.length,hf.l2];exact Nat.succ_pos _)
 obtain⟨db,⟨dl,its⟩,edl⟩:=Dm (l:=f.dlv) (by rw [i5.length,hf.l1];exact hf.l4)
 obtain⟨cn,hnl⟩:=i4 (nl,nits) (by rw [enl];exact Mr _ (.head _))
 obtain⟨cd,hdl⟩:=i3 (dl,its) (by rw [edl];exact Mr _ (.head _))
 rw [enl] at i6 ndl;rw [edl] at i5 ndl;obtain⟨r0,t0,ens,j1,j2⟩:=All2.unsnoc i6;obtain⟨r1,t1,eds,k1,k2⟩:=All2.unsnoc i5
 have hmr:∀ q∈f.rest,q∈f.own w x++tabs:=fun q hq=>Ml _ (Mr _ hq)
 have htup:∀ a o,(a,Ad o)∈f.rest→a≠nl∧a≠dl:=fun a o hm=>⟨Dr (H.own _ (hmr _ hm)).1 (H.own _ (hmr _ hnl)).1,Dr (H.own _ (hmr _ hm)).1 (H.own _ (hmr _ hdl)).1⟩
 obtain⟨filt,hin,hout⟩:=Vm nl dl f.rest;obtain⟨hdn,hbd,hbn,ndl2⟩:=nd_two ndl
 have up8:∀ q∈[(x,instObj 150 f.dx),(f.dx,dictOf (wd f.hsh f.tkn (.bool false) (.bool false) .none f.ev (.bool false) .none .none .none f.wr f.da f.de f.ns f.pm f.pr w.seen w.done 0) f.ep),(f.da,listOf (strValues f.ds).toArray f.n1),(f.out,listOf (strValues f.ol).toArray f.n2),(f.wr,Ai f.out),(f.de,listOf ((db++[(dl,its)]).map fun p=>Value.ref p.1).toArray f.nde),(dl,listOf its cd),(f.ns,listOf ((nb++[(nl,nits)]).map fun p=>Value.ref p.1).toArray f.nns),(nl,listOf nits cn),(f.pr,listOf (b.map Value.bool++[Value.bool pv]).toArray f.npr)],q∈f.base w x++[(dl,listOf its cd),(nl,listOf nits cn)]:=by
  rw [← edl,← enl,← epm];exact shuf10
 have h1:∀ q∈[(x,instObj 150 f.dx),(f.dx,dictOf (wd f.hsh f.tkn (.bool false) (.bool false) .none f.ev (.bool false) .none .none .none f.wr f.da f.de f.ns f.pm f.pr w.seen w.done 0) f.ep),(f.da,listOf (strValues f.ds).toArray f.n1),(f.out,listOf (strValues f.ol).toArray f.n2),(f.wr,Ai f.out),(f.de,listOf ((db++[(dl,its)]).map fun p=>Value.ref p.1).toArray f.nde),(dl,listOf its cd),(f.ns,listOf ((nb++[(nl,nits)]).map fun p=>Value.ref p.1).toArray f.nns),(nl,listOf nits cn),(f.pr,listOf (b.map Value.bool++[Value.bool pv]).toArray f.npr)],q∈f.own w x++tabs:=fun q hq=>by
  rcases List.mem_append.mp (up8 q hq) with z | z
  ·exact Ml _ (Ml _ z)
  ·rcases List.mem_cons.mp z with z | z
   ·rw [z];exact hmr _ hdl
   ·rw [List.mem_singleton.mp z];exact hmr _ hnl
 have h2:∀ q∈filt++tabs,q∈f.own w x++tabs:=fun q hq=>by
  rcases List.mem_append.mp hq with z | z
  ·exact hmr q (hout q z).1
  ·exact Mr _ z
 have hor:∀ r∈filt++tabs,r.1∉f.eight x∧r.1≠nl∧r.1≠dl:=fun r hr=>by
  rcases List.mem_append.mp hr with z | z
  ·exact⟨off r (hout r z).1,(hout r z).2⟩
  ·exact⟨(hT r z).1,(hT r z).2 _ hnl,(hT r z).2 _ hdl⟩
 have h3:∀ q∈filt++tabs,q.1∉([(x,instObj 150 f.dx),(f.dx,dictOf (wd f.hsh f.tkn (.bool false) (.bool false) .none f.ev (.bool false) .none .none .none f.wr f.da f.de f.ns f.pm f.pr w.seen w.done 0) f.ep),(f.da,listOf (strValues f.ds).toArray f.n1),(f.out,listOf (strValues f.ol).toArray f.n2),(f.wr,Ai f.out),(f.de,listOf ((db++[(dl,its)]).map fun p=>Value.ref p.1).toArray f.nde),(dl,listOf its cd),(f.ns,listOf ((nb++[(nl,nits)]).map fun p=>Value.ref p.1).toArray f.nns),(nl,listOf nits cn),(f.pr,listOf (b.map Value.bool++[Value.bool pv]).toArray f.npr)]:List (Addr × Obj)).map (·.1):=fun q hq z=>by
  obtain⟨r,hr,e⟩:=List.mem_map.mp z;obtain⟨v1,v2,v3⟩:=hor q hq
  rcases List.mem_append.mp (up8 r hr) with u | u
  ·exact v1 (e ▸ List.mem_map_of_mem (f:=(·.1)) (l:=f.base w x) u)
  ·rcases List.mem_cons.mp u with u | u
   ·rw [u] at e;exact v3 e.symm
   ·rw [List.mem_singleton.mp u] at e;exact v2 e.symm
 have f1:=hf.f1;have f2:=hf.f2;have z5:=Cs i5;have z6:=Cs i6;have l3:=hf.l3;have l1:=i5.length;have l2:=i6.length;rw [hf.l1,List.length_append,List.length_singleton] at l1;rw [hf.l2,List.length_append,List.length_singleton] at l2
 have l0:w.pre.length=b.length+1:=by rw [epv];exact List.length_append
 refine Rt [(x,instObj 150 f.dx),(f.dx,dictOf (wd f.hsh f.tkn (.bool false) (.bool false) .none f.ev (.bool false) .none .none .none f.wr f.da f.de f.ns f.pm f.pr w.seen w.done 0) f.ep),(f.da,listOf (strValues f.ds).toArray f.n1),(f.out,listOf (strValues f.ol).toArray f.n2),(f.wr,Ai f.out),(f.de,listOf ((db++[(dl,its)]).map fun p=>Value.ref p.1).toArray f.nde),(dl,listOf its cd),(f.ns,listOf ((nb++[(nl,nits)]).map fun p=>Value.ref p.1).toArray f.nns),(nl,listOf nits cn),(f.pr,listOf (b.map Value.bool++[Value.bool pv]).toArray f.npr)] (filt++tabs) H h1 h2 h3 fun g₂ H₂ K₂ r₂ back=>?_
 rw [hsn] at H₂
 have hrf:∀ q∈filt,g₂.get? q.1=some q.2:=fun q hq=>r₂ q (Ml _ hq)
 have mono:∀ {v:Value} {q:Pr},Ak f.rest v q→Ak filt v q:=fun⟨a',y1,y2,e,hm⟩=>⟨a',y1,y2,e,hin _ hm (htup _ _ hm).1 (htup _ _ hm).2⟩
 refine Vh (dlv:=db) (nlv:=nb) (dps:=flat w.decl) (nps:=flat w.nss) (uri:=(cutName d).1) (tag:=(cutName d).2) (X.keeps K₂) (T.keeps K₂) H₂ hh (Nat.lt_trans zq (by decide)) y1 y2 y3 y4 ?a1 ?a2 ?a3 (by exact(Nt fun hn1=>fk [_,_] (.c 4 V0 (.k 100) (.e V1 (.a (.m 4 V0) K1) (.e (.k 3000) V1 K0))) rfl hn f1 hn1)) (fun q hq=>⟨Nat.le_trans (hf.g1 q hq).1 (by decide),(hf.g1 q hq).2.1⟩) ?a4 ?a5 (fun q hq=>⟨Nat.le_trans (hf.g2 q hq).1 (by decide),(hf.g2 q hq).2.1⟩) ?a6 ?a7 (by exact(Nl fun hn1=>fk [_] (.e V0 (.k 400) (.e (.s (.k 5000)) V0 K0)) rfl y5 hn1)) hg.2.1 ⟨hg.2.2.1,hg.2.2.2⟩ hg.1 (Gy hnm.2) (by exact(Nl fun hn1=>fk [_,_,_] (.e V0 (.k 100) (.e V1 (.s V0) (.e (.s V2) V1 (.e (.s (.k 1000)) V2 K0)))) rfl hn l3 (El l1) hn1)) (by exact(Nl fun hn1=>fk [_,_,_] (.e V0 (.k 100) (.e V1 (.s V0) (.e (.s V2) (.s V1) (.e (.s (.k 1000)) V2 K0)))) rfl hn l3 (El l2) hn1)) (by rw [List.length_map];exact(Nl fun hn1=>fk [_,_,_] (.e V0 (.k 100) (.e V1 (.s V0) (.e (.s V2) V1 (.e (.s (.k 1000)) V2 K0)))) rfl hn l3 (Es l0) hn1)) (nd10_of hI0.nd (off _ hdl) (off _ hnl) hdn) fun s' n3 n4 ol3 txt o rd2 hqn hrd e3 H'=>?z3
 case a1 =>
  intro q hq
  obtain⟨k,hk⟩:=i3 q (by rw [edl];exact Ml _ hq)
  exact⟨_,hrf _ (hin _ hk (hbd q hq).2 (hbd q hq).1),rfl,_,rfl⟩
 case a2=>intro q hq;have:=z5 q hq;lia
 case a3=>exact(Cq i5).mono fun _ _ z=>Bx hrf (mono z)
 case a4 =>
  intro q hq
  obtain⟨k,hk⟩:=i4 q (by rw [enl];exact Ml _ hq)
  have:=z6 q (Ml _ hq)
  exact⟨⟨_,hrf _ (hin _ hk (hbn q hq).2 (hbn q hq).1),rfl,_,rfl⟩,by lia⟩
 case a5=>exact(Cq i6).mono fun _ _ z=>Bx hrf (mono z)
 case a6=>have:=z6 (nl,nits) (by simp);simp only at this;lia
 case a7=>have:=z5 (dl,its) (by simp);simp only at this;rw [sizeLine_eq];exact(Nl fun hn1=>fk [_,_,_] (.c 4 V0 (.k 100) (.e V1 (.a (.m 4 V0) K1) (.e V2 V1 (.e (.s (.k 16777216)) V2 K0)))) rfl hn f1 this hn1)
 case z3 =>
  have N':=back _ _ H';have e1:(w.tell (.stop d)).seen=true:=hsn
  have e2:(w.tell (.stop d)).done=rd2:=by
   show decide (w.pre.length=2)=rd2
   rw [hrd,List.length_map,l0]
   exact decide_eq_decide.mpr ⟨fun e=>Nat.succ.inj e,fun e=>congrArg Nat.succ e⟩
  have e3':(w.tell (.stop d)).pre.map Value.bool=b.map Value.bool:=by show w.pre.dropLast.map Value.bool=_;rw [epv,List.dropLast_concat]
  refine h { f with ds:=[],n1:=n3,ol:=ol3,n2:=n4,dlv:=db,nde:=f.nde+1,nlv:=nb,nns:=f.nns+1,npr:=f.npr+1,rest:=filt } s' rfl ⟨rfl,?_,?_,?_,?_,?_,nd,?_,ndl2,left.mono fun q hq _ h2=>hin _ hq (Dl h2 (H.own _ (hmr _ hq)).1 (H.own _ (hmr _ hnl)).1) (Dl h2 (H.own _ (hmr _ hq)).1 (H.own _ (hmr _ hdl)).1)⟩ ?_ ?_
  ·show ol3.map (·.1)=w.out++(w.core.flush w.data++["</"++w.core.endText d++">"])
   have ht:w.core.endText d=txt:=by
    unfold KS.endText;rw [show qn (flat w.core.decl) (flat w.core.nss) (cutName d).1 (cutName d).2=some (txt,o) from hqn]
   rw [e3,i2,i1,ht];unfold KS.flush;rw [show w.core.seen=true from hsn]
  ·intro q hq
   obtain⟨k,hk⟩:=i3 q (by rw [edl];exact Ml _ hq)
   exact⟨k,hin _ hk (hbd q hq).2 (hbd q hq).1⟩
  ·intro q hq
   obtain⟨k,hk⟩:=i4 q (by rw [enl];exact Ml _ hq)
   exact⟨k,hin _ hk (hbn q hq).2 (hbn q hq).1⟩
  ·show All2 _ db w.decl.dropLast
   rw [eds,List.dropLast_concat]
   exact k1.mono fun _ _ z=>z.mono fun _ _=>mono
  ·show All2 _ nb w.nss.dropLast
   rw [ens,List.dropLast_concat]
   exact j1.mono fun _ _ z=>z.mono fun _ _=>mono
  ·exact fun r hr=>off r (hout r hr).1
  ·exact fun r hr=>⟨(hT r hr).1,fun q hq=>(hT r hr).2 q (hout q hq).1⟩
  ·show Ok g os (([(x,instObj 150 f.dx),(f.dx,dictOf (wd f.hsh f.tkn (.bool false) (.bool false) .none f.ev (.bool false) .none .none .none f.wr f.da f.de f.ns f.pm f.pr (w.tell (.stop d)).seen (w.tell (.stop d)).done 0) f.ep),(f.da,listOf #[] n3),(f.out,listOf (strValues ol3).toArray n4),(f.wr,Ai f.out),(f.de,listOf (db.map fun p=>.ref p.1).toArray (f.nde+1)),(f.ns,listOf (nb.map fun p=>.ref p.1).toArray (f.nns+1)),(f.pr,listOf ((w.tell (.stop d)).pre.map .bool).toArray (f.npr+1))]++filt)++tabs) s'
   rw [e1,e2,e3'];exact N'
end
section

theorem Wv{α:Type}{a b c d e f g h dl nl:α}{p t:List α}:∀ q∈dl::nl::(p++t),q∈[a,b,c,d,e,f,dl,g,nl,h]++(p++t):=Fc (.tail _ (.tail _ (.tail _ (.tail _ (.tail _ (.tail _ (.head _))))))) (Fc (.tail _ (.tail _ (.tail _ (.tail _ (.tail _ (.tail _ (.tail _ (.tail _ (.head _))))))))) (fun _ h=>.tail _ (.tail _ (.tail _ (.tail _ (.tail _ (.tail _ (.tail _ (.tail _ (.tail _ (.tail _ (h))))))))))))
theorem Ww{α:Type}{P:α→Prop}{a b c d e f g h dl nl:α}{pf prs r t:List α}(hp:∀ r∈pf,r∈prs∧P r):∀ q∈([a,b,c,d,e,f,g,h]++(dl::nl::(pf++r)))++t,q∈([a,b,c,d,e,f,dl,g,nl,h]++(prs++t))++r:=Fp (Fp (Fc (.head _) (Fc (.tail _ (.head _)) (Fc (.tail _ (.tail _ (.head _))) (Fc (.tail _ (.tail _ (.tail _ (.head _)))) (Fc (.tail _ (.tail _ (.tail _ (.tail _ (.head _))))) (Fc (.tail _ (.tail _ (.tail _ (.tail _ (.tail _ (.head _)))))) (Fc (.tail _ (.tail _ (.tail _ (.tail _ (.tail _ (.tail _ (.tail _ (.head _)))))))) (Fc (.tail _ (.tail _ (.tail _ (.tail _ (.tail _ (.tail _ (.tail _ (.tail _ (.tail _ (.head _)))))))))) (List.forall_mem_nil _))))))))) (Fc (.tail _ (.tail _ (.tail _ (.tail _ (.tail _ (.tail _ (.head _))))))) (Fc (.tail _ (.tail _ (.tail _ (.tail _ (.tail _ (.tail _ (.tail _ (.tail _ (.head _))))))))) (Fp (fun _ h=>.tail _ (.tail _ (.tail _ (.tail _ (.tail _ (.tail _ (.tail _ (.tail _ (.tail _ (.tail _ (show _∈(prs++t)++r from Ml _ (Ml _ (hp _ h).1)))))))))))) (fun _ h=>.tail _ (.tail _ (.tail _ (.tail _ (.tail _ (.tail _ (.tail _ (.tail _ (.tail _ (.tail _ (show _∈(prs++t)++r from Mr _ h))))))))))))))) (fun _ h=>.tail _ (.tail _ (.tail _ (.tail _ (.tail _ (.tail _ (.tail _ (.tail _ (.tail _ (.tail _ (show _∈(prs++t)++r from Ml _ (Mr _ h))))))))))))
noncomputable def Np:Value→Bool
 | .none=>false
 | _=>true
theorem Vv{v:Value}{tag:Str}(h:v=.none∨Dh tag=false):(Dh tag && Np v)=false:=by
 rcases h with rfl | h
 ·exact Bool.and_false _
 ·rw [h];rfl
theorem Hi.leaves{W:World}{r:List (Addr × Obj)}{ev:Value}{g:Heap}(h:Hi W r ev)(hg:∀ p∈r,g.get? p.1=some p.2):Qs rw_dn0283_03.row.prog W g ev (fun y=>Dh y && Np ev):=by
 rcases h with rfl | ⟨sx,o,c,rfl,h2,h3⟩
 ·exact .inl ⟨rfl,fun y=>Bool.and_false _⟩
 ·refine .inr ⟨sx,c,rfl,?_⟩
  rw [show (fun y=>Dh y && Np (.ref sx))=Dh from funext fun y=>Bool.and_true _]
  exact h3.at (hg _ h2)
noncomputable def Jt(W:World)(A:Around)(s:Shared)(g:Heap)(os:OsState)(p:Program)(zw:List Str)(zr:ExcName→Option Value)(mg mb:Str→Option Value)(R:Result→Shared→Prop)(x:Addr)(tabs:List (Addr × Obj))(n:Nat)(tag:Str)(tt:Tok)(at_:Addr)(na:Nat)(l:List ((Str × Tok) × (Str × Tok)))(w:WS)(f:FD):Prop :=
 ∀ (X:(hd03.heap_39 W.params).In g) (T:Top p zw zr mg mb g) (hh:A.handled=none) (zq:A.depth<600) (H:Ok g os (f.own w x++tabs) s) (hI:f.Is W w x) (hT:f.Off x tabs) (hf:Fit n w) (hn:n≤100) (hc:Cz w (.start tag (l.map fun p=>(p.1.1,p.2.1)))) (hat:g.get? at_=some (dictOf (Bb W.params l) na)) (hsys:(at_ == sysModules)=false) (hgo:f.ev=.none∨Dh tag=false) (hu:A.units<8000) (C116:CodeHd g 125 123) (hLT:Ds 123 ⟨139,71,139,96⟩ "C14NWriterTarget._start.<locals>.<lambda>" tabs) (h:∀ (f':FD) (s':Shared) (zt:List (Addr × Obj)),Ds 123 ⟨139,71,139,96⟩ "C14NWriterTarget._start.<locals>.<lambda>" zt→f'.key=f.key→f'.Is W (w.tell (.start tag (l.map fun p=>(p.1.1,p.2.1)))) x→f'.Off x zt→Ok g os (f'.own (w.tell (.start tag (l.map fun p=>(p.1.1,p.2.1)))) x++zt) s'→R (.ok (.ret .none)) s'),codeAny (model rw_dn0283_03.row.prog W) A (.call (.ref 120) ⟨[.ref x,.str tag tt,.ref at_],[]⟩) R s
theorem Vg:∀ {a b c d e f g h i j k l m n o p q r s t u},Jt a b c d e f g h i j k l m n o p q r s t u:=by
 refine @(Aa (Al neW)<|@(Aa neI<|@(Ef neI<|@(Bg neWS<|@(Bg Nx<|let_mvar% ?n:=(fun W A s g os p zw zr mg mb R x tabs n tag tt at_ na l w f=>?_:∀ a b c d e f g h i j k l m n o p q r s t u,Jt a b c d e f g h i j k l m n o p q r s t u);?n _ _ _ _ _ _ _ _ _ _ _ _ _ _ _ _ _ _ _ _ _)))))
 intro X T hh zq H hI hT hf hn hc hat hsys hgo hu C116 hLT h;obtain⟨y1,y2,y3,y4,y5⟩:=hI.bounds hf hn
 have hzz2:=hf.lastOf;revert hzz2;refine Hm ?_;with_reducible refine let_mvar% ?zz1:=(fun b pv=>?_:Fa2 _);Ah neI (Ar:Tie _ (type_of% ?zz1)) (?zz1 _ _);rintro⟨epv,hlast,epm⟩
 obtain⟨i1,i2,i3,i4,i5,i6,nd,off,ndl,left⟩:=hI;obtain⟨c1,c2,c3,c4⟩:=hc
 have emm:((l.map fun p=>(p.1.1,p.2.1)).map (·.1))=l.map (·.1.1):=List.map_map
 rw [emm] at c1 c3;rw [List.length_map] at c2
 have h1:∀ q∈([(x,instObj 150 f.dx),(f.dx,dictOf (wd f.hsh f.tkn (.bool false) (.bool false) .none f.ev (.bool false) .none .none .none f.wr f.da f.de f.ns f.pm f.pr w.seen w.done 0) f.ep),(f.da,listOf (strValues f.ds).toArray f.n1),(f.out,listOf (strValues f.ol).toArray f.n2),(f.wr,Ai f.out),(f.de,listOf (f.dlv.map fun p=>Value.ref p.1).toArray f.nde),(f.ns,listOf (f.nlv.map fun p=>Value.ref p.1).toArray f.nns),(f.pr,listOf (b.map Value.bool++[Value.bool pv]).toArray f.npr)]++tabs),q∈f.own w x++tabs:=by
  rw [← epm];intro q hq
  rcases List.mem_append.mp hq with hq | hq
  ·exact Ml _ (Ml _ hq)
  ·exact Mr _ hq
 have h2:∀ q∈f.rest,q∈f.own w x++tabs:=fun q hq=>Ml _ (Mr _ hq)
 have h3:∀ q∈f.rest,q.1∉(([(x,instObj 150 f.dx),(f.dx,dictOf (wd f.hsh f.tkn (.bool false) (.bool false) .none f.ev (.bool false) .none .none .none f.wr f.da f.de f.ns f.pm f.pr w.seen w.done 0) f.ep),(f.da,listOf (strValues f.ds).toArray f.n1),(f.out,listOf (strValues f.ol).toArray f.n2),(f.wr,Ai f.out),(f.de,listOf (f.dlv.map fun p=>Value.ref p.1).toArray f.nde),(f.ns,listOf (f.nlv.map fun p=>Value.ref p.1).toArray f.nns),(f.pr,listOf (b.map Value.bool++[Value.bool pv]).toArray f.npr)]++tabs)).map (·.1):=by
  intro q hq z;rw [List.map_append] at z
  rcases List.mem_append.mp z with z | z
  ·exact off q hq z
  ·obtain⟨r,hr,e⟩:=List.mem_map.mp z
   exact(hT r hr).2 q hq e
 have f1:=hf.f1;have f2:=hf.f2;have z5:=Cs i5;have z6:=Cs i6;have l3:=hf.l3;have l1:=i5.length;have l2:=i6.length;rw [hf.l1] at l1;rw [hf.l2] at l2
 have l0:w.pre.length=b.length+1:=by rw [epv];exact List.length_append
 refine Rt ([(x,instObj 150 f.dx),(f.dx,dictOf (wd f.hsh f.tkn (.bool false) (.bool false) .none f.ev (.bool false) .none .none .none f.wr f.da f.de f.ns f.pm f.pr w.seen w.done 0) f.ep),(f.da,listOf (strValues f.ds).toArray f.n1),(f.out,listOf (strValues f.ol).toArray f.n2),(f.wr,Ai f.out),(f.de,listOf (f.dlv.map fun p=>Value.ref p.1).toArray f.nde),(f.ns,listOf (f.nlv.map fun p=>Value.ref p.1).toArray f.nns),(f.pr,listOf (b.map Value.bool++[Value.bool pv]).toArray f.npr)]++tabs) f.rest H h1 h2 h3 ?_;with_reducible refine let_mvar% ?zz2:=(fun g₂=>?_:Fa _);Aw neI (tie:Tie _ (type_of% ?zz2)) (?zz2 _);intro H₂ K₂ r₂ back
 refine Sd (S:=fun y=>Dh y && Np f.ev) (dlv:=f.dlv) (nlv:=f.nlv) (lower:=flat w.decl) (nps:=flat w.nss) (l:=l) (na:=na) (tabs:=tabs) (X.keeps K₂) (T.keeps K₂) H₂ hh (Nat.lt_trans zq (by decide)) ?cc y1 y2 y3 y4 hu hLT (K₂ _ _ hat) c2 hsys c1 c3 ?vl ?a1 ?a2 ?a3 (by exact(Nt fun hn1=>fk [_,_] (.c 4 V0 (.k 100) (.e V1 (.a (.m 4 V0) K1) (.e (.k 2900) V1 K0))) rfl hn f1 hn1)) (fun q hq=>⟨Nat.le_trans (hf.g1 q hq).1 (by decide),(hf.g1 q hq).2.1⟩) ?a4 ?a5 hf.g2 (by exact(Nl fun hn1=>fk [_] (.e V0 (.k 400) (.e (.s (.k 4000)) V0 K0)) rfl y5 hn1)) (by exact(Nl fun hn1=>fk [_,_,_] (.e V0 (.k 100) (.e V1 (.s V0) (.e V2 V1 (.e (.s (.k 1000)) V2 K0)))) rfl hn l3 (El l1) hn1)) (by exact(Nl fun hn1=>fk [_,_,_] (.e V0 (.k 100) (.e V1 (.s V0) (.e V2 (.s V1) (.e (.s (.k 1000)) V2 K0)))) rfl hn l3 (El l2) hn1)) (by rw [List.length_map];exact(Nl fun hn1=>fk [_,_,_] (.e V0 (.k 100) (.e V1 (.s V0) (.e (.s V2) V1 (.e (.s (.k 1000)) V2 K0)))) rfl hn l3 (Es l0) hn1)) (fun q hq=>(hT q hq).1) nd ?lv1 ?lv2 fun s' n2 n3 n4 n5 n6 nl dl ol2 itsd ndd prs zt e7 hits hT' hoff hnl hdl hne H'=>?z3
 case lv1=>exact left.leaves r₂
 case lv2=>exact Vv hgo
 case cc =>
  obtain⟨o,vs,file,tf,fl,tg,inF,text,tt',y1,y2⟩:=C116;exact⟨o,vs,file,tf,fl,tg,inF,text,tt',K₂ _ _ y1,y2⟩
 case vl=>exact fun q hq=>c4 (q.1.1,q.2.1) (List.mem_map_of_mem (f:=fun p:(Str × Tok) × (Str × Tok)=>(p.1.1,p.2.1)) hq)
 case a1 =>
  intro q hq;obtain⟨k,hk⟩:=i3 q hq;exact⟨_,r₂ _ hk,rfl,_,rfl⟩
 case a2=>intro q hq;have:=z5 q hq;lia
 case a3=>exact(Cq i5).mono fun _ _ z=>Bx r₂ z
 case a4 =>
  intro q hq;obtain⟨k,hk⟩:=i4 q hq;have:=z6 q hq
  exact⟨⟨_,r₂ _ hk,rfl,_,rfl⟩,by lia⟩
 case a5=>exact(Cq i6).mono fun _ _ z=>Bx r₂ z
 case z3 =>
  have hfr:∀ a o,(a,o)∈(dl,listOf itsd ndd)::(nl,listOf #[] 0)::(prs++zt)→∀ r∈f.rest,a≠r.1:=fun a o ha r hr=>Gl H' r₂ (o:=o) (Wv _ ha) (show (r.1,r.2)∈_ from hr)
  have N':=back _ _ H'
  obtain⟨pf,hpf⟩:∃ l,l=prs.filter (fun r=>decide (r.1∉zt.map (·.1))):=⟨_,rfl⟩
  have hpin:∀ r∈pf,r∈prs∧∀ t∈zt,t.1≠r.1:=fun r hr=>by
   rw [hpf] at hr;have:=List.mem_filter.mp hr
   exact⟨this.1,fun t ht e=>(of_decide_eq_true this.2) (e ▸ List.mem_map_of_mem (f:=(·.1)) ht)⟩
  have hfld:∀ t∈zt,∃ vs,t.2.data=.fields vs:=fun t ht=>by
   rcases hT' with rfl | ⟨c',oc,vs,t',rfl,y1,_⟩
   ·rw [List.mem_singleton.mp ht];exact⟨_,rfl⟩
   ·rcases List.mem_cons.mp ht with rfl | ht
    ·exact⟨_,rfl⟩
    ·rw [List.mem_singleton.mp ht];exact⟨_,y1⟩
  have mono2:∀ {v:Value} {q:Pr},Ak prs v q→Ak pf v q:=fun⟨a',y1,y2,e,hm⟩=>⟨a',y1,y2,e,by
   rw [hpf]
   refine List.mem_filter.mpr ⟨hm,decide_eq_true fun hz=>?_⟩
   obtain⟨t,ht,e1⟩:=List.mem_map.mp hz;have g1:=(N'.own _ (Ml _ (Mr _ (Ml _ hm)))).1;have g2:=(N'.own t (Ml _ (Mr _ (Mr _ ht)))).1;rw [e1,g1] at g2;obtain⟨vs,y⟩:=hfld t ht;rw [← Option.some.inj g2] at y
   cases y⟩
  have mono:∀ {v:Value} {q:Pr},Ak f.rest v q→Ak ((dl,listOf itsd ndd)::(nl,listOf #[] 0)::(pf++f.rest)) v q:=fun⟨a',y1,y2,e,hm⟩=>⟨a',y1,y2,e,.tail _ (.tail _ (Mr _ hm))⟩
  refine h { f with ds:=[],n1:=n2,ol:=ol2,n2:=n3,dlv:=f.dlv++[(dl,itsd)],nde:=n6,nlv:=f.nlv++[(nl,#[])],nns:=n4,npr:=n5,rest:=(dl,listOf itsd ndd)::(nl,listOf #[] 0)::(pf++f.rest) } s' zt hT' rfl ⟨rfl,?_,?_,?_,?_,?_,nd,?_,?_,left.mono fun q hq _ _=>.tail _ (.tail _ (Mr _ hq))⟩ ?_ ?_
  ·show ol2.map (·.1)=w.out++(w.core.flush w.data++Bm (w.core.names tag (l.map fun p=>(p.1.1,p.2.1))).1 (w.core.names tag (l.map fun p=>(p.1.1,p.2.1))).2 tag (l.map fun p=>(p.1.1,p.2.1)))
   rw [e7,i2,i1];unfold KS.names;rw [emm];rfl
  ·intro q hq
   rcases List.mem_append.mp hq with hq | hq
   ·obtain⟨k,hk⟩:=i3 q hq
    exact⟨k,.tail _ (.tail _ (Mr _ hk))⟩
   ·rw [List.mem_singleton.mp hq];exact⟨ndd,.head _⟩
  ·intro q hq
   rcases List.mem_append.mp hq with hq | hq
   ·obtain⟨k,hk⟩:=i4 q hq
    exact⟨k,.tail _ (.tail _ (Mr _ hk))⟩
   ·rw [List.mem_singleton.mp hq];exact⟨0,.tail _ (.head _)⟩
  ·show All2 _ (f.dlv++[(dl,itsd)]) (w.decl++[(w.core.names tag (l.map fun p=>(p.1.1,p.2.1))).1])
   refine(i5.mono fun _ _ z=>z.mono fun _ _=>mono).snoc ?_
   unfold KS.names;rw [emm]
   exact hits.mono fun _ _ z=>(mono2 z).mono fun _ hq=>.tail _ (.tail _ (Ml _ hq))
  ·show All2 _ (f.nlv++[(nl,#[])]) (w.nss++[[]])
   exact(i6.mono fun _ _ z=>z.mono fun _ _=>mono).snoc .nil
  ·intro r hr
   rcases List.mem_cons.mp hr with rfl | hr
   ·exact hdl
   rcases List.mem_cons.mp hr with rfl | hr
   ·exact hnl
   rcases List.mem_append.mp hr with hr | hr
   ·exact(hoff r (Ml _ (hpin r hr).1)).1
   ·exact off r hr
  ·show ((f.dlv++[(dl,itsd)]).map (fun p:Addr × Array Value=>p.1)++(f.nlv++[(nl,(#[]:Array Value))]).map (fun p:Addr × Array Value=>p.1)).Nodup
   have hA:∀ a∈f.dlv.map (·.1),a≠dl∧a≠nl:=fun a ha=>by
    obtain⟨q,hq,rfl⟩:=List.mem_map.mp ha;obtain⟨k,hk⟩:=i3 q hq;exact⟨Ne.symm (hfr dl _ (.head _) _ hk),Ne.symm (hfr nl _ (.tail _ (.head _)) _ hk)⟩
   have hB:∀ a∈f.nlv.map (·.1),a≠dl∧a≠nl:=fun a ha=>by
    obtain⟨q,hq,rfl⟩:=List.mem_map.mp ha;obtain⟨k,hk⟩:=i4 q hq;exact⟨Ne.symm (hfr dl _ (.head _) _ hk),Ne.symm (hfr nl _ (.tail _ (.head _)) _ hk)⟩
   obtain⟨m1,m2,m3⟩:=List.nodup_append.mp ndl;rw [List.map_append,List.map_append]
   refine List.nodup_append.mpr ⟨List.nodup_append.mpr ⟨m1,by simp,fun a ha c hc=>by rw [List.mem_singleton.mp hc];exact(hA a ha).1⟩,List.nodup_append.mpr ⟨m2,by simp,fun a ha c hc=>by rw [List.mem_singleton.mp hc];exact(hB a ha).2⟩,fun a ha c hc=>?_⟩
   rcases List.mem_append.mp ha with ha | ha
   ·rcases List.mem_append.mp hc with hc | hc
    ·exact m3 a ha c hc
    ·rw [List.mem_singleton.mp hc];exact(hA a ha).2
   ·rw [List.mem_singleton.mp ha]
    rcases List.mem_append.mp hc with hc | hc
    ·exact Ne.symm (hB c hc).1
    ·rw [List.mem_singleton.mp hc];exact Ne.symm hne
  ·intro r hr
   refine⟨(hoff r (Mr _ hr)).1,fun q hq=>?_⟩
   rcases List.mem_cons.mp hq with rfl | hq
   ·exact(hoff r (Mr _ hr)).2.2
   rcases List.mem_cons.mp hq with rfl | hq
   ·exact(hoff r (Mr _ hr)).2.1
   rcases List.mem_append.mp hq with hq | hq
   ·exact(hpin q hq).2 r hr
   ·exact hfr r.1 r.2 (.tail _ (.tail _ (Mr _ hr))) q hq
  ·have epd:(w.tell (.start tag (l.map fun p=>(p.1.1,p.2.1)))).pre.map Value.bool=b.map Value.bool++[Value.bool pv,Value.bool (Be pv (l.map fun p=>(p.1.1,p.2.1)))]:=by
    show (w.pre++[Be w.core.last (l.map fun p=>(p.1.1,p.2.1))]).map Value.bool=_
    rw [hlast,List.map_append,epm,List.append_assoc];rfl
   have N9:=Ok.sub N' (Ww hpin)
   show Ok g os (([(x,instObj 150 f.dx),(f.dx,dictOf (wd f.hsh f.tkn (.bool false) (.bool false) .none f.ev (.bool false) .none .none .none f.wr f.da f.de f.ns f.pm f.pr true w.done 0) f.ep),(f.da,listOf #[] n2),(f.out,listOf (strValues ol2).toArray n3),(f.wr,Ai f.out),(f.de,listOf ((f.dlv++[(dl,itsd)]).map fun(p:Addr × Array Value)=>.ref p.1).toArray n6),(f.ns,listOf ((f.nlv++[(nl,(#[]:Array Value))]).map fun(p:Addr × Array Value)=>.ref p.1).toArray n4),(f.pr,listOf ((w.tell (.start tag (l.map fun p=>(p.1.1,p.2.1)))).pre.map .bool).toArray n5)]++((dl,listOf itsd ndd)::(nl,listOf #[] 0)::(pf++f.rest)))++zt) s'
   rw [epd];exact N9
end
theorem rs10:True∧True:=by
 (try walk1);(try w_top off)
 all_goals (first | trivial | exact ⟨trivial,trivial⟩)
section

local macro_rules | `(tactic| walk_at "call type:set nil nil")=>`(tactic| (k_dflt (refine kse_new (by k_asm) (by k_asm) ?_);with_reducible refine let_mvar% ?n:=(fun x y z=>?_:Fa3 _);Au neI (Cv:Tie _ (type_of% ?n)) (?n _ _ _);intro F' N' l1 hs' hz';(try k_lt l1)))
local macro_rules | `(tactic| walk_at "call builtin:str.rsplit")=>`(tactic| (refine Sx (by k_asm) (by k_asm) (by assumption) (by assumption) ?_;intro h' t1 t2 tk F' N';(try k_sweep)))
local macro_rules | `(tactic| walk_at "compareOp NotIn")=>`(tactic| ((with_reducible show wpAny _ _ (compareOp CmpOp.NotIn (.str _ _) (.ref _)) _ _ _);refine Mt (by k_asm) (by k_mem) (by assumption) ?_))
section
open PySem.Builtin PySem.Builtin.Str PySem.Builtin.Int
noncomputable def res(pf:Str):List Pr→Option Str
 | []=>none
 | q::r=>if q.2=pf then some q.1 else res pf r
noncomputable def cutL(x y a b:Str):Bool:=!(decide (x.length<y.length) || decide (Builtin.Str.strKind x<Builtin.Str.strKind y)) && !(y.length == 0) && !(occurrences x y 0 x.length 1).isEmpty && partsBetween x (occurrences x y 0 x.length 1) y.length == [a,b]
theorem Un{prog:Program}{w:World}{A:Around}{E:Value→Shared→Prop}{s:Shared}{h₀:Heap}{L:Addr}{m:Str→Option Value}{news:List (Addr × Obj)}{x y a b:Str}{t u k:Tok}{Q:Value→Shared→Prop}(hF:Fr h₀ L s.heap m)(N:News h₀ L s.heap news)(hc:cutL x y a b=true)(hsz:x.length≤sizeLine)
  (h:∀ h' t1 t2 tk,Fr h₀ L h' m→News h₀ L h' ((s.heap.objs.size,listOf #[.str a t1,.str b t2] 0)::news)→Q (.ref s.heap.objs.size) { s with heap:=h',toks:=tk }) :
  wpAny (model prog w) A (call (.builtin "str.split") [.str x t,.str y u,.int 1 k]) Q E s:=by
 unfold cutL at hc
 simp only [Bool.and_eq_true,Bool.not_eq_true',beq_iff_eq] at hc
 obtain⟨⟨⟨h1,h2⟩,h3⟩,h4⟩:=hc;obtain⟨raising,htree⟩:=La x y t u k;refine wpAny_call_entry F.slot_str_split (typeIs_str _ _ _) F.entry_str_split ?_ (F.args_str_split_3 _ _ _);rw [htree,h1,h2,h3,h4]
 show wpAny _ _ (do ret (← newList (← [a,b].mapM mkStr))) _ _ s
 have hab:∀ p∈[a,b],p.length≤sizeLine:=fun p hp=>by
  rw [← h4] at hp
  simp only [partsBetween,List.mem_map] at hp
  obtain⟨⟨i,j⟩,_,rfl⟩:=hp;exact Nat.le_trans (strSub_length_le ..) hsz
 refine Wb (wpAny_mapM_mkStr _ _ _ hab (Wb (wpAny_newList (Wp ⟨_,rfl,?_⟩) (by show 2≤sizeLine;decide))))
 exact h _ _ _ _ (Fr.pushS hF _) (News.push hF N _)
end
local macro_rules | `(tactic| walk_at "call builtin:str.split")=>`(tactic| (refine Un (by k_asm) (by k_asm) (by assumption) (by assumption) ?_;intro h' t1 t2 tk F' N';(try k_sweep)))
noncomputable def Gc(w:World)(A:Around)(s:Shared)(g:Heap)(os:OsState)(p:Program)(zw:List Str)(zr:ExcName→Option Value)(mg mb:Str→Option Value)(R:Result→Shared→Prop)(x dx:Addr)(hsh:Nat→Int)(tkn:Nat→Tok)(wr da de ns pm pr:Addr)(rs rd:Bool)(ig:Int)(ep:Nat)(t pf nm:Str)(tt:Tok)(nlv:List (Addr × Array Value))(nps:List Pr)(ev:Value)(base:Heap)(outer:List Env):Prop :=
 ∀ (X:(hd03.heap_39 w.params).In g) (T:Top p zw zr mg mb g) (H:Ok g os [(x,instObj 150 dx),(dx,dictOf (wd hsh tkn (.bool false) (.bool false) .none ev (.bool false) .none .none .none wr da de ns pm pr rs rd ig) ep)] s) (hNs:g.IsList ns (nlv.map fun p=>.ref p.1).toArray) (hNl:∀ p∈nlv,g.IsList p.1 p.2∧(p.2.size:Int)<2 ^ 63) (hNp:All2 (As g) (comes nlv) nps) (hNq:∀ q∈nps,q.1.length≤1000∧q.2.length≤1000) (hh:A.handled=none) (zq:A.depth<900) (hc:cutL t (Str.ofString ":") pf nm=true) (ht:t.length≤1000) (hpn:pf.length≤1000∧nm.length≤1000) (hS:∀ s' u txt tx,res pf nps=some u→txt=Str.ofString "{"++u++Str.ofString "}"++nm→Ok g os [(x,instObj 150 dx),(dx,dictOf (wd hsh tkn (.bool false) (.bool false) .none ev (.bool false) .none .none .none wr da de ns pm pr rs rd ig) ep)] s'→R (.ok (.ret (.str txt tx))) s') (hK:res pf nps=none→Below A base outer g) (hE:∀ (e t':Addr) (msg:Str) (tm:Tok) (s':Shared),res pf nps=none→msg=Str.ofString "Prefix "++pf++Str.ofString " of QName \""++t++Str.ofString "\" is not declared in scope"→RaisedS base g outer e (.type "ValueError") t' [.str msg tm] [(x,instObj 150 dx),(dx,dictOf (wd hsh tkn (.bool false) (.bool false) .none ev (.bool false) .none .none .none wr da de ns pm pr rs rd ig) ep)] s'.heap→g.UpToSlots s'.heap→s'.os=os→AllBare s'.gens→R (.error (.ref e)) s'),codeAny (model rw_dn0283_03.row.prog w) A (.call (.ref 82) ⟨[.ref x,.str t tt],[]⟩) R s
theorem Pz:∀ {w A s g os p zw zr mg mb R x dx hsh tkn wr da de ns pm pr rs rd ig ep t pf nm tt nlv nps ev base outer},Gc w A s g os p zw zr mg mb R x dx hsh tkn wr da de ns pm pr rs rd ig ep t pf nm tt nlv nps ev base outer:=by
 refine @(Aa (Al neW)<|@(Aa neI<|@(Aa neI<|@(Aa neI<|@(Ee neI<|let_mvar% ?n:=(fun w A s g os p zw zr mg mb R x dx hsh tkn wr da de ns pm pr rs rd ig ep t pf nm tt nlv nps ev base outer=>?_:∀ a b c d e f g h i j k l m n o p q r s t u v w x y z a1 b1 c1 d1 e1 f1 g1 h1,Gc a b c d e f g h i j k l m n o p q r s t u v w x y z a1 b1 c1 d1 e1 f1 g1 h1);?n _ _ _ _ _ _ _ _ _ _ _ _ _ _ _ _ _ _ _ _ _ _ _ _ _ _ _ _ _ _ _ _ _ _)))))
 intro X T H hNs hNl hNp hNq hh zq hc ht hpn hS hK hE
 have ht1:t.length≤sizeLine:=by rw [sizeLine_eq];exact Nat.le_trans ht (by decide)
 have hpn1:pf.length≤1000:=hpn.1;have hpn2:nm.length≤1000:=hpn.2;revert X
 k_fill
 intro X
 refine' Dy (binds:=[("self",.ref x),("prefixed_name",.str t tt)]) H X T ?k6 ?k7 (Nat.lt_trans zq (by decide)) ?k9 ?kB ?_ ?c1 ?c2 ?c3 ?c4
 (case k6=>k_is)
 (case k7=>k_is)
 (case k9=>first | exact BindsTo.of_eq rfl | exact binds_K (X.keeps H.keep) rfl (by k_is) rfl rfl rfl)
 (case kB=>exact locs rfl)
 (case c1=>exact rfl)
 (case c2=>exact rfl)
 (case c3=>exact rfl)
 (case c4=>decide)
 k_whole;walk_at "eps2";rename_i L' h1;intro F0 N1 l1;k_lt l1;(try dsimp only)
 have F1:Fr g L' h1 (fun y=>List.lookup y [("prefixed_name",.str t tt),("self",.ref x)]):=F0
 clear F0
 (try k_fold)
 -- the text is cut
 refine wpAny_execs_cons (Bz (R:=fun s'=>∃ h2 t1 t2 k,s'={ s with heap:=h2,toks:=k }∧Fr g L' h2 (fun y=>if y="name" then some (.str nm t2) else if y="prefix" then some (.str pf t1) else List.lookup y [("prefixed_name",.str t tt),("self",.ref x)]) ∧
   News g L' h2 [(x,instObj 150 dx),(dx,dictOf (wd hsh tkn (.bool false) (.bool false) .none ev (.bool false) .none .none .none wr da de ns pm pr rs rd ig) ep)]) ?_ ?_)
 ·k_steps
  rename Fr ..=>F2
  rename News ..=>N2
  refine Dx F2 N2 ⟨_,(N2 _ (List.Mem.head _)).1,rfl,_,rfl⟩ hh fun h3 tk3 F3 N3=>?_
  exact⟨trivial,h3,_,_,tk3,rfl,F3,News.sub N3 fun p hp=>List.Mem.tail _ hp⟩
 ·refine exs4 ?_;with_reducible refine let_mvar% ?zq2:=(fun s99 h2 t1 t2 k=>?_:Fa5 _);Ci Bc (Hf:Tie _ (type_of% ?zq2)) (?zq2 _ _ _ _ _);rintro⟨rfl,F2,N2⟩
  dsimp only
  repeat' (first
    | ((with_reducible show wpAny _ _ (exec (Stmt.For _ _ _ _ _) _) _ _ _);refine wpAny_For ?_)
    | ((with_reducible show wpAny _ _ (call (.ref 75) _) _ _ _);refine wpAny_call (Rj (lvs:=nlv) (binds:=[("self",.ref x),("ns_stack",.ref ns),("_reversed",.type "reversed")]) F2 N2 X T.nolimit H.os H.bare hh (by k_is) (by k_is) (Nat.lt_of_lt_of_le (Nat.succ_lt_succ zq) (by decide)) (binds_K (X.keeps F2.keep) rfl (by k_is) rfl rfl rfl) (locs rfl) rfl rfl (Ae F2.keep hNs) (fun z hz=>⟨Ae F2.keep (hNl z hz).1,(hNl z hz).2⟩) ?_ rfl rfl rfl rfl rfl rfl (by decide)))
    | walk_at "go")
  with_reducible refine let_mvar% ?zq4:=(fun s7 B7 ga7 gn7 oG7 priv7=>?_:Fa6 _);Gg Bc (tie6:Tie _ (type_of% ?zq4)) (?zq4 _ _ _ _ _ _);intro F7 N7 hG7 hos7 hb7 G7 hsB7 hlB7 hnB7 hLB7 hga7 hpB7
  dsimp only;refine wpAny_pyIter_gen (hG7.at (N7 _ (.head _)).1) ?_
  rw [So (a:="p") (b:="uri") (m0:=fun y=>if y="name" then some (.str nm t2) else if y="prefix" then some (.str pf t1) else List.lookup y [("prefixed_name",.str t tt),("self",.ref x)]) rfl rfl] at F7
  refine Nh (fun ps own=>own=[(x,instObj 150 dx),(dx,dictOf (wd hsh tkn (.bool false) (.bool false) .none ev (.bool false) .none .none .none wr da de ns pm pr rs rd ig) ep)]∧res pf nps=res pf ps∧∀ q∈ps,q.1.length≤1000∧q.2.length≤1000) hh (Nat.lt_of_lt_of_le (Nat.succ_lt_succ zq) (by decide)) T.nolimit hG7 hga7 hLB7 ?hstack ?hown ?step ?done ⟨rfl,rfl,hNq⟩ F7 N7 hNp G7 hos7 hb7 rfl rfl rfl
  case hstack =>
   rintro hp ps own hk Nk _
   exact⟨hsB7,Ae hk hNs,fun z hz=>⟨hlB7 z hz,Ae hk (hNl z hz).1,(hNl z hz).2⟩⟩
  case hown =>
   rintro ps own ⟨rfl,_⟩ z hz;exact .inl (hnB7 z hz)
  case step =>
   with_reducible refine let_mvar% ?zq10:=(fun s8 q8 ta tb ps8 own8 rest=>?_:Fa7 _);Ap Bc (Cm:Tie _ (type_of% ?zq10)) (?zq10 _ _ _ _ _ _ _);rintro⟨rfl,hfd,hlq8⟩ F8 N8 hrest hos8 hb8
   dsimp only [List.cons_append,List.nil_append] at N8
   cases hu:q8.2 == pf with
   | false =>
    have hfd':res pf nps=res pf ps8:=by rw [hfd,res,if_neg (fun z=>by rw [z] at hu;simp at hu)]
    repeat' (first
     | ((with_reducible show Exists _);exact⟨_,_,_,⟨rfl,hfd',fun z hz=>hlq8 z (.tail _ hz)⟩,F8,N8,hos8,rfl⟩)
     | walk_at "go")
   | true =>
    have hz1:q8.1.length≤1000:=(hlq8 q8 (.head _)).1
    have hre:res pf nps=some q8.1:=by rw [hfd,res,if_pos (beq_iff_eq.mp hu)]
    repeat' (first
     | walk_at "go")
    rename Fr ..=>F9
    rename News ..=>N9
    refine leaveM_ F9 (News.sub N9 (Fc (.head _) (Fc (.tail _ (.head _)) (List.forall_mem_nil _)))) hos8 hb8 fun H'=>hS _ _ _ _ hre ?_ H'
    rw [Str.empty_append]
  case done =>
   with_reducible refine let_mvar% ?zq11:=(fun s8 own8 p8 u8=>?_:Fa4 _);Ax Bc (Cy:Tie _ (type_of% ?zq11)) (?zq11 _ _ _ _);rintro⟨rfl,hfd,_⟩ F8 N8 hos8 hb8
   dsimp only;have hre:res pf nps=none:=hfd
   repeat' ((fail_if_success (with_reducible show wpAny _ _ (exec (Stmt.Raise _ _ _) _) _ _ _));walk_at "go")
   refine Raise_madeB PySem.F.excCall_ValueError PySem.F.excRaise_ValueError hh ?_
   have hs1:(Str.empty++Str.ofString "Prefix "++pf).length≤1100:=by rw [Str.empty_append,size_cat];have:(Str.ofString "Prefix ").length=7:=rfl;omega
   have hs2:(Str.empty++Str.ofString "Prefix "++pf++Str.ofString " of QName \"").length≤1200:=by rw [size_cat];have:(Str.ofString " of QName \"").length=11:=rfl;omega
   have hs3:(Str.empty++Str.ofString "Prefix "++pf++Str.ofString " of QName \""++t).length≤2200:=by rw [size_cat];omega
   have hs4:(Str.empty++Str.ofString "Prefix "++pf++Str.ofString " of QName \""++t++Str.ofString "\" is not declared in scope").length≤sizeLine:=by rw [size_cat];have:(Str.ofString "\" is not declared in scope").length=26:=rfl;rw [sizeLine_eq];omega
   iterate 3 walk_at "go"
   (all_goals try (exact rfl))
   repeat' ((fail_if_success (with_reducible show wpAny _ _ (joinParts _ (evalEach [] _)) _ _ _));walk_at "go")
   with_reducible refine joinParts_nilE ?_
   with_reducible refine joinParts_nil (hsz:=hs4) ?_
   iterate 1 walk_at "go"
   refine⟨by show 1≤sizeLine;rw [sizeLine_eq];decide,fun h9 e9 hx9=>?_⟩
   rename Fr ..=>F9
   rename News ..=>N9
   with_reducible refine leave_raiseS (hK hre) (Heap.MadeExc.of hx9) F9 N9 (fun h' t9 R9 _ U9=>?_) rfl
   exact hE _ _ _ _ _ hre (by rw [Str.empty_append]) R9 U9 hos8 hb8
end
section

noncomputable def Fw:List Pr:=[("http://www.w3.org/XML/1998/namespace","xml"),("http://www.w3.org/1999/xhtml","html"),("http://www.w3.org/1999/02/22-rdf-syntax-ns#","rdf"),("http://schemas.xmlsoap.org/wsdl/","wsdl"),("http://www.w3.org/2001/XMLSchema","xs"),("http://www.w3.org/2001/XMLSchema-instance","xsi"),("http://purl.org/dc/elements/1.1/","dc")]
noncomputable def xmlP:Pr:=("http://www.w3.org/XML/1998/namespace","xml")
noncomputable def Aq(p:Str):Str:=if p="p" then "u" else if p="b" then "u" else if p="q" then "v" else if p="c" then "v" else "w"
noncomputable def five:List Str:=["p","b","q","c","r"]
noncomputable def six:List Str:=["p","b","q","c","r","s"]
noncomputable def four:List Str:=["u","v","w","z"]
structure AskOk (kn:List Str) (dps nps:List Pr):Prop where
 five:∀ p∈kn,p∈five
 d:∀ q∈dps,q=xmlP∨(q.2∈kn∧q.1=Aq q.2)
 n:∀ q∈nps,q∈Fw∨(q.2∈kn∧q.1=Aq q.2)
 k:∀ p∈kn,(Aq p,p)∈nps
theorem Hq:∀ u∈four,∀ q∈Fw,q.1≠u:=by decide +kernel
theorem Nj:∀ u∈four,u≠Str.empty:=by decide +kernel
theorem Qe:∀ p∈six,∀ q∈Fw,q.2≠p:=by decide +kernel
theorem Fe:∀ p∈five,p∈six:=by decide +kernel
theorem Nf:∀ p∈five,p≠Str.empty:=by decide +kernel
theorem Nw:∀ p∈five,Aq p∈four:=by decide +kernel
theorem Qr:xmlP∈Fw:=by decide +kernel
theorem xml_six:xmlP.2∉five:=by decide +kernel
section
variable{kn:List Str}{dps nps la lo:List Pr}{uri tag txt p:Str}{o:Option Pr}
theorem Kt{G:Str→Prop}:∀ {l:List Pr} {seen s':List Str},(∀ q∈l,q.1=uri↔G q.2)→(∀ p∈seen,¬ G p)→scan uri l seen=(none,s')→∀ q∈l,q.1≠uri
 | [],_,_,_,_,_=>fun _ z=>nomatch z
 | q::r,seen,s',hf,hs,h=>by
  unfold scan at h
  split at h
  ·cases h
  ·rename_i c
   have h1:q.1≠uri:=fun e=>c ⟨e,fun m=>hs _ m ((hf q (.head _)).mp e)⟩
   have ih:=Kt (fun z hz=>hf z (.tail _ hz)) (seen:=q.2::seen) (fun p hp=>by
    rcases List.mem_cons.mp hp with rfl | hp
    ·exact fun g=>h1 ((hf q (.head _)).mpr g)
    ·exact hs p hp) h
   exact Fc h1 ih
theorem Mq:∀ {l r:List Pr} {seen:List Str},(∀ q∈l,q.1≠uri)→∃ seen',scan uri (l++r) seen=scan uri r seen'∧∀ p∈seen',p∈seen∨∃ q∈l,q.2=p
 | [],r,seen,_=>⟨seen,rfl,fun _ h=>.inl h⟩
 | q::l,r,seen,h=>by
  obtain⟨s',e,k⟩:=Mq (l:=l) (r:=r) (seen:=q.2::seen) fun z hz=>h z (.tail _ hz)
  refine⟨s',?_,fun p hp=>?_⟩
  ·rw [List.cons_append,scan,if_neg fun c=>h q (.head _) c.1];exact e
  ·rcases k p hp with z | ⟨z,hz,e⟩
   ·rcases List.mem_cons.mp z with rfl | z
    ·exact .inr ⟨q,.head _,rfl⟩
    ·exact .inl z
   ·exact .inr ⟨z,.tail _ hz,e⟩
theorem find_none:∀ {l:List Pr},find uri l=none→∀ q∈l,q.1≠uri
 | [],_=>fun _ z=>nomatch z
 | q::r,h=>by
  unfold find at h
  split at h
  ·cases h
  ·rename_i c
   exact Fc c (find_none h)
theorem AskOk.g(A:AskOk kn dps nps)(hu:uri∈four):∀ q∈dps,q.1=uri↔(q.2∈kn∧Aq q.2=uri):=fun q hq=>by
 rcases A.d q hq with rfl | ⟨h1,h2⟩
 ·exact⟨fun e=>absurd e (Hq _ hu _ Qr),fun e=>absurd (A.five _ e.1) xml_six⟩
 ·exact⟨fun e=>⟨h1,h2 ▸ e⟩,fun e=>h2.trans e.2⟩
theorem AskOk.pair(A:AskOk kn dps nps)(hu:uri∈four)(h:(uri,p)∈nps):p∈kn∧Aq p=uri:=by
 rcases A.n _ h with z | ⟨z1,z2⟩
 ·exact absurd rfl (Hq _ hu _ z)
 ·exact⟨z1,z2.symm⟩
theorem Nm{p tag:Str}(h:p≠Str.empty):full p tag=p++":"++tag:=by unfold full;rw [if_neg h]
theorem AskOk.some(A:AskOk kn dps nps)(hu:uri∈four)(h:qn dps nps uri tag=.some (txt,o)):∃ p∈kn,Aq p=uri∧txt=p++":"++tag∧(o=.none∨o=.some (uri,p)):=by
 have hne:=Nj _ hu;unfold qn at h
 split at h
 ·rename_i p' _ e
  injection h with h;injection h with h h2
  have hm:=Ku e;obtain⟨g1,g2⟩:=(A.g hu _ hm).mp rfl
  exact⟨p',g1,g2,by rw [← h,Nm (Nf _ (A.five _ g1))],.inl h2.symm⟩
 ·rw [if_neg fun z=>hne z.1] at h
  split at h
  ·rename_i p' e
   injection h with h;injection h with h h2
   obtain⟨g1,g2⟩:=A.pair hu (Fb e)
   exact⟨p',g1,g2,by rw [← h,Nm (Nf _ (A.five _ g1))],.inr h2.symm⟩
  ·rw [if_neg hne] at h;cases h
theorem AskOk.none(A:AskOk kn dps nps)(hu:uri∈four)(h:qn dps nps uri tag=.none):∀ p∈kn,Aq p≠uri:=fun p hp e=>by
 have hne:=Nj _ hu;unfold qn at h
 split at h
 ·cases h
 ·rw [if_neg fun z=>hne z.1] at h
  split at h
  ·cases h
  ·rename_i e2
   exact find_none e2 _ (A.k p hp) e
theorem AskOk.again(A:AskOk kn (la++lo) nps)(hu:uri∈four){q:Pr}(h:qn (la++lo) nps uri tag=.some (txt,.some q)):qn (la++[q]++lo) nps uri tag=.some (txt,.none):=by
 have hne:=Nj _ hu;obtain⟨p,hp,hm,ht,ho⟩:=A.some hu h
 rcases ho with z | z
 ·cases z
 injection z with z
 subst z;have h0:=h;unfold qn at h
 split at h
 ·injection h with h;injection h with h h2;cases h2
 ·rename_i s' e
  have hc:=Kt (G:=fun z=>z∈kn∧Aq z=uri) (A.g hu) (seen:=[]) (fun _ z=>absurd z List.not_mem_nil) e
  obtain⟨s2,e2,k2⟩:=Mq (uri:=uri) (l:=la) (r:=(uri,p)::lo) (seen:=[]) fun q hq=>hc q (Ml _ hq)
  have e3:scan uri (la++[(uri,p)]++lo) []=(.some p,s2):=by
   rw [List.append_assoc];refine e2.trans ?_;rw [scan,if_pos]
   refine⟨rfl,fun z=>?_⟩
   rcases k2 _ z with z | ⟨q,hq,e⟩
   ·exact nomatch z
   ·exact hc q (Ml _ hq) ((A.g hu q (Ml _ hq)).mpr ⟨by rw [e];exact hp,by rw [e];exact hm⟩)
  rw [Kp e3,ht,Nm (Nf _ (A.five _ hp))]
theorem AskOk.more(A:AskOk kn (la++lo) nps)(hp:p∈kn):AskOk kn (la++[(Aq p,p)]++lo) nps:=⟨A.five,by
 refine Fp (Fp (fun q hq=>A.d q (Ml _ hq)) ?_) fun q hq=>A.d q (Mr _ hq)
 intro q hq;rw [List.mem_singleton.mp hq];exact .inr ⟨hp,rfl⟩,A.n,A.k⟩
theorem res_none:∀ {l:List Pr},(∀ q∈l,q.2≠p)→res p l=.none
 | [],_=>rfl
 | q::l,h=>by rw [res,if_neg (h q (.head _))];exact res_none fun z hz=>h z (.tail _ hz)
theorem res_some{u:Str}:∀ {l:List Pr},(∀ q∈l,q.2=p→q.1=u)→(∃ q∈l,q.2=p)→res p l=.some u
 | [],_,h=>nomatch h.choose_spec.1
 | q::l,h,h2=>by
  rw [res]
  by_cases c:q.2=p
  ·rw [if_pos c,h q (.head _) c]
  ·rw [if_neg c]
   refine res_some (fun z hz=>h z (.tail _ hz)) ?_
   obtain⟨z,hz,e⟩:=h2
   rcases List.mem_cons.mp hz with rfl | hz
   ·exact absurd e c
   ·exact⟨z,hz,e⟩
theorem AskOk.yes(A:AskOk kn dps nps)(hp:p∈kn):res p nps=.some (Aq p):=by
 refine res_some (fun q hq e=>?_) ⟨_,A.k p hp,rfl⟩
 rcases A.n q hq with z | ⟨_,z⟩
 ·exact absurd e (Qe _ (Fe _ (A.five _ hp)) _ z)
 ·rw [z,e]
theorem AskOk.no(A:AskOk kn dps nps)(h6:p∈six)(hp:p∉kn):res p nps=.none:=by
 refine res_none fun q hq e=>?_
 rcases A.n q hq with z | ⟨z,_⟩
 ·exact Qe _ h6 _ z e
 ·exact hp (e ▸ z)
theorem Nc:∀ p∈six,∀ n∈[Str.ofString "x",Str.ofString "y"],cutL (p++":"++n) ":" p n=true:=by decide +kernel
theorem Tz:∀ u∈four,∀ n∈[Str.ofString "x",Str.ofString "y"],Ek (Str.ofString "{"++u++Str.ofString "}"++n) u n=true:=by decide +kernel
theorem Dz:∀ u∈four,u.length≤1:=by decide +kernel
theorem Nv:∀ u∈six,u.length≤1:=by decide +kernel
end
end
section

def Dis(a b:List (Addr × Obj)):Prop:=∀ p∈a,∀ q∈b,p.1≠q.1
noncomputable def WS0:WS:={ seen:=false,done:=false,decl:=[[xmlP]],nss:=[Fw,[]],pre:=[false],data:=[],out:=[] }
theorem shuf_w{α:Type}{B0 D a1 a2 a3 a4 a5 a6 a7 da de dl dx nl ns out pm pr vw wr x:α}:∀ q∈[x,dx,da,out,wr,de,ns,pr]++[nl,a1,a2,a3,a4,a5,a6,a7,B0,dl,D],q∈[pr,pm,nl,a1,a2,a3,a4,a5,a6,a7,B0,vw,ns,de,dl,D,da,x,dx]++[wr,out]:=Fc (.tail _ (.tail _ (.tail _ (.tail _ (.tail _ (.tail _ (.tail _ (.tail _ (.tail _ (.tail _ (.tail _ (.tail _ (.tail _ (.tail _ (.tail _ (.tail _ (.tail _ (.head _)))))))))))))))))) (Fc (.tail _ (.tail _ (.tail _ (.tail _ (.tail _ (.tail _ (.tail _ (.tail _ (.tail _ (.tail _ (.tail _ (.tail _ (.tail _ (.tail _ (.tail _ (.tail _ (.tail _ (.tail _ (.head _))))))))))))))))))) (Fc (.tail _ (.tail _ (.tail _ (.tail _ (.tail _ (.tail _ (.tail _ (.tail _ (.tail _ (.tail _ (.tail _ (.tail _ (.tail _ (.tail _ (.tail _ (.tail _ (.head _))))))))))))))))) (Fc (.tail _ (.tail _ (.tail _ (.tail _ (.tail _ (.tail _ (.tail _ (.tail _ (.tail _ (.tail _ (.tail _ (.tail _ (.tail _ (.tail _ (.tail _ (.tail _ (.tail _ (.tail _ (.tail _ (.tail _ (.head _))))))))))))))))))))) (Fc (.tail _ (.tail _ (.tail _ (.tail _ (.tail _ (.tail _ (.tail _ (.tail _ (.tail _ (.tail _ (.tail _ (.tail _ (.tail _ (.tail _ (.tail _ (.tail _ (.tail _ (.tail _ (.tail _ (.head _)))))))))))))))))))) (Fc (.tail _ (.tail _ (.tail _ (.tail _ (.tail _ (.tail _ (.tail _ (.tail _ (.tail _ (.tail _ (.tail _ (.tail _ (.tail _ (.head _)))))))))))))) (Fc (.tail _ (.tail _ (.tail _ (.tail _ (.tail _ (.tail _ (.tail _ (.tail _ (.tail _ (.tail _ (.tail _ (.tail _ (.head _))))))))))))) (Fc (.head _) (Fc (.tail _ (.tail _ (.head _))) (Fc (.tail _ (.tail _ (.tail _ (.head _)))) (Fc (.tail _ (.tail _ (.tail _ (.tail _ (.head _))))) (Fc (.tail _ (.tail _ (.tail _ (.tail _ (.tail _ (.head _)))))) (Fc (.tail _ (.tail _ (.tail _ (.tail _ (.tail _ (.tail _ (.head _))))))) (Fc (.tail _ (.tail _ (.tail _ (.tail _ (.tail _ (.tail _ (.tail _ (.head _)))))))) (Fc (.tail _ (.tail _ (.tail _ (.tail _ (.tail _ (.tail _ (.tail _ (.tail _ (.head _))))))))) (Fc (.tail _ (.tail _ (.tail _ (.tail _ (.tail _ (.tail _ (.tail _ (.tail _ (.tail _ (.head _)))))))))) (Fc (.tail _ (.tail _ (.tail _ (.tail _ (.tail _ (.tail _ (.tail _ (.tail _ (.tail _ (.tail _ (.head _))))))))))) (Fc (.tail _ (.tail _ (.tail _ (.tail _ (.tail _ (.tail _ (.tail _ (.tail _ (.tail _ (.tail _ (.tail _ (.tail _ (.tail _ (.tail _ (.head _))))))))))))))) (Fc (.tail _ (.tail _ (.tail _ (.tail _ (.tail _ (.tail _ (.tail _ (.tail _ (.tail _ (.tail _ (.tail _ (.tail _ (.tail _ (.tail _ (.tail _ (.head _)))))))))))))))) (fun _ z=>nomatch z)))))))))))))))))))
theorem Ub{x dx da out wr de ns pr a:Nat}(h1:out<wr)(h2:wr<dx)(h3:dx<x)(h4:x<da)(h5:da<de)(h6:de<ns)(h7:ns<a)(h8:a<pr):a∉[x,dx,da,out,wr,de,ns,pr]:=by
 have g1:=Nat.lt_trans h6 h7;have g2:=Nat.lt_trans h5 g1;have g3:=Nat.lt_trans h4 g2;have g4:=Nat.lt_trans h3 g3;have g5:=Nat.lt_trans h2 g4;exact Ab (Nat.ne_of_gt g3) (Ab (Nat.ne_of_gt g4) (Ab (Nat.ne_of_gt g2) (Ab (Nat.ne_of_gt (Nat.lt_trans h1 g5)) (Ab (Nat.ne_of_gt g5) (Ab (Nat.ne_of_gt g1) (Ab (Nat.ne_of_gt h7) (Ab (Nat.ne_of_lt h8) An)))))))
theorem Uc{x dx da out wr de ns pr a:Nat}(h1:out<wr)(h2:wr<dx)(h3:dx<x)(h4:x<da)(h7:da<a)(h8:a<de)(h6:de<ns)(h9:ns<pr):a∉[x,dx,da,out,wr,de,ns,pr]:=by
 have g3:=Nat.lt_trans h4 h7;have g4:=Nat.lt_trans h3 g3;have g5:=Nat.lt_trans h2 g4;have g6:=Nat.lt_trans h8 h6;exact Ab (Nat.ne_of_gt g3) (Ab (Nat.ne_of_gt g4) (Ab (Nat.ne_of_gt h7) (Ab (Nat.ne_of_gt (Nat.lt_trans h1 g5)) (Ab (Nat.ne_of_gt g5) (Ab (Nat.ne_of_lt h8) (Ab (Nat.ne_of_lt g6) (Ab (Nat.ne_of_lt (Nat.lt_trans g6 h9)) An)))))))
theorem Em{a b:Nat}{t:List Nat}(h:a<b)(p:(b::t).Pairwise (·<·)):(a::b::t).Pairwise (·<·):=.cons (fun c hc=>by
 rcases List.mem_cons.mp hc with rfl | hc
 ·exact h
 ·exact Nat.lt_trans h (List.rel_of_pairwise_cons p hc)) p
theorem nd8_of{x dx da out wr de ns pr:Nat}(h1:out<wr)(h2:wr<dx)(h3:dx<x)(h4:x<da)(h5:da<de)(h6:de<ns)(h7:ns<pr):([x,dx,da,out,wr,de,ns,pr]:List Nat).Nodup:=by
 have h:([out,wr,dx,x,da,de,ns,pr]:List Nat).Pairwise (·<·):=Em h1 (Em h2 (Em h3 (Em h4 (Em h5 (Em h6 (Em h7 (.cons (fun _ z=>nomatch z) .nil)))))))
 have n:([out,wr,dx,x,da,de,ns,pr]:List Nat).Nodup:=h.imp fun z=>Nat.ne_of_lt z
 refine List.Perm.nodup ?_ n;have p1:([out,wr,dx,x,da,de,ns,pr]:List Nat).Perm ([dx,x,da]++[out,wr]++[de,ns,pr]):=(List.perm_append_comm (l₁:=[out,wr]) (l₂:=[dx,x,da])).append_right _;exact p1.trans (.swap _ _ _)
theorem nd3_of{a b c:Addr}(h1:a≠b)(h2:a≠c)(h3:b≠c):([a]++[b,c]:List Addr).Nodup:=by simp [h1,h2,h3]
noncomputable def Hh(W:World)(A:Around)(s:Shared)(E:Value→Shared→Prop)(g:Heap)(os:OsState)(p:Program)(zw:List Str)(zr:ExcName→Option Value)(mg mb:Str→Option Value)(L:Addr)(m:Str→Option Value)(Q:Value→Shared→Prop)(out wr:Addr)(n2:Nat)(rest:List (Addr × Obj)):Prop :=
 ∀ (X:(hd03.heap_39 W.params).In g) (T:Top p zw zr mg mb g) (hh:A.handled=none) (zq:A.depth<500) (F:Fr g L s.heap m) (N:News g L s.heap ((wr,Ai out)::(out,listOf #[] n2)::rest)) (o1:s.os=os) (b1:AllBare s.gens) (hwo:out<wr) (hdr:∀ r∈rest,wr≠r.1∧out≠r.1) (h:∀ (f:FD) (x:Addr) (s':Shared),f.out=out→f.Is W WS0 x→Fr g L s'.heap m→News g L s'.heap (f.own WS0 x++rest)→Dis (f.own WS0 x) rest→s'.os=os→AllBare s'.gens→Q (.ref x) s'),wpAny (model rw_dn0283_03.row.prog W) A (call (.ref 150) [.ref wr]) Q E s
theorem Sf:∀ {W A s E g os p zw zr mg mb L m Q out wr n2 rest},Hh W A s E g os p zw zr mg mb L m Q out wr n2 rest:=by
 refine @(Aa (Al neW)<|@(Aa neI<|@(Ee neI<|let_mvar% ?n:=(fun W A s E g os p zw zr mg mb L m Q out wr n2 rest=>?_:∀ a b c d e f g h i j k l m n o p q r,Hh a b c d e f g h i j k l m n o p q r);?n _ _ _ _ _ _ _ _ _ _ _ _ _ _ _ _ _ _)))
 intro X T hh zq F N o1 b1 hwo hdr h;revert X
 k_fill
 intro X;refine call_cls (C:=150) (fI:=67) F X N ?k1 ?k2 ?k3 ?k4
 case k1=>k_is
 case k2=>k_is
 case k3=>k_is
 case k4 =>
  with_reducible refine let_mvar% ?zx:=(fun x dx h10=>?_:Fa3 _);Au neI (Cv:Tie _ (type_of% ?zx)) (?zx _ _ _)
  intro F10 N10 lt1 lt2;have w1:wr<dx:=lt1 (wr,Ai out) (.head _);have m1:∀ q∈[(x,instObj 150 dx),(dx,dictOf [] 0)],q∈(x,instObj 150 dx)::(dx,dictOf [] 0)::(wr,Ai out)::(out,listOf #[] n2)::rest:=Fc (.head _) (Fc (.tail _ (.head _)) (List.forall_mem_nil _))
  have m2:∀ q∈(wr,Ai out)::(out,listOf #[] n2)::rest,q∈(x,instObj 150 dx)::(dx,dictOf [] 0)::(wr,Ai out)::(out,listOf #[] n2)::rest:=fun q hq=>.tail _ (.tail _ hq)
  have m3:∀ q∈(wr,Ai out)::(out,listOf #[] n2)::rest,q.1∉([(x,instObj 150 dx),(dx,dictOf [] 0)]:List (Addr × Obj)).map (·.1):=fun q hq=>Ab (Nat.ne_of_lt (Nat.lt_trans (lt1 q hq) lt2)) (Ab (Nat.ne_of_lt (lt1 q hq)) An)
  obtain⟨H₂,K₂,r₂,back⟩:=Eb (s:={ s with heap:=h10 }) (os:=os) F10 N10 o1 b1 m1 m2 m3;refine Tt (X.keeps K₂) (T.keeps K₂) H₂ ?hh ?rm ?nd ?hN
  case hh=>exact hh
  case rm=>first | (show A.depth+1+1<750;omega) | (show A.depth+1+0<750;omega)
  case nd=>simp only [List.nodup_cons,List.mem_cons,List.not_mem_nil,or_false,List.nodup_nil,and_true,not_false_eq_true];exact Nat.ne_of_gt lt2
  case hN =>
   with_reducible refine let_mvar% ?zw0:=(fun s' hsh tkn ep n1 m2 n3=>?_:Fa7 _);Ap Bc (Cm:Tie _ (type_of% ?zw0)) (?zw0 _ _ _ _ _ _ _)
   with_reducible refine let_mvar% ?zw7:=(fun n4 n5 n6 n7=>?_:Fa4 _);Ax neI (Cy:Tie _ (type_of% ?zw7)) (?zw7 _ _ _ _)
   with_reducible refine let_mvar% ?zw14:=(fun pr pm nl B0 vw ns de=>?_:Fa7 _);Ap neI (Cm:Tie _ (type_of% ?zw14)) (?zw14 _ _ _ _ _ _ _)
   with_reducible refine let_mvar% ?zw21:=(fun dl D da a1 a2 a3 a4=>?_:Fa7 _);Ap neI (Cm:Tie _ (type_of% ?zw21)) (?zw21 _ _ _ _ _ _ _)
   with_reducible refine let_mvar% ?zw28:=(fun a5 a6 a7 oM oV tD tE=>?_:Fa7 _);Ap neI (Cm:Tie _ (type_of% ?zw28)) (?zw28 _ _ _ _ _ _ _)
   with_reducible refine let_mvar% ?zw35:=(fun t1 t2 t3 t4 t5 t6 t7=>?_:Fa7 _);Ap neI (Cm:Tie _ (type_of% ?zw35)) (?zw35 _ _ _ _ _ _ _)
   intro h1 h2 h3 h4 h5 H';obtain⟨F',N',o',b'⟩:=back _ _ H';obtain⟨c4,_⟩:=h1;obtain⟨c5,c6,c7,c8⟩:=h2;obtain⟨d1,d2,d3,d4,d5,d6,d7,d8⟩:=h3;obtain⟨e1,e2,e3,e4,e5,e6,e7,e8⟩:=h4;have c1:=hwo;have c2:=w1;have c3:=lt2;have c57:=Nat.lt_trans c5 (Nat.lt_trans c6 c7);have ltnp:=Nat.lt_trans d1 (Nat.lt_trans e1 h5)
   have hi:∀ {a:Addr},ns<a→a<pr→a∉[x,dx,da,out,wr,de,ns,pr]:=fun u v=>Ub c1 c2 c3 c4 c57 c8 u v
   have lo:∀ {a:Addr},da<a→a<de→a∉[x,dx,da,out,wr,de,ns,pr]:=fun u v=>Uc c1 c2 c3 c4 u v c8 ltnp
   have hsub:∀ q∈FD.own { dx:=dx,wr:=wr,da:=da,de:=de,ns:=ns,pm:=pm,pr:=pr,out:=out,hsh:=hsh,tkn:=tkn,ep:=ep,n1:=n7,n2:=n2,nde:=n5,nns:=n4,npr:=n1,ds:=[],ol:=[],dlv:=[(dl,#[.ref D])],nlv:=[(B0,#[.ref a1,.ref a2,.ref a3,.ref a4,.ref a5,.ref a6,.ref a7]),(nl,#[])],rest:=[(nl,listOf #[] m2),(a1,Ad #[.str "http://www.w3.org/XML/1998/namespace" t1,.str "xml" 330]),(a2,Ad #[.str "http://www.w3.org/1999/xhtml" t2,.str "html" 332]),(a3,Ad #[.str "http://www.w3.org/1999/02/22-rdf-syntax-ns#" t3,.str "rdf" 334]),(a4,Ad #[.str "http://schemas.xmlsoap.org/wsdl/" t4,.str "wsdl" 336]),(a5,Ad #[.str "http://www.w3.org/2001/XMLSchema" t5,.str "xs" 338]),(a6,Ad #[.str "http://www.w3.org/2001/XMLSchema-instance" t6,.str "xsi" 340]),(a7,Ad #[.str "http://purl.org/dc/elements/1.1/" t7,.str "dc" 342]),(B0,listOf #[.ref a1,.ref a2,.ref a3,.ref a4,.ref a5,.ref a6,.ref a7] n3),(dl,listOf #[.ref D] n6),(D,Ad #[.str "http://www.w3.org/XML/1998/namespace" tD,.str "xml" tE])],ev:=.none } WS0 x,q∈[(pr,listOf #[.bool false] n1),(pm,oM),(nl,listOf #[] m2),(a1,Ad #[.str "http://www.w3.org/XML/1998/namespace" t1,.str "xml" 330]),(a2,Ad #[.str "http://www.w3.org/1999/xhtml" t2,.str "html" 332]),(a3,Ad #[.str "http://www.w3.org/1999/02/22-rdf-syntax-ns#" t3,.str "rdf" 334]),(a4,Ad #[.str "http://schemas.xmlsoap.org/wsdl/" t4,.str "wsdl" 336]),(a5,Ad #[.str "http://www.w3.org/2001/XMLSchema" t5,.str "xs" 338]),(a6,Ad #[.str "http://www.w3.org/2001/XMLSchema-instance" t6,.str "xsi" 340]),(a7,Ad #[.str "http://purl.org/dc/elements/1.1/" t7,.str "dc" 342]),(B0,listOf #[.ref a1,.ref a2,.ref a3,.ref a4,.ref a5,.ref a6,.ref a7] n3),(vw,oV),(ns,listOf #[.ref B0,.ref nl] n4),(de,listOf #[.ref dl] n5),(dl,listOf #[.ref D] n6),(D,Ad #[.str "http://www.w3.org/XML/1998/namespace" tD,.str "xml" tE]),(da,listOf #[] n7),(x,instObj 150 dx),(dx,dictOf (wd hsh tkn (.bool false) (.bool false) .none .none (.bool false) .none .none .none wr da de ns pm pr false false 0) ep)]++[(wr,Ai out),(out,listOf #[] n2)]:=shuf_w;refine⟨rfl,h { dx:=dx,wr:=wr,da:=da,de:=de,ns:=ns,pm:=pm,pr:=pr,out:=out,hsh:=hsh,tkn:=tkn,ep:=ep,n1:=n7,n2:=n2,nde:=n5,nns:=n4,npr:=n1,ds:=[],ol:=[],dlv:=[(dl,#[.ref D])],nlv:=[(B0,#[.ref a1,.ref a2,.ref a3,.ref a4,.ref a5,.ref a6,.ref a7]),(nl,#[])],rest:=[(nl,listOf #[] m2),(a1,Ad #[.str "http://www.w3.org/XML/1998/namespace" t1,.str "xml" 330]),(a2,Ad #[.str "http://www.w3.org/1999/xhtml" t2,.str "html" 332]),(a3,Ad #[.str "http://www.w3.org/1999/02/22-rdf-syntax-ns#" t3,.str "rdf" 334]),(a4,Ad #[.str "http://schemas.xmlsoap.org/wsdl/" t4,.str "wsdl" 336]),(a5,Ad #[.str "http://www.w3.org/2001/XMLSchema" t5,.str "xs" 338]),(a6,Ad #[.str "http://www.w3.org/2001/XMLSchema-instance" t6,.str "xsi" 340]),(a7,Ad #[.str "http://purl.org/dc/elements/1.1/" t7,.str "dc" 342]),(B0,listOf #[.ref a1,.ref a2,.ref a3,.ref a4,.ref a5,.ref a6,.ref a7] n3),(dl,listOf #[.ref D] n6),(D,Ad #[.str "http://www.w3.org/XML/1998/namespace" tD,.str "xml" tE])],ev:=.none } x s' rfl ⟨rfl,rfl,?dl,?nl,?dp,?np,nd8_of c1 c2 c3 c4 c57 c8 ltnp,?off,?ndl,.inl rfl⟩ F' (News.sub N' ?sub) ?dis o' b'⟩
   case dl=>intro q hq;rw [List.mem_singleton.mp hq];exact⟨n6,.tail _ (.tail _ (.tail _ (.tail _ (.tail _ (.tail _ (.tail _ (.tail _ (.tail _ (.head _)))))))))⟩
   case nl =>
    intro q hq
    rcases List.mem_cons.mp hq with rfl | hq
    ·exact⟨n3,.tail _ (.tail _ (.tail _ (.tail _ (.tail _ (.tail _ (.tail _ (.tail _ (.head _))))))))⟩
    ·rw [List.mem_singleton.mp hq];exact⟨m2,.head _⟩
   case dp=>exact .cons (.cons ⟨D,_,_,rfl,.tail _ (.tail _ (.tail _ (.tail _ (.tail _ (.tail _ (.tail _ (.tail _ (.tail _ (.tail _ (.head _))))))))))⟩ .nil) .nil
   case np=>exact .cons (.cons ⟨a1,_,_,rfl,.tail _ (.head _)⟩ (.cons ⟨a2,_,_,rfl,.tail _ (.tail _ (.head _))⟩ (.cons ⟨a3,_,_,rfl,.tail _ (.tail _ (.tail _ (.head _)))⟩ (.cons ⟨a4,_,_,rfl,.tail _ (.tail _ (.tail _ (.tail _ (.head _))))⟩ (.cons ⟨a5,_,_,rfl,.tail _ (.tail _ (.tail _ (.tail _ (.tail _ (.head _)))))⟩ (.cons ⟨a6,_,_,rfl,.tail _ (.tail _ (.tail _ (.tail _ (.tail _ (.tail _ (.head _))))))⟩ (.cons ⟨a7,_,_,rfl,.tail _ (.tail _ (.tail _ (.tail _ (.tail _ (.tail _ (.tail _ (.head _)))))))⟩ (.nil)))))))) (.cons .nil .nil)
   case off=>exact Fc (hi (Nat.lt_trans d1 e1) h5) (Fc (hi d1 (Nat.lt_trans e1 h5)) (Fc (hi d2 (Nat.lt_trans e2 h5)) (Fc (hi d3 (Nat.lt_trans e3 h5)) (Fc (hi d4 (Nat.lt_trans e4 h5)) (Fc (hi d5 (Nat.lt_trans e5 h5)) (Fc (hi d6 (Nat.lt_trans e6 h5)) (Fc (hi d7 (Nat.lt_trans e7 h5)) (Fc (hi d8 (Nat.lt_trans e8 h5)) (Fc (lo (Nat.lt_trans c5 c6) c7) (Fc (lo c5 (Nat.lt_trans c6 c7)) (List.forall_mem_nil _)))))))))))
   case ndl=>exact nd3_of (Nat.ne_of_lt (Nat.lt_trans (Nat.lt_trans c7 c8) d8)) (Nat.ne_of_lt (Nat.lt_trans (Nat.lt_trans c7 c8) (Nat.lt_trans d1 e1))) (Nat.ne_of_lt e8)
   case sub =>
    intro q hq
    rcases List.mem_append.mp hq with z | z
    ·rcases List.mem_append.mp (hsub q z) with y | y
     ·exact Ml _ y
     ·exact Mr _ ((Fc (.head _) (Fc (.tail _ (.head _)) (List.forall_mem_nil _)):∀ q∈[(wr,Ai out),(out,listOf #[] n2)],q∈(wr,Ai out)::(out,listOf #[] n2)::rest) q y)
    ·exact Mr _ (.tail _ (.tail _ z))
   case dis =>
    intro q hq r hr e
    rcases List.mem_append.mp (hsub q hq) with y | y
    ·have z1:=(H'.own q y).2
     rw [e,r₂ r (.tail _ (.tail _ hr))] at z1
     cases z1
    ·rcases List.mem_cons.mp y with rfl | y
     ·exact(hdr r hr).1 e
     ·rw [List.mem_singleton.mp y] at e
      exact(hdr r hr).2 e
end
section

noncomputable def Ew(p:Str):Str:=Str.ofString "{"++Aq p++Str.ofString "}a"
noncomputable def Gu(p:Str):Str:=Str.ofString "{"++Aq p++Str.ofString "}k"
noncomputable def told(S:List (List Str)):List (List Pr):=S.map fun l=>l.map fun p=>(Aq p,p)
inductive Std:List (List Pr)→List (List Str)→List Str→Prop
 | base {s:List Str}:(∀ p∈s,p∈five)→Std [[xmlP]] [s] []
 | push {D:List (List Pr)} {S:List (List Str)} {N:List Str} {d:List Pr} {s:List Str} {n:Str}:Std D S N→(∀ q∈d,∃ p∈S.flatten,q=(Aq p,p))→(n=Str.ofString "a"∨∃ p∈S.flatten,n=Ew p)→(∀ p∈s,p∈five)→Std (D++[d]) (S++[s]) (N++[n])
structure NW (w:WS) (S:List (List Str)) (N:List Str):Prop where
 data:w.data=[]
 nss:w.nss=Fw::told S
 std:Std w.decl S N
 pre:w.pre.length=N.length+1
 seen:N≠[]→w.seen=true
section
variable{w:WS}{S:List (List Str)}{N:List Str}{D:List (List Pr)}
theorem Std.five(h:Std D S N):∀ p∈S.flatten,p∈five:=by
 induction h with
 | base h=>simpa using h
 | push _ _ _ h ih =>
  rw [List.flatten_append]
  exact Fp ih (by simpa using h)
theorem Std.len(h:Std D S N):D.length=N.length+1∧S.length=N.length+1:=by
 induction h with
 | base=>exact⟨rfl,rfl⟩
 | push _ _ _ _ ih=>simp [ih.1,ih.2]
theorem Std.decl(h:Std D S N):∀ d∈D,∀ q∈d,q=xmlP∨∃ p∈S.flatten,q=(Aq p,p):=by
 induction h with
 | base=>exact Fc (Fc (.inl rfl) (List.forall_mem_nil _)) (List.forall_mem_nil _)
 | push _ h1 _ _ ih =>
  refine Fp (fun d hd q hq=>?_) (Fc (fun q hq=>?_) (List.forall_mem_nil _))
  ·rcases ih d hd q hq with z | ⟨p,hp,e⟩
   ·exact .inl z
   ·exact .inr ⟨p,by rw [List.flatten_append];exact Ml _ hp,e⟩
  ·obtain⟨p,hp,e⟩:=h1 q hq
   exact .inr ⟨p,by rw [List.flatten_append];exact Ml _ hp,e⟩
theorem Std.more{S0:List (List Str)}{s:List Str}{p:Str}(h:Std D (S0++[s]) N)(hp:p∈Mine.five):Std D (S0++[s++[p]]) N:=by
 generalize e:S0++[s]=S at h
 cases h with
 | base h =>
  cases S0 with
  | nil =>
   rw [List.nil_append] at e
   injection e with e _
   subst e;exact .base (Fp h (Fc hp (List.forall_mem_nil _)))
  | cons a r=>simp at e
 | push h1 h2 h3 h4 =>
  obtain⟨rfl,e2⟩:=List.append_inj' e rfl
  injection e2 with e2 _
  subst e2;exact .push h1 h2 h3 (Fp h4 (Fc hp (List.forall_mem_nil _)))
theorem Std.pop{d:List Pr}{s:List Str}{n:Str}{N0:List Str}(h:Std D S (N0++[n])):∃ D0 S0 d s,D=D0++[d]∧S=S0++[s]∧Std D0 S0 N0∧(n=Str.ofString "a"∨∃ p∈S0.flatten,n=Ew p):=by
 generalize e:N0++[n]=N at h
 cases h with
 | base=>simp at e
 | push h1 h2 h3 h4 =>
  obtain⟨rfl,e2⟩:=List.append_inj' e rfl
  injection e2 with e2 _
  subst e2;exact⟨_,_,_,_,rfl,rfl,h1,h3⟩
theorem Kk{q:Pr}:q∈flat (Fw::told S)↔q∈Fw∨∃ p∈S.flatten,q=(Aq p,p):=by
 rw [Pq]
 constructor
 ·rintro⟨a,ha,hq⟩
  rcases List.mem_cons.mp ha with rfl | ha
  ·exact .inl hq
  ·obtain⟨l,hl,rfl⟩:=List.mem_map.mp ha
   obtain⟨p,hp,rfl⟩:=List.mem_map.mp hq;exact .inr ⟨p,List.mem_flatten.mpr ⟨l,hl,hp⟩,rfl⟩
 ·rintro(h | ⟨p,hp,rfl⟩)
  ·exact⟨_,.head _,h⟩
  ·obtain⟨l,hl,hp⟩:=List.mem_flatten.mp hp
   exact⟨_,.tail _ (List.mem_map_of_mem hl),List.mem_map_of_mem (f:=fun p=>(Aq p,p)) hp⟩
theorem NW.ask(h:NW w S N):AskOk S.flatten (flat w.decl) (flat w.nss):=by
 refine⟨h.std.five,fun q hq=>?_,fun q hq=>?_,fun p hp=>?_⟩
 ·obtain⟨d,hd,hq⟩:=Pq.mp hq
  rcases h.std.decl d hd q hq with z | ⟨p,hp,rfl⟩
  ·exact .inl z
  ·exact .inr ⟨hp,rfl⟩
 ·rw [h.nss] at hq
  rcases Kk.mp hq with z | ⟨p,hp,rfl⟩
  ·exact .inl z
  ·exact .inr ⟨hp,rfl⟩
 ·rw [h.nss];exact Kk.mpr (.inr ⟨p,hp,rfl⟩)
theorem nw0:NW WS0 [[]] []:=⟨rfl,rfl,.base (fun _ z=>nomatch z),rfl,fun h=>absurd rfl h⟩
theorem NW.sns{S0:List (List Str)}{s:List Str}{p:Str}(h:NW w (S0++[s]) N)(hp:p∈Mine.five):NW (w.tell (.sns p (Aq p))) (S0++[s++[p]]) N:=by
 refine⟨rfl,?_,h.std.more hp,h.pre,h.seen⟩
 show Ed (Aq p,p) w.nss=_
 rw [h.nss];unfold told;rw [List.map_append,List.map_append,List.map_cons,List.map_cons,List.map_nil,← List.cons_append,Ex,List.map_append]
 rfl
theorem Ur:∀ p∈Mine.five,Cc (Ew p)=true∧cutName (Ew p)=(Aq p,Str.ofString "a")∧Cc (Gu p)=true∧cutName (Gu p)=(Aq p,Str.ofString "k"):=by decide +kernel
theorem Uy:∀ n∈[Str.ofString "a",Str.ofString "k"],Cc n=true∧(cutName n).1=Str.empty:=by decide +kernel
def Ls(S:List (List Str))(n:Str):Prop:=n∈[Str.ofString "a",Str.ofString "k"]∨∃ p∈S.flatten,n=Ew p∨n=Gu p
theorem NW.fit(h:NW w S N){n:Str}(hn:Ls S n):Ji w n∧((cutName n).1=Str.empty∨(cutName n).1∈four):=by
 rcases hn with hn | ⟨p,hp,hn⟩
 ·obtain⟨a,b⟩:=Uy n hn
  exact⟨⟨a,.inl b⟩,.inl b⟩
 ·have h5:=h.std.five p hp
  obtain⟨a,b,c,d⟩:=Ur p h5
  have hk:known (flat w.nss) (Aq p):=.inr fun e=>find_none e _ (h.ask.k p hp) rfl
  rcases hn with rfl | rfl
  ·exact⟨⟨a,by rw [b];exact hk⟩,.inr (by rw [b];exact Nw p h5)⟩
  ·exact⟨⟨c,by rw [d];exact hk⟩,.inr (by rw [d];exact Nw p h5)⟩
theorem qn_pair{decl ns:List Pr}{uri tag txt:Str}{q:Pr}(h:qn decl ns uri tag=some (txt,some q)):q.1=uri∧q∈ns∧uri≠Str.empty∨q.1=uri∧q∈ns:=by
 unfold qn at h
 split at h
 ·cases h
 ·split at h
  ·cases h
  ·split at h
   ·rename_i e
    injection h with h;injection h with _ h;injection h with h
    rw [← h];exact .inr ⟨rfl,Fb e⟩
   ·split at h<;>cases h
theorem Ei(lower ns:List Pr):∀ (l:List Str) (lv:List Pr) (ps:List (Str × Parsed)),∀ q∈(declare lower ns l lv ps).1,q∈lv∨(q∈ns∧∃ n∈l,q.1=(cutName n).1)
 | [],lv,ps=>fun q hq=>.inl hq
 | n::l,lv,ps=>by
  intro q hq;unfold declare at hq
  split at hq
  ·rcases Ei lower ns l _ _ q hq with z | ⟨z,m,hm,e⟩
   ·exact .inl z
   ·exact .inr ⟨z,m,.tail _ hm,e⟩
  ·rename_i txt q0 e0
   rcases Ei lower ns l _ _ q hq with z | ⟨z,m,hm,e⟩
   ·rcases List.mem_append.mp z with z | z
    ·exact .inl z
    ·rw [List.mem_singleton.mp z]
     rcases qn_pair e0 with ⟨a,b,_⟩ | ⟨a,b⟩
     ·exact .inr ⟨b,n,.head _,a⟩
     ·exact .inr ⟨b,n,.head _,a⟩
   ·exact .inr ⟨z,m,.tail _ hm,e⟩
  ·exact .inl hq
theorem base_ne:∀ q∈Fw,q.1≠Str.empty:=by decide +kernel
theorem NW.start(h:NW w S N){tag:Str}{attrs:List Pr}(ht:tag=Str.ofString "a"∨∃ p∈S.flatten,tag=Ew p)(hn:∀ n∈tag::attrs.map (·.1),Ls S n):NW (w.tell (.start tag attrs)) (S++[[]]) (N++[tag]):=by
 refine⟨rfl,?_,.push h.std (fun q hq=>?_) ht (fun _ z=>nomatch z),?_,fun _=>rfl⟩
 ·show w.nss++[[]]=_
  rw [h.nss];unfold told;simp
 ·have hm:∀ n,n∈Am Av (tag::attrs.map (·.1))↔n∈tag::attrs.map (·.1):=fun n=>(Aj _ _).mem_iff
  rcases Ei _ _ _ _ _ q hq with z | ⟨z,n,hn',e⟩
  ·exact nomatch z
  ·have hz:q∈flat w.nss:=z
   rw [h.nss] at hz
   rcases Kk.mp hz with y | y
   ·exfalso
    rcases (h.fit (hn n ((hm n).mp hn'))).2 with f | f
    ·exact base_ne q y (e.trans f)
    ·rw [← e] at f
     exact Hq _ f _ y rfl
   ·exact y
 ·show (w.pre++[_]).length=_
  simp [h.pre]
theorem NW.stop{s:List Str}{n:Str}(h:NW w S (N++[n])):∃ S0 s,S=S0++[s]∧NW (w.tell (.stop n)) S0 N∧Cz w (.stop n):=by
 obtain⟨D0,S0,d,s,e1,e2,h1,h2⟩:=h.std.pop (d:=[]) (s:=[])
 refine⟨S0,s,e2,⟨rfl,?_,?_,?_,?_⟩,(h.fit ?_).1,?_,h.seen (by simp)⟩
 ·show w.nss.dropLast=_
  rw [h.nss,e2];unfold told;rw [List.map_append,← List.cons_append];exact List.dropLast_concat
 ·show Std w.decl.dropLast S0 N
  rw [e1,List.dropLast_concat];exact h1
 ·show w.pre.dropLast.length=_
  rw [List.length_dropLast,h.pre];simp
 ·intro _;show w.seen=true;exact h.seen (by simp)
 ·rcases h2 with z | ⟨p,hp,z⟩
  ·exact .inl (by rw [z];exact .head _)
  ·exact .inr ⟨p,by rw [e2,List.flatten_append];exact Ml _ hp,.inl z⟩
 ·rw [h.pre];simp
end
end
section

noncomputable abbrev m6(a b c d e f:Str)(m0:Str→Option Value)(u1 u2 u3 u4 u5 u6:Option Value):Str→Option Value :=
 fun y=>if y=f then u6 else if y=e then u5 else if y=d then u4 else if y=c then u3 else if y=b then u2 else if y=a then u1 else m0 y
theorem Pp{a b c d e f:Str}{m m0:Str→Option Value}(h:∀ y,y≠a→y≠b→y≠c→y≠d→y≠e→y≠f→m y=m0 y):m=m6 a b c d e f m0 (m a) (m b) (m c) (m d) (m e) (m f):=funext fun y=>Co (congrArg m) fun h1=>Co (congrArg m) fun h2=>Co (congrArg m) fun h3=>Co (congrArg m) fun h4=>Co (congrArg m) fun h5=>Co (congrArg m) fun h6=>h y h6 h5 h4 h3 h2 h1
structure AskG (prog:Program) (w:World) (g:Heap) (de ns mn dl:Addr) (its:Array Value) (dlv nlv:List (Addr × Array Value)) (la lo nps:List Pr) (kvs:List (Str × Value)):Prop where
 de:g.IsList de (dlv.map (fun p=>Value.ref p.1)++[Value.ref dl]).toArray
 dl:∀ p∈dlv,g.IsList p.1 p.2
 lo:All2 (As g) (comes dlv) lo
 la:All2 (As g) its.toList la
 ns:g.IsList ns (nlv.map fun p=>.ref p.1).toArray
 nl:∀ p∈nlv,g.IsList p.1 p.2
 np:All2 (As g) (comes nlv) nps
 mn:g.DictOf (PySem.strKind prog w) mn kvs
section
variable{prog:Program}{w:World}{g g':Heap}{de ns mn dl:Addr}{its:Array Value}{dlv nlv:List (Addr × Array Value)}{la lo nps:List Pr}{kvs:List (Str × Value)}{fs:List Addr}
theorem AskG.keeps(G:AskG prog w g de ns mn dl its dlv nlv la lo nps kvs)(k:∀ b o,g.get? b=some o→g'.get? b=some o):AskG prog w g' de ns mn dl its dlv nlv la lo nps kvs :=
 ⟨Ae k G.de,fun p hp=>Ae k (G.dl p hp),G.lo.mono fun _ _ z=>z.keeps k,G.la.mono fun _ _ z=>z.keeps k,Ae k G.ns,fun p hp=>Ae k (G.nl p hp),G.np.mono fun _ _ z=>z.keeps k,let ⟨o,es,ep,ho,r⟩:=G.mn;⟨o,es,ep,k _ _ ho,r⟩⟩
theorem Ft{l:Addr}{i:Array Value}(T:KtsTurn fs g g')(D:KtsDicts fs g)(h:g.IsList l i):g'.IsList l i:=by
 obtain⟨o,ho,hc,n,hd⟩:=h
 exact⟨o,KtsTurn.stay T D ho (fun es c e=>by rw [hd] at e;cases e),hc,n,hd⟩
theorem Ht{v:Value}{q:Pr}(T:KtsTurn fs g g')(D:KtsDicts fs g)(h:As g v q):As g' v q:=by
 obtain⟨t,t1,t2,e,o,ho,hc,n,hd⟩:=h
 exact⟨t,t1,t2,e,o,KtsTurn.stay T D ho (fun es c e=>by rw [hd] at e;cases e),hc,n,hd⟩
theorem AskG.turn(G:AskG prog w g de ns mn dl its dlv nlv la lo nps kvs)(T:KtsTurn fs g g')(D:KtsDicts fs g)(hm:mn∉fs):AskG prog w g' de ns mn dl its dlv nlv la lo nps kvs :=
 ⟨Ft T D G.de,fun p hp=>Ft T D (G.dl p hp),G.lo.mono fun _ _ z=>Ht T D z,G.la.mono fun _ _ z=>Ht T D z,Ft T D G.ns,fun p hp=>Ft T D (G.nl p hp),G.np.mono fun _ _ z=>Ht T D z,let ⟨o,es,ep,ho,r⟩:=G.mn;⟨o,es,ep,T.other _ _ ho hm,r⟩⟩
end
noncomputable def Oj(A:Around)(base:Heap)(outer:List Env)(g:Heap)(x dx dl K cu cm ax:Addr)(od ok oa om:Obj)(its:Array Value)(m0:Str→Option Value)(kn:List Str)(la lo nps:List Pr)(b:Nat)(g':Heap)(i:Nat)(m:Str→Option Value)(own:List (Addr × Obj)):Prop :=
 ∃ (ou:Obj) (n:Nat) (exr:Array Value) (exs:List Pr) (tups:List (Addr × Obj)) (u1 u2 u3 u4 u5 u6:Option Value) (cv:Option Value),KtsTurn (outer.filterMap (·.frame)) g g'∧Below A base outer g'∧KtsDicts (outer.filterMap (·.frame)) g' ∧
  m=m6 "error" "some" "written" "prefix" "text" "name" m0 u1 u2 u3 u4 u5 u6∧own=(ax,oa)::(K,ok)::(cm,om)::(cu,ou)::(x,instObj 150 dx)::(dx,od)::(dl,listOf (its++exr) n)::tups∧ou.data=.cell cv ∧
  All2 (Ak tups) exr.toList exs∧exs.length≤b+i∧AskOk kn (la++exs++lo) nps∧(∀ p∈tups,p.1≠x∧p.1≠dx∧p.1≠dl∧p.1≠cu)
section
variable{prog:Program}{w:World}{A:Around}{E:Value→Shared→Prop}{s:Shared}
theorem Ep{d:Addr}{kvs:List (Str × Value)}{k:Str}{t:Tok}{v:Value}{Q:Value→Shared→Prop}{value slice:PySem.Expr}(hd:s.heap.DictOf (PySem.strKind prog w) d kvs)(hl:valueAt kvs k=some v)(h:Q v { s with toks:=s.toks+1 })
  (hs:subscripted slice false (.ref d) (.str k t)=operate [.ref d,.str k t] (getItem (.ref d) (.str k t)):=by with_unfolding_all rfl):wpAny (model prog w) A (subscriptTail value slice (.ref d) (.str k t)) Q E s :=
 tail_any hd.typeIs slot_dict_getitem.lookup (wpAny_getItem_of (strKind_is _ _ _ _) hd.mapOf hl h) hs
end
end
section

theorem Rb{dlv:List (Addr × Array Value)}{dl:Addr}{its:Array Value}:comes (dlv++[(dl,its)])=its.toList++comes dlv:=by
 unfold comes;simp
theorem AskOk.len{kn:List Str}{dps nps:List Pr}(A:AskOk kn dps nps):(∀ q∈dps,q.1.length≤1000∧q.2.length≤1000)∧∀ q∈nps,q.1.length≤1000∧q.2.length≤1000:=by
 have h1:∀ p∈Mine.five,(Aq p).length≤1000∧p.length≤1000:=by decide +kernel
 have h2:∀ q∈Fw,q.1.length≤1000∧q.2.length≤1000:=by decide +kernel
 have h3:∀ {q:Pr},q.2∈kn∧q.1=Aq q.2→q.1.length≤1000∧q.2.length≤1000:=fun {q} z=>by rw [z.2];exact h1 _ (A.five _ z.1)
 exact⟨fun q hq=>(A.d q hq).elim (fun e=>by rw [e];exact h2 _ Qr) h3,fun q hq=>(A.n q hq).elim (h2 q) h3⟩
noncomputable def Hy(w:World)(A:Around)(s:Shared)(E:Value→Shared→Prop)(g:Heap)(os:OsState)(p:Program)(zw:List Str)(zr:ExcName→Option Value)(mg mb:Str→Option Value)(L a:Addr)(m:Str→Option Value)(Q:Value→Shared→Prop)(name:Str)(scope:Scope)(cd:Value)(cl:List (Str × Addr))(base:Heap)(outer:List Env)(x dx dl:Addr)(hsh:Nat→Int)(tkn:Nat→Tok)(wr da de ns pm pr mn:Addr)(rs rd:Bool)(ig:Int)(its exr:Array Value)(ep n:Nat)(dlv nlv:List (Addr × Array Value))(la lo exs nps:List Pr)(ev:Value)(kn:List Str)(kvs:List (Str × Value))(tups rest:List (Addr × Obj))(q uri tag:Str)(tq:Tok)(args:List Value)(v:Value):Prop :=
 ∀ (XB:(hd03.heap_39 w.params).In base) (TB:Top p zw zr mg mb base) (B:Below A base outer g) (D:KtsDicts (outer.filterMap (·.frame)) g) (F:Fr g L s.heap m) (N:News g L s.heap ((x,instObj 150 dx)::(dx,dictOf (wd hsh tkn (.bool false) (.bool false) .none ev (.bool false) .none .none .none wr da de ns pm pr rs rd ig) ep)::(dl,listOf (its++exr) n)::(tups++rest))) (o1:s.os=os) (b1:AllBare s.gens) (G:AskG rw_dn0283_03.row.prog w g de ns mn dl its dlv nlv la lo nps kvs) (hDz:∀ p∈dlv,(p.2.size:Int)<2 ^ 63) (hNz:∀ p∈nlv,(p.2.size:Int)<2 ^ 63) (hDn:(la++exs++lo).length<2900) (nd:([x,dx,dl]:List Addr).Nodup) (hrest:∀ p∈tups++rest,p.1≠x∧p.1≠dx∧p.1≠dl) (hex:All2 (Ak tups) exr.toList exs) (hA:AskOk kn (la++exs++lo) nps) (hk:scope.kind=.function) (hh:A.handled=none) (zq:A.depth<890) (huri:uri∈four) (hq:q.length≤1000) (ht:tag.length≤1000) (hn:(args=[.str q tq]∧v=.none∧Ek q uri tag=true)∨(∃ tu,args=[.str q tq,v]∧v=.str uri tu∧tag=q))
  (kS:∀ (s':Shared) (ta:Addr) (txt pf:Str) (t1 t2 t3:Tok) (exr':Array Value) (exs':List Pr) (tups':List (Addr × Obj)) (n':Nat),pf∈kn→Aq pf=uri→txt=pf++":"++tag→(∃ o,qn (la++exs++lo) nps uri tag=some (txt,o))→qn (la++exs'++lo) nps uri tag=some (txt,none)→All2 (Ak tups') exr'.toList exs'→exs'.length≤exs.length+1→(qn (la++exs++lo) nps uri tag=some (txt,none)→exs'.length≤exs.length)→AskOk kn (la++exs'++lo) nps→(∀ p∈(ta,Ad #[.str txt t1,.str tag t2,.str uri t3])::tups',(p.1≠x∧p.1≠dx∧p.1≠dl)∧(p∈tups∨∀ r∈rest,p.1≠r.1))→Fr g L s'.heap m→News g L s'.heap ((ta,Ad #[.str txt t1,.str tag t2,.str uri t3])::(x,instObj 150 dx)::(dx,dictOf (wd hsh tkn (.bool false) (.bool false) .none ev (.bool false) .none .none .none wr da de ns pm pr rs rd ig) ep)::(dl,listOf (its++exr') n')::(tups'++rest))→s'.os=os→AllBare s'.gens→Q (.ref ta) s')
  (kE:∀ (s':Shared) (e t:Addr) (msg:Str) (tm:Tok) (G':Heap),(∀ p∈kn,Aq p≠uri)→msg=Str.ofString "Namespace \""++uri++Str.ofString "\" is not declared in scope"→Fr g L G' m→G'.UpToSlots s'.heap→RaisedS base G' (envX name scope L a cd cl::outer) e (.type "ValueError") t [.str msg tm] ((x,instObj 150 dx)::(dx,dictOf (wd hsh tkn (.bool false) (.bool false) .none ev (.bool false) .none .none .none wr da de ns pm pr rs rd ig) ep)::(dl,listOf (its++exr) n)::(tups++rest)) s'.heap→s'.os=os→AllBare s'.gens→E (.ref e) s'),
  wpAny (model rw_dn0283_03.row.prog w) (A.deeper (envX name scope L a cd cl)) (call (.ref 90) (.ref x::args)) Q E s
theorem Hk:∀ {w A s E g os p zw zr mg mb L a m Q name scope cd cl base outer x dx dl hsh tkn wr da de ns pm pr mn rs rd ig its exr ep n dlv nlv la lo exs nps ev kn kvs tups rest q uri tag tq args v},Hy w A s E g os p zw zr mg mb L a m Q name scope cd cl base outer x dx dl hsh tkn wr da de ns pm pr mn rs rd ig its exr ep n dlv nlv la lo exs nps ev kn kvs tups rest q uri tag tq args v:=by
 refine @(Aa (Al neW)<|@(Aa neI<|@(Aa neI<|@(Aa neI<|@(Aa neI<|@(Aa neI<|@(Aa neI<|@(Bg neI<|let_mvar% ?n:=(fun w A s E g os p zw zr mg mb L a m Q name scope cd cl base outer x dx dl hsh tkn wr da de ns pm pr mn rs rd ig its exr ep n dlv nlv la lo exs nps ev kn kvs tups rest q uri tag tq args v=>?_:∀ a b c d e f g h i j k l m n o p q r s t u v w x y z a1 b1 c1 d1 e1 f1 g1 h1 i1 j1 k1 l1 m1 n1 o1 p1 q1 r1 s1 t1 u1 v1 w1 x1 y1 z1 a2 b2 c2 d2 e2,Hy a b c d e f g h i j k l m n o p q r s t u v w x y z a1 b1 c1 d1 e1 f1 g1 h1 i1 j1 k1 l1 m1 n1 o1 p1 q1 r1 s1 t1 u1 v1 w1 x1 y1 z1 a2 b2 c2 d2 e2);?n _ _ _ _ _ _ _ _ _ _ _ _ _ _ _ _ _ _ _ _ _ _ _ _ _ _ _ _ _ _ _ _ _ _ _ _ _ _ _ _ _ _ _ _ _ _ _ _ _ _ _ _ _ _ _ _ _))))))))
 intro XB TB B D F N o1 b1 G hDz hNz hDn nd hrest hex hA hk hh zq huri hq ht hn kS kE;have h1:∀ q∈[(x,instObj 150 dx),(dx,dictOf (wd hsh tkn (.bool false) (.bool false) .none ev (.bool false) .none .none .none wr da de ns pm pr rs rd ig) ep),(dl,listOf (its++exr) n)],q∈(x,instObj 150 dx)::(dx,dictOf (wd hsh tkn (.bool false) (.bool false) .none ev (.bool false) .none .none .none wr da de ns pm pr rs rd ig) ep)::(dl,listOf (its++exr) n)::(tups++rest):=Fc (.head _) (Fc (.tail _ (.head _)) (Fc (.tail _ (.tail _ (.head _))) (List.forall_mem_nil _)))
 have h2:∀ q∈tups++rest,q∈(x,instObj 150 dx)::(dx,dictOf (wd hsh tkn (.bool false) (.bool false) .none ev (.bool false) .none .none .none wr da de ns pm pr rs rd ig) ep)::(dl,listOf (its++exr) n)::(tups++rest):=fun q hq=>.tail _ (.tail _ (.tail _ hq))
 have h3:∀ q∈tups++rest,q.1∉([(x,instObj 150 dx),(dx,dictOf (wd hsh tkn (.bool false) (.bool false) .none ev (.bool false) .none .none .none wr da de ns pm pr rs rd ig) ep),(dl,listOf (its++exr) n)]:List (Addr × Obj)).map (·.1):=fun q hq=>Ab (hrest q hq).1 (Ab (hrest q hq).2.1 (Ab (hrest q hq).2.2 An))
 have hxl:x≠dl∧dx≠dl:=by simp at nd;exact⟨nd.1.2,nd.2⟩
 refine Lx (os:=os) [(x,instObj 150 dx),(dx,dictOf (wd hsh tkn (.bool false) (.bool false) .none ev (.bool false) .none .none .none wr da de ns pm pr rs rd ig) ep),(dl,listOf (its++exr) n)] (tups++rest) B D F N o1 b1 h1 h2 h3 ?_ hk
 with_reducible refine let_mvar% ?z1:=(fun g₂=>?_:Fa _);Aw neI (tie:Tie _ (type_of% ?z1)) (?z1 _);intro H₂ K₂ r₂ B₂ D₂ back backE
 have G₂:=G.keeps K₂;have hl:=hA.len;have hle:=hex.length;have hla:=G.la.length;rw [Array.length_toList] at hle hla
 have hz:(its++exr).size≤2900:=by rw [Array.size_append,hla,hle];rw [List.length_append,List.length_append] at hDn;omega
 refine Mo (dlv:=dlv) (nlv:=nlv) (dps:=la++exs++lo) (nps:=nps) (uri:=uri) (tag:=tag) (base:=base) (outer:=envX name scope L a cd cl::outer) (v:=v) (XB.keeps B₂.stays) (TB.keeps B₂.stays) H₂ ?a1 G₂.dl ?a2 ?a3 (Nat.lt_trans hDn (by decide)) hl.1 G₂.ns (fun z hz=>⟨G₂.nl z hz,hNz z hz⟩) G₂.np hl.2 hxl.1 hxl.2 (Nat.le_trans hz (by rw [sizeLine_eq];decide)) hh ?a4 hq ⟨Nat.le_trans (Dz uri huri) (by decide),ht⟩ hn ?s1 ?s2 (fun _=>B₂) ?s3
 case a1=>rw [List.map_append];exact G₂.de
 case a2 =>
  refine Fp hDz (Fc ?_ (List.forall_mem_nil _))
  have:(2:Int) ^ 63=9223372036854775808:=by decide
  show ((its++exr).size:Int)<2 ^ 63
  omega
 case a3 =>
  rw [Rb,Array.toList_append]
  exact(G₂.la.append (hex.mono fun _ _ z=>Bx (fun p hp=>r₂ p (Ml _ hp)) z)).append G₂.lo
 case a4=>exact Nat.lt_of_le_of_lt (Nat.le_of_eq rfl) (show A.depth+1<900 from Nat.lt_of_lt_of_le (Nat.succ_lt_succ zq) (by decide))
 case s1 =>
  intro s' txt ta t1 t2 t3 hqn l1 l2 l3 H';obtain⟨pf,p1,p2,p3,_⟩:=hA.some huri hqn;obtain⟨F',N',hne,o',b'⟩:=back _ _ H'
  refine kS s' ta txt pf t1 t2 t3 exr exs tups n p1 p2 p3 ⟨_,hqn⟩ hqn hex (Nat.le_succ _) (fun _=>Nat.le_refl _) hA (Fc ⟨⟨Nat.ne_of_gt l1,Nat.ne_of_gt l2,Nat.ne_of_gt l3⟩,.inr fun r hr=>hne (ta,_) (.head _) r (Mr _ hr)⟩ fun p hp=>⟨hrest p (Ml _ hp),.inl hp⟩) F' N' o' b'
 case s2 =>
  intro s' txt pf ta tb t1 t2 t3 t4 t5 hqn l1 l2 l3 l4 l5 l6 lne H';obtain⟨pf',p1,p2,p3,p4⟩:=hA.some huri hqn
  obtain rfl:pf=pf':=by
   rcases p4 with z | z
   ·cases z
   ·injection z with z;injection z with _ z
  obtain⟨F',N',hne,o',b'⟩:=back _ _ H'
  have hA':AskOk kn (la++(exs++[(uri,pf)])++lo) nps:=by
   rw [← List.append_assoc,← p2];exact hA.more p1
  refine kS s' ta txt pf t1 t2 t3 (exr.push (.ref tb)) (exs++[(uri,pf)]) ((tb,Ad #[.str uri t4,.str pf t5])::tups) (n+1) p1 p2 p3 ⟨_,hqn⟩ ?_ ?_ ?_ (fun z=>by rw [hqn] at z;injection z with z;injection z with _ z;cases z) hA' ?_ F' ?_ o' b'
  ·rw [← List.append_assoc];exact hA.again huri hqn
  ·rw [Array.toList_push]
   exact(hex.mono fun _ _ z=>z.mono fun p hp=>.tail _ hp).snoc ⟨tb,t4,t5,rfl,.head _⟩
  ·rw [List.length_append];exact Nat.le_refl _
  ·exact Fc ⟨⟨Nat.ne_of_gt l1,Nat.ne_of_gt l2,Nat.ne_of_gt l3⟩,.inr fun r hr=>hne (ta,_) (.head _) r (Mr _ hr)⟩ (Fc ⟨⟨Nat.ne_of_gt l4,Nat.ne_of_gt l5,Nat.ne_of_gt l6⟩,.inr fun r hr=>hne (tb,_) (.tail _ (.head _)) r (Mr _ hr)⟩ fun p hp=>⟨hrest p (Ml _ hp),.inl hp⟩)
  ·rw [show its++exr.push (.ref tb)=(its++exr).push (.ref tb) from by apply Array.ext';simp]
   refine News.sub N' ?_
   refine Fc (.head _) (Fc (.tail _ (.tail _ (.head _))) (Fc (.tail _ (.tail _ (.tail _ (.head _)))) (Fc (.tail _ (.tail _ (.tail _ (.tail _ (.head _))))) (Fp (Fc (.tail _ (.head _)) fun p hp=>?_) fun p hp=>?_))))
   ·exact .tail _ (.tail _ (.tail _ (.tail _ (.tail _ (show p∈tups++rest from Ml _ hp)))))
   ·exact .tail _ (.tail _ (.tail _ (.tail _ (.tail _ (show p∈tups++rest from Mr _ hp)))))
 case s3 =>
  intro e t msg tm s' hqn hm R U o' b';obtain⟨_,G',F',U',R'⟩:=backE s' _ e _ t _ R U;exact kE s' e t msg tm G' (hA.none huri hqn) hm F' U' R' o' b'
noncomputable def Fu(w:World)(A:Around)(s:Shared)(E:Value→Shared→Prop)(g:Heap)(os:OsState)(p:Program)(zw:List Str)(zr:ExcName→Option Value)(mg mb:Str→Option Value)(L a:Addr)(m:Str→Option Value)(Q:Value→Shared→Prop)(name:Str)(scope:Scope)(cd:Value)(cl:List (Str × Addr))(base:Heap)(outer:List Env)(x dx dl:Addr)(hsh:Nat→Int)(tkn:Nat→Tok)(wr da de ns pm pr mn:Addr)(rs rd:Bool)(ig:Int)(its:Array Value)(ep:Nat)(dlv nlv:List (Addr × Array Value))(la lo dps nps:List Pr)(ev:Value)(kn:List Str)(kvs:List (Str × Value))(rest:List (Addr × Obj))(t pf nm:Str)(tt:Tok):Prop :=
 ∀ (XB:(hd03.heap_39 w.params).In base) (TB:Top p zw zr mg mb base) (B:Below A base outer g) (D:KtsDicts (outer.filterMap (·.frame)) g) (F:Fr g L s.heap m) (N:News g L s.heap ((x,instObj 150 dx)::(dx,dictOf (wd hsh tkn (.bool false) (.bool false) .none ev (.bool false) .none .none .none wr da de ns pm pr rs rd ig) ep)::rest)) (o1:s.os=os) (b1:AllBare s.gens) (G:AskG rw_dn0283_03.row.prog w g de ns mn dl its dlv nlv la lo nps kvs) (hNz:∀ p∈nlv,(p.2.size:Int)<2 ^ 63) (hrest:∀ p∈rest,p.1≠x∧p.1≠dx) (hA:AskOk kn dps nps) (hk:scope.kind=.function) (hh:A.handled=none) (zq:A.depth<890) (hc:cutL t (Str.ofString ":") pf nm=true) (ht:t.length≤1000) (hpn:pf.length≤1000∧nm.length≤1000)
  (kS:∀ (s':Shared) (u txt:Str) (tx:Tok),res pf nps=some u→txt=Str.ofString "{"++u++Str.ofString "}"++nm→Fr g L s'.heap m→News g L s'.heap ((x,instObj 150 dx)::(dx,dictOf (wd hsh tkn (.bool false) (.bool false) .none ev (.bool false) .none .none .none wr da de ns pm pr rs rd ig) ep)::rest)→s'.os=os→AllBare s'.gens→Q (.str txt tx) s')
  (kE:∀ (s':Shared) (e t':Addr) (msg:Str) (tm:Tok) (G':Heap),res pf nps=none→msg=Str.ofString "Prefix "++pf++Str.ofString " of QName \""++t++Str.ofString "\" is not declared in scope"→Fr g L G' m→G'.UpToSlots s'.heap→RaisedS base G' (envX name scope L a cd cl::outer) e (.type "ValueError") t' [.str msg tm] ((x,instObj 150 dx)::(dx,dictOf (wd hsh tkn (.bool false) (.bool false) .none ev (.bool false) .none .none .none wr da de ns pm pr rs rd ig) ep)::rest) s'.heap→s'.os=os→AllBare s'.gens→E (.ref e) s'),
  wpAny (model rw_dn0283_03.row.prog w) (A.deeper (envX name scope L a cd cl)) (call (.ref 82) [.ref x,.str t tt]) Q E s
theorem Ez:∀ {w A s E g os p zw zr mg mb L a m Q name scope cd cl base outer x dx dl hsh tkn wr da de ns pm pr mn rs rd ig its ep dlv nlv la lo dps nps ev kn kvs rest t pf nm tt},Fu w A s E g os p zw zr mg mb L a m Q name scope cd cl base outer x dx dl hsh tkn wr da de ns pm pr mn rs rd ig its ep dlv nlv la lo dps nps ev kn kvs rest t pf nm tt:=by
 refine @(Aa (Al neW)<|@(Aa neI<|@(Aa neI<|@(Aa neI<|@(Aa neI<|@(Aa neI<|@(Ey neI<|let_mvar% ?n:=(fun w A s E g os p zw zr mg mb L a m Q name scope cd cl base outer x dx dl hsh tkn wr da de ns pm pr mn rs rd ig its ep dlv nlv la lo dps nps ev kn kvs rest t pf nm tt=>?_:∀ a b c d e f g h i j k l m n o p q r s t u v w x y z a1 b1 c1 d1 e1 f1 g1 h1 i1 j1 k1 l1 m1 n1 o1 p1 q1 r1 s1 t1 u1 v1 w1 x1 y1 z1,Fu a b c d e f g h i j k l m n o p q r s t u v w x y z a1 b1 c1 d1 e1 f1 g1 h1 i1 j1 k1 l1 m1 n1 o1 p1 q1 r1 s1 t1 u1 v1 w1 x1 y1 z1);?n _ _ _ _ _ _ _ _ _ _ _ _ _ _ _ _ _ _ _ _ _ _ _ _ _ _ _ _ _ _ _ _ _ _ _ _ _ _ _ _ _ _ _ _ _ _ _ _ _ _ _ _)))))))
 intro XB TB B D F N o1 b1 G hNz hrest hA hk hh zq hc ht hpn kS kE;have h1:∀ q∈[(x,instObj 150 dx),(dx,dictOf (wd hsh tkn (.bool false) (.bool false) .none ev (.bool false) .none .none .none wr da de ns pm pr rs rd ig) ep)],q∈(x,instObj 150 dx)::(dx,dictOf (wd hsh tkn (.bool false) (.bool false) .none ev (.bool false) .none .none .none wr da de ns pm pr rs rd ig) ep)::rest:=Fc (.head _) (Fc (.tail _ (.head _)) (List.forall_mem_nil _))
 have h2:∀ q∈rest,q∈(x,instObj 150 dx)::(dx,dictOf (wd hsh tkn (.bool false) (.bool false) .none ev (.bool false) .none .none .none wr da de ns pm pr rs rd ig) ep)::rest:=fun q hq=>.tail _ (.tail _ hq)
 have h3:∀ q∈rest,q.1∉([(x,instObj 150 dx),(dx,dictOf (wd hsh tkn (.bool false) (.bool false) .none ev (.bool false) .none .none .none wr da de ns pm pr rs rd ig) ep)]:List (Addr × Obj)).map (·.1):=fun q hq=>Ab (hrest q hq).1 (Ab (hrest q hq).2 An)
 refine Lx (os:=os) [(x,instObj 150 dx),(dx,dictOf (wd hsh tkn (.bool false) (.bool false) .none ev (.bool false) .none .none .none wr da de ns pm pr rs rd ig) ep)] rest B D F N o1 b1 h1 h2 h3 ?_ hk
 with_reducible refine let_mvar% ?z1:=(fun g₂=>?_:Fa _);Aw neI (tie:Tie _ (type_of% ?z1)) (?z1 _);intro H₂ K₂ r₂ B₂ D₂ back backE
 have G₂:=G.keeps K₂
 refine Pz (nlv:=nlv) (nps:=nps) (base:=base) (outer:=envX name scope L a cd cl::outer) (pf:=pf) (nm:=nm) (XB.keeps B₂.stays) (TB.keeps B₂.stays) H₂ G₂.ns (fun z hz=>⟨G₂.nl z hz,hNz z hz⟩) G₂.np hA.len.2 hh ?a4 hc ht hpn ?s1 (fun _=>B₂) ?s3
 case a4=>exact Nat.lt_of_le_of_lt (Nat.le_of_eq rfl) (show A.depth+1<900 from Nat.lt_of_lt_of_le (Nat.succ_lt_succ zq) (by decide))
 case s1 =>
  intro s' u txt tx hr htx H';obtain⟨F',N',_,o',b'⟩:=back _ _ H';exact kS s' u txt tx hr htx F' N' o' b'
 case s3 =>
  intro e t' msg tm s' hr hm R U o' b';obtain⟨_,G',F',U',R'⟩:=backE s' _ e _ t' _ R U;exact kE s' e t' msg tm G' hr hm F' U' R' o' b'
end
theorem rs11:True∧True:=by
 (try walk1);(try w_top off)
 all_goals (first | trivial | exact ⟨trivial,trivial⟩)
section
open PyProof.Rows.LCg
noncomputable abbrev Ba(a b c d:Tok):Array Value:=#[Value.str (Str.ofString "u") a,.str (Str.ofString "v") b,.str (Str.ofString "w") c,.str (Str.ofString "z") d]
theorem four_at{a b c d:Tok}{i:Nat}{v:Value}(h:(Ba a b c d)[i]?=some v):∃ u t,u∈four∧v=.str u t:=by
 have:=Array.mem_of_getElem? h
 simp only [List.mem_toArray,List.mem_cons,List.not_mem_nil,or_false] at this
 rcases this with rfl | rfl | rfl | rfl
 ·exact⟨_,_,by decide +kernel,rfl⟩
 ·exact⟨_,_,by decide +kernel,rfl⟩
 ·exact⟨_,_,by decide +kernel,rfl⟩
 ·exact⟨_,_,by decide +kernel,rfl⟩
theorem Oj.out{A:Around}{base:Heap}{outer:List Env}{g:Heap}{x dx dl K cu cm ax:Addr}{od ok oa om:Obj}{its:Array Value}{m0:Str→Option Value}{kn:List Str}{la lo nps:List Pr}{b:Nat}{g':Heap}{i:Nat}{m:Str→Option Value}{own:List (Addr × Obj)}{P:Prop}(h:Oj A base outer g x dx dl K cu cm ax od ok oa om its m0 kn la lo nps b g' i m own)
  (k:∀ (ou:Obj) (n:Nat) (exr:Array Value) (exs:List Pr) (tups:List (Addr × Obj)) (u1 u2:Option Value) (u3 u4 u5 u6 cv:Option Value),KtsTurn (outer.filterMap (·.frame)) g g'→Below A base outer g'→KtsDicts (outer.filterMap (·.frame)) g' →
   m=m6 "error" "some" "written" "prefix" "text" "name" m0 u1 u2 u3 u4 u5 u6→own=(ax,oa)::(K,ok)::(cm,om)::(cu,ou)::(x,instObj 150 dx)::(dx,od)::(dl,listOf (its++exr) n)::tups→ou.data=.cell cv →
   All2 (Ak tups) exr.toList exs→exs.length≤b+i→AskOk kn (la++exs++lo) nps→(∀ p∈tups,p.1≠x∧p.1≠dx∧p.1≠dl∧p.1≠cu)→P):P:=by
 obtain⟨ou,n,exr,exs,tups,u1,u2,u3,u4,u5,u6,cv,h1,h2,h3,h4,h5,h6,h7,h8,h9,h10⟩:=h;exact k ou n exr exs tups u1 u2 u3 u4 u5 u6 cv h1 h2 h3 h4 h5 h6 h7 h8 h9 h10
noncomputable abbrev askM(x dl K sc:Addr)(n:Nat)(t:Tok):Str→Option Value:=fun y=>if y=Str.ofString "size" then some (Value.int (n:Int) t) else if y=Str.ofString "level" then some (Value.ref dl) else if y=Str.ofString "known" then some (Value.ref K) else if y=Str.ofString "scopes" then some (Value.ref sc) else if y=Str.ofString "target" then some (Value.ref x) else none
section
open PyProof.V PySem.Spec
variable{prog:Program}{w:World}{A:Around}{E:Value→Shared→Prop}{s:Shared}
theorem Le:∀ ps:List (Str × Tok),(∀ p∈ps,PyData.strOk p.1=true)→PyData.canLayAll0 (ps.map fun p=>PyData.str p.1)=true∧PyData.depthAll (ps.map fun p=>PyData.str p.1)=0
 | [],_=>⟨rfl,rfl⟩
 | p::r,h=>by simp [PyData.canLayAll0,PyData.canLay0,PyData.depthAll,PyData.depth,Le r fun q hq=>h q (.tail _ hq),h p (.head _)]
theorem Dq(ps:List (Str × Tok))(h:∀ p∈ps,PyData.strOk p.1=true):SeqAt.shaped (.list (ps.map fun p=>PyData.str p.1))=true:=by
 simp [SeqAt.shaped,PyData.canLay0,PyData.depth,Le ps h]
theorem Ck:∀ ps:List (Str × Tok),CarriedAll (strValues ps) (ps.map fun p=>PyData.str p.1)
 | []=>.nil
 | p::r=>.cons (.str _ _) (Ck r)
theorem Si(ps:List (Str × Tok)):PyData.eqv (.list (ps.map fun p=>PyData.str p.1)) (.list [])=ps.isEmpty:=by
 cases ps<;>simp [PyData.eqv,PyData.eqvAll]
theorem Qn{a b:Addr}{ps:List (Str × Tok)}{Q:Value→Shared→Prop}(ha:s.heap.IsList a (strValues ps).toArray)(hb:s.heap.IsList b #[])(hp:∀ p∈ps,PyData.strOk p.1=true)(hu:A.units+64<cLine)(h:Q (.bool ps.isEmpty) s) :
  wpAny (model prog w) A (compareOp .Eq (.ref a) (.ref b)) Q E s :=
 eq_dataH (reads_newData ha (Ck ps)) (reads_newData (ys:=[]) hb .nil) (Dq ps hp) (Dq [] fun _ z=>nomatch z) hu (by rw [Si];exact h)
theorem Fj{a b:Addr}{ps:List (Str × Tok)}{Q:Value→Shared→Prop}(ha:s.heap.IsList a (strValues ps).toArray)(hb:s.heap.IsList b #[])(hp:∀ p∈ps,PyData.strOk p.1=true)(hu:A.units+64<cLine)(h:Q (.bool (!ps.isEmpty)) s) :
  wpAny (model prog w) A (compareOp .NotEq (.ref a) (.ref b)) Q E s :=
 ne_dataH (reads_newData ha (Ck ps)) (reads_newData (ys:=[]) hb .nil) (Dq ps hp) (Dq [] fun _ z=>nomatch z) hu (by rw [Si];exact h)
end
theorem Rp:∀ u∈four,Ek (Str.ofString "{"++u++Str.ofString "}x") u "x"=true:=by decide +kernel
theorem Ux{a b:Str}(ha:a.length≤1000)(hb:b.length≤1000):a.length+b.length≤sizeLine:=Nat.le_trans (Nat.add_le_add ha hb) (by rw [sizeLine_eq];decide)
theorem five_ok:∀ p∈five,PyData.strOk p=true:=by decide +kernel
local macro_rules | `(tactic| walk_at "binaryOp Add str str")=>`(tactic| ((with_reducible show wpAny _ _ (binaryOp Operator.Add (.str _ _) (.str _ _)) _ _ _);refine PyProof.Rows.add_str ?_ (Ux (by first | with_reducible assumption | decide) (by first | with_reducible assumption | decide));walk_at "eps2"))
section
open PyProof.V PySem.Spec
variable{prog:Program}{w:World}{A:Around}{E:Value→Shared→Prop}{s:Shared}{h₀:Heap}{L:Addr}{m:Str→Option Value}{news:List (Addr × Obj)}
theorem Xe{value slice:PySem.Expr}{t:Addr}{v:Value}{vs:List Value}{u:Tok}{Q:Value→Shared→Prop}(F:Fr h₀ L s.heap m)(N:News h₀ L s.heap news)(ht:IsTup s.heap t (v::vs).toArray)(hz:vs.length≤1000)
  (h:∀ D h',Fr h₀ L h' m→News h₀ L h' ((D,Ad vs.toArray)::news)→(∀ p∈news,p.1<D)→Q (.ref D) { s with heap:=h' })
  (hs:subscripted slice false (.ref t) (.ref s.heap.objs.size)=operate [.ref s.heap.objs.size,.ref t] (getItem (.ref t) (.ref s.heap.objs.size)):=by with_unfolding_all rfl)
  (hg:∀ r,letTemporaryGo value (.ref t) r=pure ():=by intro _;with_unfolding_all rfl) :
  wpAny (model prog w) A (subscriptTail value slice (.ref t) (.ref s.heap.objs.size)) Q E { s with heap:=s.heap.push { cls:=.type "slice",data:=.fields #[.int (1:Nat) u,.none,.none] } } :=
 slice_tuple_from (a:=1) F N ht (Nat.le_refl _) (by simp) (fun h' F' N'=>h _ h' F' N' fun p hp=>Nat.lt_succ_of_lt (Heap.lt_size (N p hp).1)) hs hg (by rw [sizeLine_eq];simp;exact(Nat.le_of_not_lt fun hn1=>fk [_] (.c 1 (.v 0) (.k 1000) (.c 1 (.a (.k 16777215) (.k 1)) (.v 0) (.k 0))) rfl hz hn1))
theorem eqv_refl:∀ ps:List (Str × Tok),PyData.eqvAll (ps.map fun p=>PyData.str p.1) (ps.map fun p=>PyData.str p.1)=true
 | []=>by simp [PyData.eqvAll]
 | p::r=>by simp [PyData.eqvAll,PyData.eqv,eqv_refl r]
theorem Lg(ps:List (Str × Tok))(h:∀ p∈ps,PyData.strOk p.1=true):SeqAt.shaped (.tuple (ps.map fun p=>PyData.str p.1))=true:=by
 simp [SeqAt.shaped,PyData.canLay0,PyData.depth,Le ps h]
theorem tup_ne{a b:Addr}{ps qs:List (Str × Tok)}{Q:Value→Shared→Prop}(ha:IsTup s.heap a (strValues ps).toArray)(hb:IsTup s.heap b (strValues qs).toArray)(he:qs.map (·.1)=ps.map (·.1))(hp:∀ p∈ps,PyData.strOk p.1=true)(hu:A.units+64<cLine)(h:Q (.bool false) s) :
  wpAny (model prog w) A (compareOp .NotEq (.ref a) (.ref b)) Q E s:=by
 have e:(qs.map fun p=>PyData.str p.1)=ps.map fun p=>PyData.str p.1:=by
  have:=congrArg (List.map PyData.str) he;rw [List.map_map,List.map_map] at this;exact this
 have c:=Ck qs;rw [e] at c;refine ne_dataH (reads_newDataT ha (Ck ps)) (reads_newDataT hb c) (Lg ps hp) (Lg ps hp) hu ?_;rw [PyData.eqv,eqv_refl];exact h
end
theorem Sk:∀ p∈four,PyData.strOk p=true:=by decide +kernel
theorem txt_ok:∀ p∈five,PyData.strOk (p++":"++Str.ofString "x")=true:=by decide +kernel
theorem x_ok:PyData.strOk (Str.ofString "x")=true:=by decide +kernel
theorem braX(u:Str):Str.ofString "{"++u++Str.ofString "}"++Str.ofString "x"=Str.ofString "{"++u++Str.ofString "}x":=by rw [PySem.Str.append_assoc];rfl
theorem txt_len:∀ p∈five,(p++":"++Str.ofString "x").length≤1000:=by decide +kernel
theorem Gx{prog:Program}{w:World}{A:Around}{E:Value→Shared→Prop}{s:Shared}{x:Str}{t u:Tok}{Q:Value→Shared→Prop}(h:Q (.bool false) s):wpAny (model prog w) A (compareOp .NotEq (.str x t) (.str x u)) Q E s :=
 ne_str (by rw [show (x != x)=false from by simp];exact h)
section
variable{prog:Program}{w:World}{A:Around}{E:Value→Shared→Prop}{s:Shared}
noncomputable def Pg(x:Str):Value→Bool
 | .str q _=>q == x
 | _=>false
theorem Sg(ps:List (Str × Tok))(x:Str):(strValues ps).toArray.any (Pg x)=decide (x∈ps.map (·.1)):=by
 rw [List.any_toArray]
 induction ps with
 | nil=>rfl
 | cons p r ih =>
  show (Pg x (.str p.1 p.2) || (strValues r).any (Pg x))=_
  rw [ih]
  show ((p.1 == x) || decide (x∈r.map (·.1)))=decide (x∈p.1::r.map (·.1))
  by_cases h:p.1=x
  ·rw [h,beq_self_eq_true,Bool.true_or];exact(decide_eq_true (List.mem_cons_self)).symm
  ·rw [beq_eq_false_iff_ne.mpr h,Bool.false_or]
   exact decide_eq_decide.mpr ⟨fun z=>.tail _ z,fun z=>(List.mem_cons.mp z).resolve_left (Ne.symm h)⟩
theorem in_strs{a:Addr}{ps:List (Str × Tok)}{x:Str}{t:Tok}{Q:Value→Shared→Prop}(ha:s.heap.IsList a (strValues ps).toArray)(h:Q (.bool (decide (x∈ps.map (·.1)))) s) :
  wpAny (model prog w) A (compareOp .In (.str x t) (.ref a)) Q E s :=
 SeqAt.in_listAt (Pg x) ha (fun y hy=>by
  obtain⟨p,_,rfl⟩:=List.mem_map.mp (show y∈strValues ps by simpa using hy)
  exact SeqAt.EqAt.str_str _ _ _ _) (by rw [Sg];exact h)
theorem Rr{a:Addr}{ps:List (Str × Tok)}{x:Str}{t:Tok}{Q:Value→Shared→Prop}(ha:s.heap.IsList a (strValues ps).toArray)(h:Q (.bool (!decide (x∈ps.map (·.1)))) s) :
  wpAny (model prog w) A (compareOp .NotIn (.str x t) (.ref a)) Q E s :=
 SeqAt.notIn_listAt (Pg x) ha (fun y hy=>by
  obtain⟨p,_,rfl⟩:=List.mem_map.mp (show y∈strValues ps by simpa using hy)
  exact SeqAt.EqAt.str_str _ _ _ _) (by rw [Sg];exact h)
end
theorem six_at{i:Nat}{v:Value}(h:SignAt (Str.ofString "pbqcrs") i v):∃ q t,q∈six∧v=.str q t:=by
 obtain⟨c,u,hc,rfl⟩:=h;refine⟨_,_,?_,rfl⟩
 have hb:∀ c∈(Str.ofString "pbqcrs").cps.toList,(⟨#[c]⟩:Str)∈six:=by decide +kernel
 exact hb c (by rw [← Array.getElem?_toList] at hc;exact List.mem_of_getElem? hc)
theorem braY(u:Str):Str.ofString "{"++u++Str.ofString "}"++Str.ofString "y"=Str.ofString "{"++u++Str.ofString "}y":=by rw [PySem.Str.append_assoc];rfl
theorem six_txt(p:Str):p++Str.ofString ":"++Str.ofString "y"=p++Str.ofString ":y":=by rw [PySem.Str.append_assoc];rfl
theorem Ta:∀ p∈six,(p++Str.ofString ":y").length≤1000:=by decide +kernel
theorem Xg:∀ p∈five,(p++":"++Str.ofString "y").length≤1000:=by decide +kernel
theorem Oj.shift{A:Around}{base:Heap}{outer:List Env}{g:Heap}{x dx dl K cu cm ax:Addr}{od ok oa om:Obj}{its:Array Value}{m0:Str→Option Value}{kn:List Str}{la lo nps:List Pr}{b:Nat}{g':Heap}{i:Nat}{m:Str→Option Value}{own:List (Addr × Obj)}(h:Oj A base outer g x dx dl K cu cm ax od ok oa om its m0 kn la lo nps b g' i m own):Oj A base outer g x dx dl K cu cm ax od ok oa om its m0 kn la lo nps (b+i) g' 0 m own:=h
noncomputable def Gp(w:World)(A:Around)(s:Shared)(g:Heap)(os:OsState)(p:Program)(zw:List Str)(zr:ExcName→Option Value)(mg mb:Str→Option Value)(R:Result→Shared→Prop)(x dx dl:Addr)(hsh:Nat→Int)(tkn:Nat→Tok)(wr da de ns pm pr:Addr)(rs rd:Bool)(ig:Int)(its:Array Value)(ep n:Nat)(dlv nlv:List (Addr × Array Value))(la lo nps:List Pr)(ev:Value)(base:Heap)(outer:List Env)(sc mn:Addr)(scs:List (Addr × List (Str × Tok)))(kn:List Str)(kvs:List (Str × Value)):Prop :=
 ∀ (XB:(hd03.heap_39 w.params).In base) (TB:Top p zw zr mg mb base) (B:Below A base outer g) (D:KtsDicts (outer.filterMap (·.frame)) g) (H:Ok g os [(x,instObj 150 dx),(dx,dictOf (wd hsh tkn (.bool false) (.bool false) .none ev (.bool false) .none .none .none wr da de ns pm pr rs rd ig) ep),(dl,listOf its n)] s) (G:AskG rw_dn0283_03.row.prog w g de ns mn dl its dlv nlv la lo nps kvs) (hDz:∀ p∈dlv,(p.2.size:Int)<2 ^ 63) (hNz:∀ p∈nlv,(p.2.size:Int)<2 ^ 63) (hDn:(la++lo).length<2000) (nd:([x,dx,dl]:List Addr).Nodup) (hSc:g.IsList sc (scs.map fun p=>.ref p.1).toArray) (hSl:∀ p∈scs,g.IsList p.1 (strValues p.2).toArray) (hSz:scs.length≤100) (hkn:(scs.flatMap (·.2)).map (·.1)=kn) (hkz:kn.length≤200) (hmf:mn∉outer.filterMap (·.frame)) (hme:∀ q∈five,∃ t,valueAt kvs q=some (.str (Aq q) t)) (hA:AskOk kn (la++lo) nps) (hh:A.handled=none) (zq:A.depth<600) (hu:A.units<8000) (hR:∀ s' g' n',KtsTurn (outer.filterMap (·.frame)) g g'→Ok g' os [(x,instObj 150 dx),(dx,dictOf (wd hsh tkn (.bool false) (.bool false) .none ev (.bool false) .none .none .none wr da de ns pm pr rs rd ig) ep),(dl,listOf its n')] s'→R (.ok (.ret (.bool true))) s'),codeAny (model rw_dn0283_03.row.prog w) A (.call (.ref 173) ⟨[.ref x,.ref sc,.ref mn],[]⟩) R s
theorem Qu:∀ {w A s g os p zw zr mg mb R x dx dl hsh tkn wr da de ns pm pr rs rd ig its ep n dlv nlv la lo nps ev base outer sc mn scs kn kvs},Gp w A s g os p zw zr mg mb R x dx dl hsh tkn wr da de ns pm pr rs rd ig its ep n dlv nlv la lo nps ev base outer sc mn scs kn kvs:=by
 refine @(Aa (Al neW)<|@(Aa neI<|@(Aa neI<|@(Aa neI<|@(Aa neI<|@(Bg neI<|let_mvar% ?n:=(fun w A s g os p zw zr mg mb R x dx dl hsh tkn wr da de ns pm pr rs rd ig its ep n dlv nlv la lo nps ev base outer sc mn scs kn kvs=>?_:∀ a b c d e f g h i j k l m n o p q r s t u v w x y z a1 b1 c1 d1 e1 f1 g1 h1 i1 j1 k1 l1 m1 n1 o1,Gp a b c d e f g h i j k l m n o p q r s t u v w x y z a1 b1 c1 d1 e1 f1 g1 h1 i1 j1 k1 l1 m1 n1 o1);?n _ _ _ _ _ _ _ _ _ _ _ _ _ _ _ _ _ _ _ _ _ _ _ _ _ _ _ _ _ _ _ _ _ _ _ _ _ _ _ _ _))))))
 intro XB TB B D H G hDz hNz hDn nd hSc hSl hSz hkn hkz hmf hme hA hh zq hu hR;have X:(hd03.heap_39 w.params).In g:=XB.keeps B.stays;have T:Top p zw zr mg mb g:=TB.keeps B.stays;revert XB X
 k_fill
 intro XB X
 refine' Vj (fun y=>if y=Str.ofString "scopes" then some (Value.ref sc) else if y=Str.ofString "target" then some (Value.ref x) else none) H X T ?k6 ?k7 (Nat.lt_trans zq (by decide)) ?k9 ?kB ?kD ?km ?_ ?c1 ?c2 ?c3
 (case k6=>k_is)
 (case k7=>k_is)
 (case k9=>exact BindsTo.of_eq (binds:=[("target",.ref x),("scopes",.ref sc),("means",.ref mn)]) rfl)
 (case kB=>exact kindsX rfl)
 (case kD=>decide +kernel)
 (case km=>exact fun _=>rfl)
 (case c1=>exact rfl)
 (case c2=>exact rfl)
 (case c3=>exact rfl)
 k_whole
 with_reducible refine let_mvar% ?zq1:=(fun L' h1 k0 cells=>?_:Fa4 _);Ax neI (Cy:Tie _ (type_of% ?zq1)) (?zq1 _ _ _ _)
 intro F1 N1 Y1 l1;have hy0:=CellsAre.two Y1
 revert hy0;refine Hm ?_;with_reducible refine let_mvar% ?zq2:=(fun ou om=>?_:Fa2 _);Ah neI (Ar:Tie _ (type_of% ?zq2)) (?zq2 _ _);rintro⟨rfl,hq0',hs0'⟩
 have hcu:ou.data=.cell none:=hq0';have hcm:om.data=.cell (some (.ref mn)):=hs0';clear Y1 hq0' hs0';dsimp only [List.cons_append,List.nil_append] at N1
 (try k_fold)
 refine wpAny_execs_cons ?_
 have hks:(scs.map fun p=>(p.1,(strValues p.2).toArray)).flatMap (fun l=>l.2.toList)=strValues (scs.flatMap (·.2)):=by
  unfold strValues;rw [List.flatMap_map,List.map_flatMap]
 have hkl:(strValues (scs.flatMap (·.2))).length≤200:=by
  rw [← hkn,List.length_map] at hkz;unfold strValues;rw [List.length_map];exact hkz
 refine Jl (h₀:=g) (L:=L') (m:=fun y=>if y=Str.ofString "scopes" then some (Value.ref sc) else if y=Str.ofString "target" then some (Value.ref x) else none) (cl:=[]) (os:=os) rfl rfl rfl (by decide) rfl (by decide) rfl rfl (by decide) (by decide) (fun _=>rfl) rfl rfl ?_
 repeat' (walk_at "go")
 refine⟨sc,scs.map fun p=>(p.1,(strValues p.2).toArray),_,rfl,hh,F1,N1,H.os,H.bare,.inl (by rw [List.map_map];exact hSc),?sl,?z1,?z2,?_⟩
 case sl =>
  intro l hl;obtain⟨q,hq,rfl⟩:=List.mem_map.mp hl;exact .inl (hSl q hq)
 case z1=>rw [List.length_map];exact Nat.le_trans hSz (by decide)
 case z2=>rw [hks];exact Nat.le_trans hkl (by decide)
 rw [hks]
 with_reducible refine let_mvar% ?zq5:=(fun K s2=>?_:Fa2 _);Ah neAS (Ar:Tie _ (type_of% ?zq5)) (?zq5 _ _)
 intro F2 N2 hKd os2 b2;dsimp only
 have hu64:∀ env:Env,(A.deeper env).units+64<cLine:=fun env=>by
  show _<cLine
  simp only [Around.deeper,cLine]
  exact(Nat.lt_of_not_le fun hn1=>fk [_] (.c 1 (.a (.v 0) (.k 1)) (.k 8000) (.c 1 (.k 9900) (.a (.a (.v 0) (.k 3)) (.k 64)) (.k 0))) rfl hu hn1)
 have hiz:(its.size:Int)<2 ^ 63:=by
  have h1:=G.la.length;rw [List.length_append] at hDn;rw [Array.length_toList] at h1
  have:(2:Int) ^ 63=9223372036854775808:=by decide
  omega
 repeat' (first
  | ((with_reducible show wpAny _ _ (subscriptTail _ _ (.ref de) (.int (-1) _)) _ _ _);refine Cu (vs:=dlv.map fun p=>.ref p.1) (v:=.ref dl) (Ae (Fr.keep (by k_asm)) G.de) ?_)
  | ((with_reducible show wpAny _ _ (call (.builtin "len") _) _ _ _);(rename News ..=>N9);refine PyProof.Rows.len_list (items:=its) (by exact⟨_,(N9 (dl,listOf its n) (by k_mem)).1,rfl,_,rfl⟩) hiz ?_;(try dsimp only))
  | ((with_reducible show wpAny _ _ (exec (Stmt.For _ _ _ _ _) _) _ _ _);refine wpAny_For ?_)
  | ((fail_if_success (with_reducible show wpAny _ _ (pyIter _) _ _ _));walk_at "go"))
 rename Fr ..=>F3
 rename News ..=>N3
 rename_i ax h3 l3
 have hz:∃ tz ta tb tc td:Tok,Fr g L' h3 (askM x dl K sc its.size tz)∧News g L' h3 ((ax,listOf (Ba ta tb tc td) 0)::(K,lst (strValues (scs.flatMap (·.2))))::(L'+1,om)::(L'+1+1,ou)::(x,instObj 150 dx)::(dx,dictOf (wd hsh tkn (.bool false) (.bool false) .none ev (.bool false) .none .none .none wr da de ns pm pr rs rd ig) ep)::(dl,listOf (its++#[]) n)::[]):=⟨_,_,_,_,_,F3,by rw [Array.append_empty];exact News.sub N3 (by walk_at "l_sub")⟩
 revert hz;refine exi5 ?_;with_reducible refine let_mvar% ?zq6:=(fun tz ta tb tc td=>?_:Fa5 _);Ci neI (Hf:Tie _ (type_of% ?zq6)) (?zq6 _ _ _ _ _);rintro⟨F3,N3⟩
 have q1:x<L':=l1 (x,instObj 150 dx) (.head _);have q2:dx<L':=l1 (dx,dictOf (wd hsh tkn (.bool false) (.bool false) .none ev (.bool false) .none .none .none wr da de ns pm pr rs rd ig) ep) (.tail _ (.head _));have q3:dl<L':=l1 (dl,listOf its n) (.tail _ (.tail _ (.head _)))
 have up2:∀ {a:Nat},a<L'→a<L'+1+1:=fun h=>Nat.lt_succ_of_lt (Nat.lt_succ_of_lt h)
 have r1:ax≠L'+1+1:=Nat.ne_of_gt l3.2.1;have r2:K≠L'+1+1:=Ne.symm (hKd (L'+1+1,ou) (.head _));have r3:L'+1≠L'+1+1:=Nat.ne_of_lt (Nat.lt_succ_self _);have r4:∀ p∈([(x,instObj 150 dx),(dx,dictOf (wd hsh tkn (.bool false) (.bool false) .none ev (.bool false) .none .none .none wr da de ns pm pr rs rd ig) ep)]:List (Addr × Obj)),p.1≠L'+1+1:=Fc (Nat.ne_of_lt (up2 q1)) (Fc (Nat.ne_of_lt (up2 q2)) (List.forall_mem_nil _))
 have hxd:dl≠x∧dl≠dx:=by simp at nd;exact⟨Ne.symm nd.1.2,Ne.symm nd.2⟩
 have r6:ax≠dl∧K≠dl∧L'+1≠dl∧L'+1+1≠dl:=⟨Nat.ne_of_gt l3.2.2.2.2.2,Ne.symm (hKd (dl,listOf its n) (by k_mem)),Nat.ne_of_gt (Nat.lt_succ_of_lt q3),Nat.ne_of_gt (up2 q3)⟩
 have r5:dl≠L'+1+1:=Nat.ne_of_lt (up2 q3);dsimp only
 refine wpAny_pyIter_list (by exact⟨_,(N3 _ (.head _)).1,rfl,_,rfl⟩) ?_
 refine Hp (os:=os) (Oj A base outer g x dx dl K (L'+1+1) (L'+1) ax (dictOf (wd hsh tkn (.bool false) (.bool false) .none ev (.bool false) .none .none .none wr da de ns pm pr rs rd ig) ep) (lst (strValues (scs.flatMap (·.2)))) (listOf (Ba ta tb tc td) 0) om its (askM x dl K sc its.size tz) kn la lo nps 0)
  (Walks.list (show Around.handled (A.deeper _)=none from hh) _ ax (Nat.ne_of_lt (Heap.lt_size (N3 _ (.head _)).1)) (Ba ta tb tc td)) ?hfp ?step ?done ?hJ ?hst (F3.push _) (News.push F3 N3 _) ?hoff os2 b2 ?hlive ?hown
 case hfp =>
  intro b hb hbI
  obtain rfl:b=ax:=by
   rcases List.mem_cons.mp hb with z | z
   ·exact absurd z hbI
   ·exact List.mem_singleton.mp z
  refine⟨listOf (Ba ta tb tc td) 0,fun g' i m own hJ=>?_⟩
  obtain⟨_,_,_,_,_,_,_,_,_,_,_,_,_,_,_,_,rfl,_⟩:=hJ;exact .head _
 case hlive=>exact fun _ _ h=>h.1.elim fun o z=>⟨o,z.1⟩
 case hown=>exact fun _ _ _ _ z=>Wp z
 case hst=>exact⟨⟨_,Heap.get?_push_size _ rfl,rfl,rfl⟩,⟨_,Heap.get?_push_of_some _ (N3 _ (.head _)).1,rfl,_,rfl⟩⟩
 case hoff=>exact fun p hp=>Nat.ne_of_lt (Heap.lt_size (N3 p hp).1)
 case hJ=>exact⟨ou,n,#[],[],[],none,none,none,none,none,none,none,KtsTurn.refl,B,D,Pp (fun _ _ _ _ _ _ _=>rfl),rfl,hcu,.nil,Nat.zero_le _,by rw [List.append_nil];exact hA,fun _ z=>nomatch z⟩
 case done =>
  with_reducible refine let_mvar% ?zr1:=(fun s4 g4 m4 own4=>?_:Fa4 _);Ax Bc (Cy:Tie _ (type_of% ?zr1)) (?zr1 _ _ _ _)
  intro hJ4 F4 N4 o4 b4;dsimp only
  repeat' (first
   | ((with_reducible show wpAny _ _ (exec (Stmt.For _ _ _ _ _) _) _ _ _);refine wpAny_For ?_)
   | ((fail_if_success (with_reducible show wpAny _ _ (pyIter _) _ _ _));walk_at "go"))
  refine wpAny_pyIter_ascii (by decide +kernel) ?_
  have hI2:∃ I2,I2=s4.heap.objs.size:=⟨_,rfl⟩
  revert hI2;refine exi ?_;with_reducible refine let_mvar% ?zr2:=(fun I2=>?_:Fa _);Aw neI (tie:Tie _ (type_of% ?zr2)) (?zr2 _);intro hI2
  dsimp only;rw [← hI2]
  refine Hp (os:=os) (Oj A base outer g x dx dl K (L'+1+1) (L'+1) ax (dictOf (wd hsh tkn (.bool false) (.bool false) .none ev (.bool false) .none .none .none wr da de ns pm pr rs rd ig) ep) (lst (strValues (scs.flatMap (·.2)))) (listOf (Ba ta tb tc td) 0) om its (askM x dl K sc its.size tz) kn la lo nps 4)
   (Walks.strAscii (show Around.handled (A.deeper _)=none from hh) I2 _ _) (fun b hb hbI=>absurd (List.mem_singleton.mp hb) hbI) ?step2 ?done2 (Oj.shift hJ4) ⟨_,by rw [hI2];exact Heap.get?_push_size _ rfl,rfl,rfl⟩ (F4.push _) (by rw [hI2];exact News.push F4 N4 _) (fun p hp=>by rw [hI2];exact Nat.ne_of_lt (Heap.lt_size (N4 p hp).1)) o4 b4 (fun _ _ h=>h.elim fun o z=>⟨o,z.1⟩) (fun _ _ _ _ z=>Wp z)
  case done2 =>
   clear hJ4 F4 N4 o4 b4 hI2
   with_reducible refine let_mvar% ?zs1:=(fun s4 g4 m4 own4=>?_:Fa4 _);Ax Bc (Cy:Tie _ (type_of% ?zs1)) (?zs1 _ _ _ _)
   intro hJ4 F4 N4 o4 b4;revert F4 N4;refine hJ4.out ?_
   with_reducible refine let_mvar% ?zs2:=(fun ou5 n4 exr exs tups u1 u2=>?_:Fa7 _);Ap neI (Cm:Tie _ (type_of% ?zs2)) (?zs2 _ _ _ _ _ _ _);with_reducible refine let_mvar% ?zs3:=(fun u3 u4 u5 u6 cv=>?_:Fa5 _);Ci neI (Hf:Tie _ (type_of% ?zs3)) (?zs3 _ _ _ _ _)
   rintro T4 B4 D4 rfl rfl hcu5 hex hexl hA4 htup F4 N4;have X4:=XB.keeps B4.stays;have TT4:=TB.keeps B4.stays
   have hxz:(its++exr).size≤sizeLine:=by
    have h1:=hex.length;have h2:=G.la.length;have h3:exs.length≤10:=hexl;rw [Array.length_toList] at h1 h2;rw [Array.size_append,sizeLine_eq,h1,h2];rw [List.length_append] at hDn
    exact(Nat.le_of_not_lt fun hn1=>fk [_,_,_] (.c 1 (.a (.a (.v 0) (.v 1)) (.k 1)) (.k 2000) (.c 1 (.v 2) (.k 10) (.c 1 (.a (.k 16777216) (.k 1)) (.a (.v 0) (.v 2)) (.k 0)))) rfl hDn h3 hn1)
   dsimp only
   repeat' (first
    | ((with_reducible show wpAny _ _ (delItem (.ref dl) _) _ _ _);(rename Fr ..=>F9);(rename News ..=>N9);refine Rg F9 N9 (fun n'=>Upd.tail r6.1 (Upd.tail r6.2.1 (Upd.tail r6.2.2.1 (Upd.tail r6.2.2.2 (Upd.tail (Ne.symm hxd.1) (Upd.tail (Ne.symm hxd.2) (Upd.head fun p hp=>(htup p hp).2.2.1))))))) hxz ?_;walk_at "eps2";intro F' N')
    | walk_at "go")
   rename Fr ..=>F9
   rename News ..=>N9
   exact hR _ g4 _ T4 (Kn F9 (News.sub N9 (Fc (by k_mem) (Fc (by k_mem) (Fc (by k_mem) (List.forall_mem_nil _))))) o4 b4)
  case step2 =>
   clear hJ4 F4 N4 o4 b4 hI2
   with_reducible refine let_mvar% ?zr3:=(fun s4 g4 i4 v4 m4 own4 oI2=>?_:Fa7 _);Ap Bc (Cm:Tie _ (type_of% ?zr3)) (?zr3 _ _ _ _ _ _ _);with_reducible refine let_mvar% ?zr4:=(fun tk4 h4=>?_:Fa2 _);Ah neI (Ar:Tie _ (type_of% ?zr4)) (?zr4 _ _)
   intro hi hv hJ4 F4 N4 off4 o4 b4;have hv':=six_at hv
   revert hv';refine Hm ?_;with_reducible refine let_mvar% ?zr5:=(fun q tq=>?_:Fa2 _);Ah neI (Ar:Tie _ (type_of% ?zr5)) (?zr5 _ _);rintro⟨hq6,rfl⟩
   revert F4 N4 off4;refine hJ4.out ?_
   with_reducible refine let_mvar% ?zr6:=(fun ou5 n4 exr exs tups u1 u2=>?_:Fa7 _);Ap neI (Cm:Tie _ (type_of% ?zr6)) (?zr6 _ _ _ _ _ _ _);with_reducible refine let_mvar% ?zr7:=(fun u3 u4 u5 u6 cv=>?_:Fa5 _);Ci neI (Hf:Tie _ (type_of% ?zr7)) (?zr7 _ _ _ _ _)
   rintro T4 B4 D4 rfl rfl hcu5 hex hexl hA4 htup F4 N4 off4;have X4:=XB.keeps B4.stays;have TT4:=TB.keeps B4.stays;have G4:=G.turn T4 D hmf;refine wpAny_assign_Name (storeX_L F4 N4 ?_ rfl rfl)
   with_reducible refine let_mvar% ?zr8:=(fun h5=>?_:Fa _);Aw neI (tie:Tie _ (type_of% ?zr8)) (?zr8 _);intro F5 N5
   clear F4 N4;dsimp only
   refine Dt ?_;with_reducible refine let_mvar% ?zr9:=(fun Q9 E9=>?_:Fa2 _);Ah neI (Ar:Tie _ (type_of% ?zr9)) (?zr9 _ _);intro hq9 he9
   have hq1z:=Nv q hq6
   have hqz:q.length≤1000:=Nat.le_trans hq1z (by decide)
   have gt1:∀ {a:Nat},x<a→dx<a→dl<a→a≠x∧a≠dx∧a≠dl:=fun h1 h2 h3=>⟨Nat.ne_of_gt h1,Nat.ne_of_gt h2,Nat.ne_of_gt h3⟩
   have hrest:∀ p∈tups++[(I2,oI2),(ax,listOf (Ba ta tb tc td) 0),(K,lst (strValues (scs.flatMap (·.2)))),(L'+1,om),(L'+1+1,ou5)],p.1≠x∧p.1≠dx∧p.1≠dl:=by
    refine Fp (fun p hp=>⟨(htup p hp).1,(htup p hp).2.1,(htup p hp).2.2.1⟩) (Fc ?_ (Fc ?_ (Fc ?_ (Fc ?_ (Fc ?_ (List.forall_mem_nil _))))))
    ·exact⟨Ne.symm (off4 (x,instObj 150 dx) (by k_mem)),Ne.symm (off4 (dx,dictOf (wd hsh tkn (.bool false) (.bool false) .none ev (.bool false) .none .none .none wr da de ns pm pr rs rd ig) ep) (by k_mem)),Ne.symm (off4 (dl,listOf (its++exr) n4) (by k_mem))⟩
    ·exact gt1 l3.2.2.2.1 l3.2.2.2.2.1 l3.2.2.2.2.2
    ·exact⟨Ne.symm (hKd (x,instObj 150 dx) (by k_mem)),Ne.symm (hKd (dx,dictOf (wd hsh tkn (.bool false) (.bool false) .none ev (.bool false) .none .none .none wr da de ns pm pr rs rd ig) ep) (by k_mem)),Ne.symm (hKd (dl,listOf its n) (by k_mem))⟩
    ·exact gt1 (Nat.lt_succ_of_lt q1) (Nat.lt_succ_of_lt q2) (Nat.lt_succ_of_lt q3)
    ·exact gt1 (up2 q1) (up2 q2) (up2 q3)
   repeat' (first
    | ((with_reducible show wpAny _ _ (exec (Stmt.Try _ _ _ _ _) _) _ _ _);refine wpAny_Try_except ?_)
    | ((fail_if_success (with_reducible show wpAny _ _ (call (.ref 82) _) _ _ _));walk_at "go"))
   rename Fr ..=>F6
   rename News ..=>N6
   have N7:News g4 L' _ ((x,instObj 150 dx)::(dx,dictOf (wd hsh tkn (.bool false) (.bool false) .none ev (.bool false) .none .none .none wr da de ns pm pr rs rd ig) ep)::([(dl,listOf (its++exr) n4)]++(tups++[(I2,oI2),(ax,listOf (Ba ta tb tc td) 0),(K,lst (strValues (scs.flatMap (·.2)))),(L'+1,om),(L'+1+1,ou5)]))):=News.sub N6 (by walk_at "l_sub")
   have hcut:cutL (q++Str.ofString ":y") (Str.ofString ":") q (Str.ofString "y")=true:=by rw [← six_txt];exact Nc q hq6 _ (.tail _ (.head _))
   refine Ez (dps:=la++exs++lo) (pf:=q) (nm:=Str.ofString "y") XB TB B4 D4 F6 N7 o4 b4 G4 hNz ?hr2 hA4 rfl hh (Nat.lt_trans zq (by decide)) hcut (Ta q hq6) ⟨hqz,by decide⟩ ?kS2 ?kE2
   case hr2=>exact Fp (Fc ⟨hxd.1,hxd.2⟩ (List.forall_mem_nil _)) (fun p hp=>⟨(hrest p hp).1,(hrest p hp).2.1⟩)
   case kE2 =>
    with_reducible refine let_mvar% ?zr10:=(fun s7 e7 t7 msg tm7 G7=>?_:Fa6 _);Gg Bc (tie6:Tie _ (type_of% ?zr10)) (?zr10 _ _ _ _ _ _)
    intro hno hmsg F7 U7 R7 o7 b7
    have hqk:q∉kn:=fun h=>by rw [hA4.yes h] at hno;cases hno
    refine Jp (T':="ValueError") rfl R7 F7 B4 U7 D4 PySem.F.isExc_ValueError PySem.F.notTuple_ValueError (by rw [isSubtype_type];kernel_rfl) ?hname2 ?hstore2 ?hk2
    case hname2 =>
     intro s g' Q E F' B' h
     exact nameX_B F' (XB.keeps B'.stays) (topRead_of (TB.keeps B'.stays)) (by k_is) PyProof.Rows.Boot.«ValueError» (by decide) h rfl rfl
    case hstore2 =>
     intro s g' news Q E F' N' h
     exact storeX_L F' N' (fun h' F2 N2=>h h' _ F2 N2) rfl rfl
    case hk2 =>
     with_reducible refine let_mvar% ?zr12:=(fun h8 g8=>?_:Fa2 _);Ah neI (Ar:Tie _ (type_of% ?zr12)) (?zr12 _ _);with_reducible refine let_mvar% ?zr13:=(fun nw8 tk8=>?_:Fa2 _);Ah neI (Ar:Tie _ (type_of% ?zr13)) (?zr13 _ _)
     intro T8 F8 N8 G8 B8 D8;have X8:=XB.keeps B8.stays;have TT8:=TB.keeps B8.stays
     have hz8:∃ tl:List (Addr × Obj),(∀ p∈tups,p∈tl)∧(∀ p∈nw8,p∈tl)∧News g8 L' h8 ((I2,oI2)::(ax,listOf (Ba ta tb tc td) 0)::(K,lst (strValues (scs.flatMap (·.2))))::(L'+1,om)::(L'+1+1,ou5)::(x,instObj 150 dx)::(dx,dictOf (wd hsh tkn (.bool false) (.bool false) .none ev (.bool false) .none .none .none wr da de ns pm pr rs rd ig) ep)::(dl,listOf (its++exr) n4)::tl):=⟨tups++nw8,fun _ h=>Ml _ h,fun _ h=>Mr _ h,News.sub N8 (by walk_at "l_sub")⟩
     revert hz8;refine exi ?_;with_reducible refine let_mvar% ?zr14:=(fun tl=>?_:Fa _);Aw neI (tie:Tie _ (type_of% ?zr14)) (?zr14 _);rintro⟨htl,hnl,N8'⟩
     clear N8
     have hu2m:∀ (env:Env) (v:Option Value),((A.deeper env).mark v).units+2<cLine:=fun env v=>Nat.lt_of_le_of_lt (Nat.add_le_add_left (by decide) _) (hu64 env)
     have hin:decide (q∈(scs.flatMap (·.2)).map (·.1))=false:=by rw [hkn];exact decide_eq_false hqk
     have hp1:(Str.ofString "Prefix ").length=7:=rfl;have hp2:(Str.ofString " of QName \"").length=11:=rfl;have hp3:(Str.ofString ":y").length=2:=rfl
     have hz1:(Str.ofString "Prefix "++q).length≤1000:=by rw [size_cat];exact(Nat.le_of_not_lt fun hn1=>fk [_,_] (.c 1 (.v 0) (.k 1) (.c 1 (.v 1) (.k 7) (.c 1 (.a (.k 1000) (.k 1)) (.a (.v 1) (.v 0)) (.k 0)))) rfl hq1z (Nat.le_of_eq hp1) hn1)
     have hz2:(Str.ofString "Prefix "++q++Str.ofString " of QName \"").length≤1000:=by rw [size_cat,size_cat];exact(Nat.le_of_not_lt fun hn1=>fk [_,_,_] (.c 1 (.v 0) (.k 1) (.c 1 (.v 1) (.k 7) (.c 1 (.v 2) (.k 11) (.c 1 (.a (.k 1000) (.k 1)) (.a (.a (.v 1) (.v 0)) (.v 2)) (.k 0))))) rfl hq1z (Nat.le_of_eq hp1) (Nat.le_of_eq hp2) hn1)
     have hz3:(Str.ofString "Prefix "++q++Str.ofString " of QName \""++(q++Str.ofString ":y")).length≤1000:=by rw [size_cat,size_cat,size_cat,size_cat];exact(Nat.le_of_not_lt fun hn1=>fk [_,_,_,_] (.c 2 (.v 0) (.k 1) (.c 1 (.v 1) (.k 7) (.c 1 (.v 2) (.k 11) (.c 1 (.v 3) (.k 2) (.c 1 (.a (.k 1000) (.k 1)) (.a (.a (.a (.v 1) (.v 0)) (.v 2)) (.a (.v 0) (.v 3))) (.k 0)))))) rfl hq1z (Nat.le_of_eq hp1) (Nat.le_of_eq hp2) (Nat.le_of_eq hp3) hn1)
     have hz4:=Ta q hq6
     (try dsimp only)
     repeat' (first
      | ((with_reducible show wpAny _ _ (compareOp CmpOp.In (.str _ _) (.ref K)) _ _ _);(rename News ..=>N9);refine in_strs (ps:=scs.flatMap (·.2)) (by exact⟨_,(N9 (K,lst (strValues (scs.flatMap (·.2)))) (by k_mem)).1,rfl,_,rfl⟩) ?_)
      | ((with_reducible show wpAny _ _ (call (.type "str") [.ref e7]) _ _ _);(rename News ..=>N9);refine str_got_one PySem.F.excStr_ValueError (News.sub N9 (fun q hq=>by have hq':=hnl q hq;walk_at "l_in")) G8 (hu2m _ _) ?_)
      | ((with_reducible show wpAny _ _ (do bindName _ _ Value.none;unbindBehindTheSuite _ _ _) _ _ _);(rename Fr ..=>F9);(rename News ..=>N9);refine Kl F9 N9 ?_ rfl rfl;walk_at "eps2";intro F' N';(try dsimp only))
      | ((with_reducible show wpAny _ _ (compareOp CmpOp.NotEq (.str _ _) (.str _ _)) _ _ _);rw [hmsg];refine Gx ?_)
      | ((fail_if_success (with_reducible show Q9 _ _));walk_at "go"))
     rename Fr ..=>F12
     rename News ..=>N12
     refine hq9 _ _ ?_;refine⟨g8,_,_,⟨ou5,n4,exr,exs,tups,_,_,_,_,_,_,_,T4.trans T8,B8,D8,Pp ?m62,rfl,hcu5,hex,Nat.le_succ_of_le hexl,hA4,htup⟩,F12,News.sub N12 ?sb2,?oI2,o7,b7⟩
     case m62=>intro y h1 h2 h3 h4 h5 h6;simp only [m6,h1,h2,h3,h4,h5,h6,if_false]
     case sb2=>refine Fc (by walk_at "l_in") (Fc (by walk_at "l_in") (Fc (by walk_at "l_in") (Fc (by walk_at "l_in") (Fc (by walk_at "l_in") (Fc (by walk_at "l_in") (Fc (by walk_at "l_in") (Fc (by walk_at "l_in") fun p hp=>by have hp':=htl p hp;walk_at "l_in")))))))
     case oI2=>exact Fc (off4 (ax,listOf (Ba ta tb tc td) 0) (by k_mem)) (Fc (off4 (K,lst (strValues (scs.flatMap (·.2)))) (by k_mem)) (Fc (off4 (L'+1,om) (by k_mem)) (Fc (off4 (L'+1+1,ou5) (by k_mem)) (Fc (off4 (x,instObj 150 dx) (by k_mem)) (Fc (off4 (dx,dictOf (wd hsh tkn (.bool false) (.bool false) .none ev (.bool false) .none .none .none wr da de ns pm pr rs rd ig) ep) (by k_mem)) (Fc (off4 (dl,listOf (its++exr) n4) (by k_mem)) fun p hp=>off4 p (.tail _ (.tail _ (.tail _ (.tail _ (.tail _ (.tail _ (.tail _ hp)))))))))))))
   case kS2 =>
    with_reducible refine let_mvar% ?zr11:=(fun s7 u7 t7 tk7=>?_:Fa4 _);Ax Bc (Cy:Tie _ (type_of% ?zr11)) (?zr11 _ _ _ _)
    intro hr7 ht7 F7 N7' o7 b7
    have hqk:q∈kn:=Classical.byContradiction fun h=>by rw [hA4.no hq6 h] at hr7;cases hr7
    have hu7:u7=Aq q:=by rw [hA4.yes hqk] at hr7;injection hr7 with h;exact h.symm
    rw [hu7,braY] at ht7;rw [ht7];clear hr7 hu7 ht7
    have N7:News g4 L' s7.heap ((I2,oI2)::(ax,listOf (Ba ta tb tc td) 0)::(K,lst (strValues (scs.flatMap (·.2))))::(L'+1,om)::(L'+1+1,ou5)::(x,instObj 150 dx)::(dx,dictOf (wd hsh tkn (.bool false) (.bool false) .none ev (.bool false) .none .none .none wr da de ns pm pr rs rd ig) ep)::(dl,listOf (its++exr) n4)::tups):=News.sub N7' (by walk_at "l_sub")
    clear N7';have h4m:=Nw q (hA4.five _ hqk);have h4l:=Dz _ h4m;have hp1:(Str.ofString "{").length=1:=rfl;have hp2:(Str.ofString "}y").length=2:=rfl
    have hz1:(Aq q).length≤1000:=Nat.le_trans h4l (by decide)
    have hz2:(Str.ofString "{"++Aq q).length≤1000:=by rw [size_cat];exact(Nat.le_of_not_lt fun hn1=>fk [_,_] (.c 1 (.v 0) (.k 1) (.c 1 (.v 1) (.k 1) (.c 1 (.a (.k 1000) (.k 1)) (.a (.v 1) (.v 0)) (.k 0)))) rfl h4l (Nat.le_of_eq hp1) hn1)
    have hz3:(Str.ofString "{"++Aq q++Str.ofString "}y").length≤1000:=by rw [size_cat,size_cat];exact(Nat.le_of_not_lt fun hn1=>fk [_,_,_] (.c 1 (.v 0) (.k 1) (.c 1 (.v 1) (.k 1) (.c 1 (.v 2) (.k 2) (.c 1 (.a (.k 1000) (.k 1)) (.a (.a (.v 1) (.v 0)) (.v 2)) (.k 0))))) rfl h4l (Nat.le_of_eq hp1) (Nat.le_of_eq hp2) hn1)
    have hnin:(!decide (q∈(scs.flatMap (·.2)).map (·.1)))=false:=by rw [hkn,decide_eq_true hqk];rfl
    have hme':=hme q (hA4.five _ hqk)
    revert hme';refine exi ?_;with_reducible refine let_mvar% ?zr15:=(fun tm=>?_:Fa _);Aw neI (tie:Tie _ (type_of% ?zr15)) (?zr15 _);intro hme'
    (try dsimp only)
    repeat' (first
     | ((with_reducible show wpAny _ _ (compareOp CmpOp.NotIn (.str _ _) (.ref K)) _ _ _);(rename News ..=>N9);refine Rr (ps:=scs.flatMap (·.2)) (by exact⟨_,(N9 (K,lst (strValues (scs.flatMap (·.2)))) (by k_mem)).1,rfl,_,rfl⟩) ?_)
     | ((with_reducible show wpAny _ _ (eval (Expr.Name (Str.ofString "means") _) _) _ _ _);(rename News ..=>N9);refine nameX_C N9 (c:=L'+1) (o:=om) rfl (by k_mem) hcm ?_ rfl rfl)
     | ((with_reducible show wpAny _ _ (subscriptTail _ _ (.ref mn) _) _ _ _);(rename Fr ..=>F9);refine Ep (G4.keeps F9.keep).mn hme' ?_)
     | ((with_reducible show wpAny _ _ (compareOp CmpOp.NotEq (.str _ _) (.str _ _)) _ _ _);refine Gx ?_)
     | ((fail_if_success (with_reducible show wpAny _ _ (call (.ref 90) _) _ _ _));walk_at "go"))
    rename Fr ..=>F8
    rename News ..=>N8
    have N8':News g4 L' _ ((x,instObj 150 dx)::(dx,dictOf (wd hsh tkn (.bool false) (.bool false) .none ev (.bool false) .none .none .none wr da de ns pm pr rs rd ig) ep)::(dl,listOf (its++exr) n4)::(tups++[(I2,oI2),(ax,listOf (Ba ta tb tc td) 0),(K,lst (strValues (scs.flatMap (·.2)))),(L'+1,om),(L'+1+1,ou5)])):=News.sub N8 (by walk_at "l_sub")
    have hdn2:(la++exs++lo).length<2900:=by
     rw [List.length_append,List.length_append];rw [List.length_append] at hDn;have:i4<6:=hi
     exact(Nat.lt_of_not_le fun hn1=>fk [_,_,_,_] (.c 1 (.a (.a (.v 0) (.v 1)) (.k 1)) (.k 2000) (.c 1 (.v 2) (.a (.k 4) (.v 3)) (.c 1 (.a (.v 3) (.k 1)) (.k 6) (.c 1 (.k 2900) (.a (.a (.v 0) (.v 2)) (.v 1)) (.k 0))))) rfl hDn hexl this hn1)
    refine Hk (n:=n4) (exs:=exs) (exr:=exr) (tups:=tups) (rest:=[(I2,oI2),(ax,listOf (Ba ta tb tc td) 0),(K,lst (strValues (scs.flatMap (·.2)))),(L'+1,om),(L'+1+1,ou5)]) (uri:=Aq q) (tag:=Str.ofString "y") (v:=.none) XB TB B4 D4 F8 N8' o7 b7 G4 hDz hNz hdn2 nd hrest hex hA4 rfl hh (Nat.lt_trans zq (by decide)) h4m hz3 (by decide) (.inl ⟨rfl,rfl,by rw [← braY];exact Tz _ h4m _ (.tail _ (.head _))⟩) ?kS3 ?kE3
    case kE3=>exact fun _ _ _ _ _ _ h _ _ _ _ _ _=>absurd rfl (h q hqk)
    case kS3 =>
     with_reducible refine let_mvar% ?zr16:=(fun s9 tw9 txt9 pf9 v1 v2 v3=>?_:Fa7 _);Ap Bc (Cm:Tie _ (type_of% ?zr16)) (?zr16 _ _ _ _ _ _ _);with_reducible refine let_mvar% ?zr17:=(fun exr9 exs9 tups9 n9=>?_:Fa4 _);Ax neI (Cy:Tie _ (type_of% ?zr17)) (?zr17 _ _ _ _)
     intro hpk9 hpm9 htx9 _ _ hex9 hel9 _ hA9 htup9 F9 N9' o9 b9
     have N9:News g4 L' s9.heap ((tw9,Ad #[.str txt9 v1,.str (Str.ofString "y") v2,.str (Aq q) v3])::(I2,oI2)::(ax,listOf (Ba ta tb tc td) 0)::(K,lst (strValues (scs.flatMap (·.2))))::(L'+1,om)::(L'+1+1,ou5)::(x,instObj 150 dx)::(dx,dictOf (wd hsh tkn (.bool false) (.bool false) .none ev (.bool false) .none .none .none wr da de ns pm pr rs rd ig) ep)::(dl,listOf (its++exr9) n9)::tups9):=News.sub N9' (by walk_at "l_sub")
     clear N9' N8 N8' F8
     (try dsimp only)
     repeat' (first
      | ((with_reducible show wpAny _ _ (subscriptTail _ _ (.ref tw9) (.int 0 _)) _ _ _);(rename News ..=>N9);refine Hw (vs:=[.str (Str.ofString "y") v2,.str (Aq q) v3]) ⟨_,(N9 (tw9,Ad #[.str txt9 v1,.str (Str.ofString "y") v2,.str (Aq q) v3]) (by k_mem)).1,rfl,_,rfl⟩ ?_)
      | ((fail_if_success (with_reducible show wpAny _ _ (call (.ref 82) _) _ _ _));walk_at "go"))
     rename Fr ..=>F10
     rename News ..=>N10
     have N11:News g4 L' _ ((x,instObj 150 dx)::(dx,dictOf (wd hsh tkn (.bool false) (.bool false) .none ev (.bool false) .none .none .none wr da de ns pm pr rs rd ig) ep)::([(dl,listOf (its++exr9) n9)]++(tups9++[(I2,oI2),(ax,listOf (Ba ta tb tc td) 0),(K,lst (strValues (scs.flatMap (·.2)))),(L'+1,om),(L'+1+1,ou5)]))):=News.sub N10 (by walk_at "l_sub")
     have hne9:∀ p∈tups9,p.1≠x∧p.1≠dx∧p.1≠dl:=fun p hp=>(htup9 p (.tail _ hp)).1
     have h5p:=hA4.five _ hpk9
     refine Ez (dps:=la++exs9++lo) (t:=txt9) (pf:=pf9) (nm:=Str.ofString "y") XB TB B4 D4 F10 N11 o9 b9 G4 hNz ?hr3 hA9 rfl hh (Nat.lt_trans zq (by decide)) (by rw [htx9];exact Nc _ (Fe _ h5p) _ (.tail _ (.head _))) (by rw [htx9];exact Xg _ h5p) ⟨Nat.le_trans (Nv pf9 (Fe _ h5p)) (by decide),by decide⟩ ?kS4 ?kE4
     case hr3=>exact Fp (Fc ⟨hxd.1,hxd.2⟩ (List.forall_mem_nil _)) (Fp (fun p hp=>⟨(hne9 p hp).1,(hne9 p hp).2.1⟩) fun p hp=>⟨(hrest p (Mr _ hp)).1,(hrest p (Mr _ hp)).2.1⟩)
     case kE4=>exact fun _ _ _ _ _ _ h _ _ _ _ _ _=>by rw [hA9.yes hpk9] at h;cases h
     case kS4 =>
      with_reducible refine let_mvar% ?zr18:=(fun s11 u11 t11 tk11=>?_:Fa4 _);Ax Bc (Cy:Tie _ (type_of% ?zr18)) (?zr18 _ _ _ _)
      intro hr11 ht11 F11 N11' o11 b11
      have N11:News g4 L' s11.heap ((I2,oI2)::(ax,listOf (Ba ta tb tc td) 0)::(K,lst (strValues (scs.flatMap (·.2))))::(L'+1,om)::(L'+1+1,ou5)::(x,instObj 150 dx)::(dx,dictOf (wd hsh tkn (.bool false) (.bool false) .none ev (.bool false) .none .none .none wr da de ns pm pr rs rd ig) ep)::(dl,listOf (its++exr9) n9)::tups9):=News.sub N11' (by walk_at "l_sub")
      clear N11'
      have hu11:u11=Aq q:=by
       rw [hA9.yes hpk9] at hr11
       injection hr11 with h
       rw [← h];exact hpm9
      rw [hu11,braY] at ht11;rw [ht11]
      (try dsimp only)
      repeat' (first
       | ((with_reducible show wpAny _ _ (compareOp CmpOp.NotEq (.str _ _) (.str _ _)) _ _ _);refine Gx ?_)
       | ((fail_if_success (with_reducible show Q9 _ _));walk_at "go"))
      rename Fr ..=>F12
      rename News ..=>N12
      have hoff:∀ p∈tups9,p∈tups∨∀ r∈[(I2,oI2),(ax,listOf (Ba ta tb tc td) 0),(K,lst (strValues (scs.flatMap (·.2)))),(L'+1,om),(L'+1+1,ou5)],p.1≠r.1:=fun p hp=>(htup9 p (.tail _ hp)).2
      refine hq9 _ _ ?_
      refine⟨g4,_,_,⟨ou5,n9,exr9,exs9,tups9,_,_,_,_,_,_,_,T4,B4,D4,Pp ?m63,rfl,hcu5,hex9,?len3,hA9,?tf3⟩,F12,News.sub N12 (by walk_at "l_sub"),?oI3,o11,b11⟩
      case m63=>intro y h1 h2 h3 h4 h5 h6;simp only [m6,h1,h2,h3,h4,h5,h6,if_false]
      case len3=>exact(Nat.le_of_not_lt fun hn1=>fk [_,_,_] (.c 1 (.v 0) (.a (.k 4) (.v 1)) (.c 1 (.v 2) (.a (.v 0) (.k 1)) (.c 1 (.a (.a (.k 4) (.a (.v 1) (.k 1))) (.k 1)) (.v 2) (.k 0)))) rfl hexl hel9 hn1)
      case tf3=>exact fun p hp=>⟨(hne9 p hp).1,(hne9 p hp).2.1,(hne9 p hp).2.2,(hoff p hp).elim (fun h=>(htup p h).2.2.2) fun h=>h (L'+1+1,ou5) (by k_mem)⟩
      case oI3=>exact Fc (off4 (ax,listOf (Ba ta tb tc td) 0) (by k_mem)) (Fc (off4 (K,lst (strValues (scs.flatMap (·.2)))) (by k_mem)) (Fc (off4 (L'+1,om) (by k_mem)) (Fc (off4 (L'+1+1,ou5) (by k_mem)) (Fc (off4 (x,instObj 150 dx) (by k_mem)) (Fc (off4 (dx,dictOf (wd hsh tkn (.bool false) (.bool false) .none ev (.bool false) .none .none .none wr da de ns pm pr rs rd ig) ep) (by k_mem)) (Fc (off4 (dl,listOf (its++exr) n4) (by k_mem)) fun p hp=>(hoff p hp).elim (fun h=>off4 p (.tail _ (.tail _ (.tail _ (.tail _ (.tail _ (.tail _ (.tail _ h)))))))) fun h=>h (I2,oI2) (by k_mem)))))))
 case step =>
  with_reducible refine let_mvar% ?zq7:=(fun s4 g4 i4 v4 m4 own4 oI=>?_:Fa7 _);Ap Bc (Cm:Tie _ (type_of% ?zq7)) (?zq7 _ _ _ _ _ _ _);with_reducible refine let_mvar% ?zq8:=(fun tk4 h4=>?_:Fa2 _);Ah neI (Ar:Tie _ (type_of% ?zq8)) (?zq8 _ _)
  intro hi hv hJ4 F4 N4 off4 o4 b4;have hv':=four_at hv
  revert hv';refine Hm ?_;with_reducible refine let_mvar% ?zq10:=(fun uri tu=>?_:Fa2 _);Ah neI (Ar:Tie _ (type_of% ?zq10)) (?zq10 _ _);rintro⟨huri,rfl⟩
  revert F4 N4 off4;refine hJ4.out ?_
  with_reducible refine let_mvar% ?zq11:=(fun ou4 n4 exr exs tups u1 u2=>?_:Fa7 _);Ap neI (Cm:Tie _ (type_of% ?zq11)) (?zq11 _ _ _ _ _ _ _);with_reducible refine let_mvar% ?zq12:=(fun u3 u4 u5 u6 cv=>?_:Fa5 _);Ci neI (Hf:Tie _ (type_of% ?zq12)) (?zq12 _ _ _ _ _)
  rintro T4 B4 D4 rfl rfl hcu4 hex hexl hA4 htup F4 N4 off4;have X4:=XB.keeps B4.stays;have TT4:=TB.keeps B4.stays;have G4:=G.turn T4 D hmf
  refine wpAny_assign_Name (storeX_C F4 N4 rfl (UpdF.tail (Ne.symm (off4 _ (.tail _ (.tail _ (.tail _ (.head _)))))) (UpdF.tail r1 (UpdF.tail r2 (UpdF.tail r3 (UpdF.head (Fc (r4 _ (.head _)) (Fc (r4 _ (.tail _ (.head _))) (Fc r5 fun p hp=>(htup p hp).2.2.2)))))))) hcu4 ?_)
  with_reducible refine let_mvar% ?zq13:=(fun h5 ou5=>?_:Fa2 _);Ah neI (Ar:Tie _ (type_of% ?zq13)) (?zq13 _ _);intro F5 N5 hcu5
  dsimp only
  refine Dt ?_;with_reducible refine let_mvar% ?zq9:=(fun Q9 E9=>?_:Fa2 _);Ah neI (Ar:Tie _ (type_of% ?zq9)) (?zq9 _ _);intro hq9 he9
  refine wpAny_execs_cons ?_
  refine Ol (h₀:=g4) (L:=L') (m:=m6 "error" "some" "written" "prefix" "text" "name" (askM x dl K sc its.size tz) u1 u2 u3 u4 u5 u6) (cl:=[(Str.ofString "uri",L'+1+1),(Str.ofString "means",L'+1)]) (os:=os) (fun v=>match v with | .str q _=>Aq q == uri | _=>false) rfl rfl rfl (by decide) rfl (by decide) rfl (by decide) (fun _=>rfl) rfl rfl ?_
  repeat' (walk_at "go")
  refine⟨K,(strValues (scs.flatMap (·.2))).toArray,_,rfl,hh,F5,N5,o4,b4,.inr ⟨_,.tail _ (.tail _ (.head _)),rfl,_,rfl⟩,?kz,?ktest,?_⟩
  case kz=>rw [List.size_toArray];exact Nat.le_trans hkl (by decide)
  case ktest =>
   intro v C oC m₂ s' QT E' hv hC hx F' N' hQ
   have hv1:∃ q t,v=.str q t∧q∈kn:=by
    obtain⟨p,hp,rfl⟩:=List.mem_map.mp (show v∈(scs.flatMap (·.2)).map _ from hv)
    exact⟨p.1,p.2,rfl,by rw [← hkn];exact List.mem_map_of_mem (f:=(·.1)) hp⟩
   obtain⟨q,t,rfl,hqk⟩:=hv1;obtain⟨tm,hme'⟩:=hme q (hA.five _ hqk);have hmd:=(G4.keeps F'.keep).mn
   repeat' (first
    | ((with_reducible show wpAny _ _ (eval (Expr.Name (Str.ofString "means") _) _) _ _ _);first | refine lcf_cell N' (c:=L'+1) rfl (.tail _ (by k_mem)) hcm ?_ rfl rfl | refine lcf_free N' (c:=L'+1) rfl (.tail _ (by k_mem)) hcm ?_ rfl rfl)
    | ((with_reducible show wpAny _ _ (eval (Expr.Name (Str.ofString "uri") _) _) _ _ _);first | refine lcf_cell N' (c:=L'+1+1) rfl (.tail _ (by k_mem)) hcu5 ?_ rfl rfl | refine lcf_free N' (c:=L'+1+1) rfl (.tail _ (by k_mem)) hcu5 ?_ rfl rfl)
    | ((with_reducible show wpAny _ _ (eval (Expr.Name (Str.ofString "prefix") _) _) _ _ _);refine LCgL.ld_own N' (.head _) hC hx ?_ rfl rfl)
    | ((with_reducible show wpAny _ _ (subscriptTail _ _ (.ref mn) _) _ _ _);refine Ep hmd hme' ?_)
    | walk_at "go")
   exact hQ _
  have hfl:(strValues (scs.flatMap (·.2))).toArray.toList.filter (fun v=>match v with | .str q _=>Aq q == uri | _=>false)=strValues ((scs.flatMap (·.2)).filter fun p=>Aq p.1 == uri):=by
   unfold strValues
   simp only [List.filter_map]
   rfl
  rw [hfl]
  have hse:((scs.flatMap (·.2)).filter fun p=>Aq p.1 == uri).isEmpty=true↔∀ q∈kn,Aq q≠uri:=by
   rw [← hkn,List.isEmpty_iff,List.filter_eq_nil_iff]
   simp
  have hslk:∀ p∈(scs.flatMap (·.2)).filter fun p=>Aq p.1 == uri,PyData.strOk p.1=true:=fun p hp=>five_ok _ (hA.five _ (by rw [← hkn];exact List.mem_map_of_mem (f:=(·.1)) (List.mem_filter.mp hp).1))
  generalize (scs.flatMap (·.2)).filter (fun p=>Aq p.1 == uri)=sl at hse hslk ⊢
  with_reducible refine let_mvar% ?zq14:=(fun SM s6=>?_:Fa2 _);Ah neAS (Ar:Tie _ (type_of% ?zq14)) (?zq14 _ _);intro F6 N6 hSM o6 b6
  have huz:uri.length≤1000:=Nat.le_trans (Dz uri huri) (by decide)
  have huz2:(Str.ofString "{"++uri).length≤1000:=by rw [size_cat];have:=Dz uri huri;have:(Str.ofString "{").length=1:=rfl;(rename_i ina0;exact(Nat.le_of_not_lt fun hn1=>fk [_,_] (.c 1 (.v 0) (.k 1) (.c 1 (.v 1) (.k 1) (.c 1 (.a (.k 1000) (.k 1)) (.a (.v 1) (.v 0)) (.k 0)))) rfl ina0 (Nat.le_of_eq this) hn1))
  dsimp only at N6 hSM
  have gt1:∀ {a:Nat},x<a→dx<a→dl<a→a≠x∧a≠dx∧a≠dl:=fun h1 h2 h3=>⟨Nat.ne_of_gt h1,Nat.ne_of_gt h2,Nat.ne_of_gt h3⟩
  have hrest:∀ p∈tups++[(SM,lst (strValues sl)),(h3.objs.size,oI),(ax,listOf (Ba ta tb tc td) 0),(K,lst (strValues (scs.flatMap (·.2)))),(L'+1,om),(L'+1+1,ou5)],p.1≠x∧p.1≠dx∧p.1≠dl:=by
   refine Fp (fun p hp=>⟨(htup p hp).1,(htup p hp).2.1,(htup p hp).2.2.1⟩) (Fc ?_ (Fc ?_ (Fc ?_ (Fc ?_ (Fc ?_ (Fc ?_ (List.forall_mem_nil _)))))))
   ·exact⟨Ne.symm (hSM (x,instObj 150 dx) (by k_mem)),Ne.symm (hSM (dx,dictOf (wd hsh tkn (.bool false) (.bool false) .none ev (.bool false) .none .none .none wr da de ns pm pr rs rd ig) ep) (by k_mem)),Ne.symm (hSM (dl,listOf (its++exr) n4) (by k_mem))⟩
   ·exact⟨Ne.symm (off4 (x,instObj 150 dx) (by k_mem)),Ne.symm (off4 (dx,dictOf (wd hsh tkn (.bool false) (.bool false) .none ev (.bool false) .none .none .none wr da de ns pm pr rs rd ig) ep) (by k_mem)),Ne.symm (off4 (dl,listOf (its++exr) n4) (by k_mem))⟩
   ·exact gt1 l3.2.2.2.1 l3.2.2.2.2.1 l3.2.2.2.2.2
   ·exact⟨Ne.symm (hKd (x,instObj 150 dx) (by k_mem)),Ne.symm (hKd (dx,dictOf (wd hsh tkn (.bool false) (.bool false) .none ev (.bool false) .none .none .none wr da de ns pm pr rs rd ig) ep) (by k_mem)),Ne.symm (hKd (dl,listOf its n) (by k_mem))⟩
   ·exact gt1 (Nat.lt_succ_of_lt q1) (Nat.lt_succ_of_lt q2) (Nat.lt_succ_of_lt q3)
   ·exact gt1 (up2 q1) (up2 q2) (up2 q3)
  dsimp only;refine wpAny_execs_cons ?_;refine wpAny_Try_except ?_
  repeat' ((fail_if_success (with_reducible show wpAny _ _ (call (.ref 90) _) _ _ _));walk_at "go")
  have N6':News g4 L' s6.heap ((x,instObj 150 dx)::(dx,dictOf (wd hsh tkn (.bool false) (.bool false) .none ev (.bool false) .none .none .none wr da de ns pm pr rs rd ig) ep)::(dl,listOf (its++exr) n4)::(tups++[(SM,lst (strValues sl)),(h3.objs.size,oI),(ax,listOf (Ba ta tb tc td) 0),(K,lst (strValues (scs.flatMap (·.2)))),(L'+1,om),(L'+1+1,ou5)])):=News.sub N6 (by walk_at "l_sub")
  refine Hk (n:=n4) (exs:=exs) (exr:=exr) (tups:=tups) (rest:=[(SM,lst (strValues sl)),(h3.objs.size,oI),(ax,listOf (Ba ta tb tc td) 0),(K,lst (strValues (scs.flatMap (·.2)))),(L'+1,om),(L'+1+1,ou5)]) (tag:=Str.ofString "x") (v:=.none) XB TB B4 D4 F6 N6' o6 b6 G4 hDz hNz ?dn nd hrest hex hA4 rfl hh (Nat.lt_trans zq (by decide)) huri ?ql (by decide) (.inl ⟨rfl,rfl,Rp uri huri⟩) ?kS ?kE
  case dn =>
   rw [List.length_append,List.length_append];rw [List.length_append] at hDn;have:i4<4:=hi
   exact(Nat.lt_of_not_le fun hn1=>fk [_,_,_,_] (.c 1 (.a (.a (.v 0) (.v 1)) (.k 1)) (.k 2000) (.c 1 (.v 2) (.a (.k 0) (.v 3)) (.c 1 (.a (.v 3) (.k 1)) (.k 4) (.c 1 (.k 2900) (.a (.a (.v 0) (.v 2)) (.v 1)) (.k 0))))) rfl hDn hexl this hn1)
  case ql=>rw [size_cat];have:=huz2;have:=Dz uri huri;rw [size_cat];have:(Str.ofString "{").length=1:=rfl;have:(Str.ofString "}x").length=2:=rfl;(rename_i ina1 ina0;exact(Nat.le_of_not_lt fun hn1=>fk [_,_,_] (.c 1 (.v 0) (.k 1) (.c 1 (.v 1) (.k 1) (.c 1 (.v 2) (.k 2) (.c 1 (.a (.k 1000) (.k 1)) (.a (.a (.v 1) (.v 0)) (.v 2)) (.k 0))))) rfl ina1 (Nat.le_of_eq ina0) (Nat.le_of_eq this) hn1))
  case kE =>
   with_reducible refine let_mvar% ?zq20:=(fun s7 e7 t7 msg tm7 G7=>?_:Fa6 _);Gg Bc (tie6:Tie _ (type_of% ?zq20)) (?zq20 _ _ _ _ _ _)
   intro hno hmsg F7 U7 R7 o7 b7;have hst:sl.isEmpty=true:=hse.mpr hno
   refine Jp (T':="ValueError") rfl R7 F7 B4 U7 D4 PySem.F.isExc_ValueError PySem.F.notTuple_ValueError (by rw [isSubtype_type];kernel_rfl) ?hname ?hstore ?hk
   case hname =>
    intro s g' Q E F' B' h
    exact nameX_B F' (XB.keeps B'.stays) (topRead_of (TB.keeps B'.stays)) (by k_is) PyProof.Rows.Boot.«ValueError» (by decide) h rfl rfl
   case hstore =>
    intro s g' news Q E F' N' h
    exact storeX_L F' N' (fun h' F2 N2=>h h' _ F2 N2) rfl rfl
   case hk =>
    with_reducible refine let_mvar% ?zq21:=(fun h8 g8=>?_:Fa2 _);Ah neI (Ar:Tie _ (type_of% ?zq21)) (?zq21 _ _);with_reducible refine let_mvar% ?zq22:=(fun nw8 tk8=>?_:Fa2 _);Ah neI (Ar:Tie _ (type_of% ?zq22)) (?zq22 _ _)
    intro T8 F8 N8 G8 B8 D8;have X8:=XB.keeps B8.stays;have TT8:=TB.keeps B8.stays
    have hz8:∃ tl:List (Addr × Obj),(∀ p∈tups,p∈tl)∧(∀ p∈nw8,p∈tl)∧News g8 L' h8 ((SM,lst (strValues sl))::(h3.objs.size,oI)::(ax,listOf (Ba ta tb tc td) 0)::(K,lst (strValues (scs.flatMap (·.2))))::(L'+1,om)::(L'+1+1,ou5)::(x,instObj 150 dx)::(dx,dictOf (wd hsh tkn (.bool false) (.bool false) .none ev (.bool false) .none .none .none wr da de ns pm pr rs rd ig) ep)::(dl,listOf (its++exr) n4)::tl):=⟨tups++nw8,fun _ h=>Ml _ h,fun _ h=>Mr _ h,News.sub N8 (by walk_at "l_sub")⟩
    revert hz8;refine exi ?_;with_reducible refine let_mvar% ?zq23:=(fun tl=>?_:Fa _);Aw neI (tie:Tie _ (type_of% ?zq23)) (?zq23 _);rintro⟨htl,hnl,N8'⟩
    clear N8
    have hu64m:∀ (env:Env) (v:Option Value),((A.deeper env).mark v).units+64<cLine:=fun env v=>hu64 env
    have hu2m:∀ (env:Env) (v:Option Value),((A.deeper env).mark v).units+2<cLine:=fun env v=>Nat.lt_of_le_of_lt (Nat.add_le_add_left (by decide) _) (hu64 env)
    have hst':(!sl.isEmpty)=false:=by rw [hst];rfl
    have huz3:(Str.ofString "Namespace \""++uri).length≤1000:=by rw [size_cat];have:=Dz uri huri;have:(Str.ofString "Namespace \"").length=11:=rfl;(rename_i ina0;exact(Nat.le_of_not_lt fun hn1=>fk [_,_] (.c 1 (.v 0) (.k 1) (.c 1 (.v 1) (.k 11) (.c 1 (.a (.k 1000) (.k 1)) (.a (.v 1) (.v 0)) (.k 0)))) rfl ina0 (Nat.le_of_eq this) hn1))
    (try dsimp only)
    repeat' (first
     | ((with_reducible show wpAny _ _ (eval (Expr.Name (Str.ofString "uri") _) _) _ _ _);(rename News ..=>N9);refine nameX_C N9 (c:=L'+1+1) (o:=ou5) rfl (by k_mem) hcu5 ?_ rfl rfl)
     | ((with_reducible show wpAny _ _ (compareOp CmpOp.NotEq (.ref SM) (.ref _)) _ _ _);(rename News ..=>N9);refine Fj (ps:=sl) (by exact⟨_,(N9 (SM,lst (strValues sl)) (by k_mem)).1,rfl,_,rfl⟩) (by exact⟨_,(N9 _ (.head _)).1,rfl,_,rfl⟩) hslk (hu64m _ _) ?_)
     | ((with_reducible show wpAny _ _ (call (.type "str") [.ref e7]) _ _ _);(rename News ..=>N9);refine str_got_one PySem.F.excStr_ValueError (News.sub N9 (fun q hq=>by have hq':=hnl q hq;walk_at "l_in")) G8 (hu2m _ _) ?_)
     | ((with_reducible show wpAny _ _ (do bindName _ _ Value.none;unbindBehindTheSuite _ _ _) _ _ _);(rename Fr ..=>F9);(rename News ..=>N9);refine Kl F9 N9 ?_ rfl rfl;walk_at "eps2";intro F' N';(try dsimp only))
     | ((with_reducible show wpAny _ _ (compareOp CmpOp.NotEq (.str _ _) (.str _ _)) _ _ _);rw [hmsg];refine Gx ?_)
     | ((fail_if_success (with_reducible show Q9 _ _));walk_at "go"))
    rename Fr ..=>F12
    rename News ..=>N12
    refine hq9 _ _ ?_;refine⟨g8,_,_,⟨ou5,n4,exr,exs,tups,_,_,_,_,_,_,_,T4.trans T8,B8,D8,Pp ?m6,rfl,hcu5,hex,Nat.le_succ_of_le hexl,hA4,htup⟩,F12,News.sub N12 ?sb,?oI,o7,b7⟩
    case m6=>intro y h1 h2 h3 h4 h5 h6;simp only [m6,h1,h2,h3,h4,h5,h6,if_false]
    case sb=>refine Fc (by walk_at "l_in") (Fc (by walk_at "l_in") (Fc (by walk_at "l_in") (Fc (by walk_at "l_in") (Fc (by walk_at "l_in") (Fc (by walk_at "l_in") (Fc (by walk_at "l_in") (Fc (by walk_at "l_in") fun p hp=>by have hp':=htl p hp;walk_at "l_in")))))))
    case oI =>
     exact Fc (off4 (ax,listOf (Ba ta tb tc td) 0) (by k_mem)) (Fc (off4 (K,lst (strValues (scs.flatMap (·.2)))) (by k_mem)) (Fc (off4 (L'+1,om) (by k_mem)) (Fc (off4 (L'+1+1,ou4) (by k_mem)) (Fc (off4 (x,instObj 150 dx) (by k_mem)) (Fc (off4 (dx,dictOf (wd hsh tkn (.bool false) (.bool false) .none ev (.bool false) .none .none .none wr da de ns pm pr rs rd ig) ep) (by k_mem)) (Fc (off4 (dl,listOf (its++exr) n4) (by k_mem)) fun p hp=>off4 p (.tail _ (.tail _ (.tail _ (.tail _ (.tail _ (.tail _ (.tail _ hp)))))))))))))
  case kS =>
   with_reducible refine let_mvar% ?zq15:=(fun s7 tw txt pf t1 t2 t3=>?_:Fa7 _);Ap Bc (Cm:Tie _ (type_of% ?zq15)) (?zq15 _ _ _ _ _ _ _);with_reducible refine let_mvar% ?zq16:=(fun exr7 exs7 tups7 n7=>?_:Fa4 _);Ax neI (Cy:Tie _ (type_of% ?zq16)) (?zq16 _ _ _ _)
   intro hpk hpm htx _ hqn hex7 hel _ hA7 htup7 F7 N7' o7 b7
   have N7:News g4 L' s7.heap ((tw,Ad #[.str txt t1,.str (Str.ofString "x") t2,.str uri t3])::(SM,lst (strValues sl))::(h3.objs.size,oI)::(ax,listOf (Ba ta tb tc td) 0)::(K,lst (strValues (scs.flatMap (·.2))))::(L'+1,om)::(L'+1+1,ou5)::(x,instObj 150 dx)::(dx,dictOf (wd hsh tkn (.bool false) (.bool false) .none ev (.bool false) .none .none .none wr da de ns pm pr rs rd ig) ep)::(dl,listOf (its++exr7) n7)::tups7):=News.sub N7' (by walk_at "l_sub")
   clear N7'
   (try dsimp only)
   have hsf:sl.isEmpty=false:=by
    cases hz:sl.isEmpty with
    | false=>rfl
    | true=>exact absurd hpm (hse.mp hz pf hpk)
   repeat' (first
    | ((with_reducible show wpAny _ _ (compareOp CmpOp.Eq (.ref SM) (.ref _)) _ _ _);rename News ..=>N9;refine Qn (ps:=sl) (by exact⟨_,(N9 (SM,lst (strValues sl)) (by k_mem)).1,rfl,_,rfl⟩) (by exact⟨_,(N9 _ (.head _)).1,rfl,_,rfl⟩) hslk (hu64 _) ?_)
    | ((with_reducible show wpAny _ _ (subscriptTail _ (Expr.Slice _ _ _ _) (.ref tw) (.ref _)) _ _ _);(rename Fr ..=>F9);(rename News ..=>N9);refine Xe (v:=.str txt t1) (vs:=[.str (Str.ofString "x") t2,.str uri t3]) F9 N9 ⟨_,(N9 (tw,Ad #[.str txt t1,.str (Str.ofString "x") t2,.str uri t3]) (by k_mem)).1,rfl,_,rfl⟩ (by show 2≤1000;decide) ?_;clear F9 N9;walk_at "eps2";intro F' N' l1;(try k_lt l1);(try k_sweep))
    | ((with_reducible show wpAny _ _ (eval (Expr.Name (Str.ofString "uri") _) _) _ _ _);(rename News ..=>N9);refine nameX_C N9 (c:=L'+1+1) (o:=ou5) rfl (by k_mem) hcu5 ?_ rfl rfl)
    | ((with_reducible show wpAny _ _ (compareOp CmpOp.NotEq (.ref _) (.ref _)) _ _ _);(rename News ..=>N9);refine tup_ne (ps:=[(Str.ofString "x",t2),(uri,t3)]) (qs:=[(Str.ofString "x",_),(uri,tu)]) ⟨_,(N9 _ (.tail _ (.head _))).1,rfl,_,rfl⟩ ⟨_,(N9 _ (.head _)).1,rfl,_,rfl⟩ rfl (Fc x_ok (Fc (Sk uri huri) (List.forall_mem_nil _))) (hu64 _) ?_)
    | ((fail_if_success (with_reducible show wpAny _ _ (call (.ref 90) _) _ _ _));walk_at "go"))
   rename Fr ..=>F8
   rename News ..=>N8
   have N8':News g4 L' _ ((x,instObj 150 dx)::(dx,dictOf (wd hsh tkn (.bool false) (.bool false) .none ev (.bool false) .none .none .none wr da de ns pm pr rs rd ig) ep)::(dl,listOf (its++exr7) n7)::(tups7++[(tw,Ad #[.str txt t1,.str (Str.ofString "x") t2,.str uri t3]),(SM,lst (strValues sl)),(h3.objs.size,oI),(ax,listOf (Ba ta tb tc td) 0),(K,lst (strValues (scs.flatMap (·.2)))),(L'+1,om),(L'+1+1,ou5)])):=News.sub N8 (by walk_at "l_sub")
   have hrest8:∀ p∈tups7++[(tw,Ad #[.str txt t1,.str (Str.ofString "x") t2,.str uri t3]),(SM,lst (strValues sl)),(h3.objs.size,oI),(ax,listOf (Ba ta tb tc td) 0),(K,lst (strValues (scs.flatMap (·.2)))),(L'+1,om),(L'+1+1,ou5)],p.1≠x∧p.1≠dx∧p.1≠dl:=Fp (fun p hp=>(htup7 p (.tail _ hp)).1) (Fc (htup7 _ (.head _)).1 fun p hp=>hrest p (Mr _ hp))
   refine Hk (n:=n7) (exs:=exs7) (exr:=exr7) (tups:=tups7) (rest:=[(tw,Ad #[.str txt t1,.str (Str.ofString "x") t2,.str uri t3]),(SM,lst (strValues sl)),(h3.objs.size,oI),(ax,listOf (Ba ta tb tc td) 0),(K,lst (strValues (scs.flatMap (·.2)))),(L'+1,om),(L'+1+1,ou5)]) (tag:=Str.ofString "x") XB TB B4 D4 F8 N8' o7 b7 G4 hDz hNz ?dn nd hrest8 hex7 hA7 rfl hh (Nat.lt_trans zq (by decide)) huri (by decide) (by decide) (.inr ⟨tu,rfl,rfl,rfl⟩) ?kS ?kE
   case dn =>
    rw [List.length_append,List.length_append];rw [List.length_append] at hDn;have:i4<4:=hi
    exact(Nat.lt_of_not_le fun hn1=>fk [_,_,_,_,_] (.c 1 (.a (.a (.v 0) (.v 1)) (.k 1)) (.k 2000) (.c 1 (.v 2) (.a (.k 0) (.v 3)) (.c 1 (.v 4) (.a (.v 2) (.k 1)) (.c 1 (.a (.v 3) (.k 1)) (.k 4) (.c 1 (.k 2900) (.a (.a (.v 0) (.v 4)) (.v 1)) (.k 0)))))) rfl hDn hexl hel this hn1)
   case kE=>exact fun _ _ _ _ _ _ h _ _ _ _ _ _=>absurd hpm (h pf hpk)
   case kS =>
    with_reducible refine let_mvar% ?zq17:=(fun s9 tw9 txt9 pf9 v1 v2 v3=>?_:Fa7 _);Ap Bc (Cm:Tie _ (type_of% ?zq17)) (?zq17 _ _ _ _ _ _ _);with_reducible refine let_mvar% ?zq18:=(fun exr9 exs9 tups9 n9=>?_:Fa4 _);Ax neI (Cy:Tie _ (type_of% ?zq18)) (?zq18 _ _ _ _)
    intro hpk9 hpm9 htx9 ho9 hqn9 hex9 hel9 hel9' hA9 htup9 F9 N9' o9 b9
    have hxx:txt9=txt:=by
     obtain⟨o,h⟩:=ho9;rw [hqn] at h
     injection h with h;injection h with h _
     exact h.symm
    rw [hxx] at hqn9 hel9' htup9 N9';have hxl:exs9.length≤exs7.length:=hel9' hqn;clear hxx ho9 hel9' htx9 hqn9 hel9
    have N9:News g4 L' s9.heap ((tw9,Ad #[.str txt v1,.str (Str.ofString "x") v2,.str uri v3])::(tw,Ad #[.str txt t1,.str (Str.ofString "x") t2,.str uri t3])::(SM,lst (strValues sl))::(h3.objs.size,oI)::(ax,listOf (Ba ta tb tc td) 0)::(K,lst (strValues (scs.flatMap (·.2))))::(L'+1,om)::(L'+1+1,ou5)::(x,instObj 150 dx)::(dx,dictOf (wd hsh tkn (.bool false) (.bool false) .none ev (.bool false) .none .none .none wr da de ns pm pr rs rd ig) ep)::(dl,listOf (its++exr9) n9)::tups9):=News.sub N9' (by walk_at "l_sub")
    clear N9' N8 N8' F8
    (try dsimp only)
    repeat' (first
     | ((with_reducible show wpAny _ _ (eval (Expr.Name (Str.ofString "uri") _) _) _ _ _);(rename News ..=>N9);refine nameX_C N9 (c:=L'+1+1) (o:=ou5) rfl (by k_mem) hcu5 ?_ rfl rfl)
     | ((with_reducible show wpAny _ _ (compareOp CmpOp.NotEq (.ref _) (.ref _)) _ _ _);(rename News ..=>N9);refine tup_ne (ps:=[(txt,v1),(Str.ofString "x",v2),(uri,v3)]) (qs:=[(txt,t1),(Str.ofString "x",t2),(uri,t3)]) ⟨_,(N9 _ (.head _)).1,rfl,_,rfl⟩ ⟨_,(N9 _ (.tail _ (.head _))).1,rfl,_,rfl⟩ rfl (Fc (by rw [htx];exact txt_ok _ (hA7.five _ hpk)) (Fc x_ok (Fc (Sk uri huri) (List.forall_mem_nil _)))) (hu64 _) ?_)
     | ((with_reducible show wpAny _ _ (subscriptTail _ _ (.ref tw) (.int 0 _)) _ _ _);(rename News ..=>N9);refine Hw (vs:=[.str (Str.ofString "x") t2,.str uri t3]) ⟨_,(N9 (tw,Ad #[.str txt t1,.str (Str.ofString "x") t2,.str uri t3]) (by k_mem)).1,rfl,_,rfl⟩ ?_)
     | ((fail_if_success (with_reducible show wpAny _ _ (call (.ref 82) _) _ _ _));walk_at "go"))
    rename Fr ..=>F10
    rename News ..=>N10
    have N11:News g4 L' _ ((x,instObj 150 dx)::(dx,dictOf (wd hsh tkn (.bool false) (.bool false) .none ev (.bool false) .none .none .none wr da de ns pm pr rs rd ig) ep)::([(dl,listOf (its++exr9) n9)]++(tups9++[(SM,lst (strValues sl)),(h3.objs.size,oI),(ax,listOf (Ba ta tb tc td) 0),(K,lst (strValues (scs.flatMap (·.2)))),(L'+1,om),(L'+1+1,ou5)]))):=News.sub N10 (by walk_at "l_sub")
    have hne9:∀ p∈tups9,p.1≠x∧p.1≠dx∧p.1≠dl:=fun p hp=>(htup9 p (.tail _ hp)).1
    refine Ez (dps:=la++exs9++lo) (t:=txt) (pf:=pf) (nm:=Str.ofString "x") XB TB B4 D4 F10 N11 o9 b9 G4 hNz ?hr hA9 rfl hh (Nat.lt_trans zq (by decide)) ?hc ?ht ⟨Nat.le_trans (Nv pf (Fe _ (hA4.five _ hpk))) (by decide),by decide⟩ ?kS ?kE
    case hr=>exact Fp (Fc ⟨hxd.1,hxd.2⟩ (List.forall_mem_nil _)) (Fp (fun p hp=>⟨(hne9 p hp).1,(hne9 p hp).2.1⟩) fun p hp=>⟨(hrest p (Mr _ hp)).1,(hrest p (Mr _ hp)).2.1⟩)
    case hc=>rw [htx];exact Nc _ (Fe _ (hA4.five _ hpk)) _ (.head _)
    case ht=>rw [htx];exact txt_len _ (hA4.five _ hpk)
    case kE=>exact fun _ _ _ _ _ _ h _ _ _ _ _ _=>by rw [hA9.yes hpk] at h;cases h
    case kS =>
     with_reducible refine let_mvar% ?zq19:=(fun s11 u11 t11 tk11=>?_:Fa4 _);Ax Bc (Cy:Tie _ (type_of% ?zq19)) (?zq19 _ _ _ _)
     intro hr11 ht11 F11 N11' o11 b11
     have N11:News g4 L' s11.heap ((SM,lst (strValues sl))::(h3.objs.size,oI)::(ax,listOf (Ba ta tb tc td) 0)::(K,lst (strValues (scs.flatMap (·.2))))::(L'+1,om)::(L'+1+1,ou5)::(x,instObj 150 dx)::(dx,dictOf (wd hsh tkn (.bool false) (.bool false) .none ev (.bool false) .none .none .none wr da de ns pm pr rs rd ig) ep)::(dl,listOf (its++exr9) n9)::tups9):=News.sub N11' (by walk_at "l_sub")
     clear N11'
     have hu11:u11=uri:=by
      rw [hA9.yes hpk] at hr11
      injection hr11 with h
      rw [← h];exact hpm
     rw [hu11,braX] at ht11;rw [ht11]
     (try dsimp only)
     repeat' (first
      | ((with_reducible show wpAny _ _ (eval (Expr.Name (Str.ofString "uri") _) _) _ _ _);(rename News ..=>N9);refine nameX_C N9 (c:=L'+1+1) (o:=ou5) rfl (by k_mem) hcu5 ?_ rfl rfl)
      | ((with_reducible show wpAny _ _ (compareOp CmpOp.NotEq (.str _ _) (.str _ _)) _ _ _);refine Gx ?_)
      | ((fail_if_success (with_reducible show Q9 _ _));walk_at "go"))
     rename Fr ..=>F12
     rename News ..=>N12
     have hoff:∀ p∈tups9,p∈tups∨∀ r∈[(SM,lst (strValues sl)),(h3.objs.size,oI),(ax,listOf (Ba ta tb tc td) 0),(K,lst (strValues (scs.flatMap (·.2)))),(L'+1,om),(L'+1+1,ou5)],p.1≠r.1:=fun p hp=>(htup9 p (.tail _ hp)).2.elim (fun h=>(htup7 p (.tail _ h)).2) fun h=>.inr fun r hr=>h r (.tail _ hr)
     refine hq9 _ _ ?_
     refine⟨g4,_,_,⟨ou5,n9,exr9,exs9,tups9,_,_,_,_,_,_,_,T4,B4,D4,Pp ?m6,rfl,hcu5,hex9,?len,hA9,?tf⟩,F12,News.sub N12 (by walk_at "l_sub"),?oI,o11,b11⟩
     case m6=>intro y h1 h2 h3 h4 h5 h6;simp only [m6,h1,h2,h3,h4,h5,h6,if_false]
     case len=>exact(Nat.le_of_not_lt fun hn1=>fk [_,_,_,_] (.c 1 (.v 0) (.a (.k 0) (.v 1)) (.c 1 (.v 2) (.a (.v 0) (.k 1)) (.c 1 (.v 3) (.v 2) (.c 1 (.a (.a (.k 0) (.a (.v 1) (.k 1))) (.k 1)) (.v 3) (.k 0))))) rfl hexl hel hxl hn1)
     case tf=>exact fun p hp=>⟨(hne9 p hp).1,(hne9 p hp).2.1,(hne9 p hp).2.2,(hoff p hp).elim (fun h=>(htup p h).2.2.2) fun h=>h (L'+1+1,ou5) (by k_mem)⟩
     case oI =>
      refine Fc (off4 (ax,listOf (Ba ta tb tc td) 0) (by k_mem)) (Fc (off4 (K,lst (strValues (scs.flatMap (·.2)))) (by k_mem)) (Fc (off4 (L'+1,om) (by k_mem)) (Fc (off4 (L'+1+1,ou4) (by k_mem)) (Fc (off4 (x,instObj 150 dx) (by k_mem)) (Fc (off4 (dx,dictOf (wd hsh tkn (.bool false) (.bool false) .none ev (.bool false) .none .none .none wr da de ns pm pr rs rd ig) ep) (by k_mem)) (Fc (off4 (dl,listOf (its++exr) n4) (by k_mem)) fun p hp=>?_))))))
      exact(hoff p hp).elim (fun h=>off4 p (.tail _ (.tail _ (.tail _ (.tail _ (.tail _ (.tail _ (.tail _ h)))))))) fun h=>h (h3.objs.size,oI) (by k_mem)
end
section

theorem ss_es{prog:Program}{w:World}:∀ {es:List DictEntry} {kvs:List (Str × Value)} {q:List (Str × (Str × Tok))},(∀ e∈es,∃ k,(strKind prog w).is k e.key=true∧e.hash=(strKind prog w).hash k)→Pairs (strKind prog w) es kvs→kvs=q.map (fun p=>(p.1,.str p.2.1 p.2.2)) →
  ∃ l,es=Bb w.params l∧(l.map fun p=>(p.1.1,p.2.1))=q.map fun p=>(p.1,p.2.1):=by
 intro es kvs q
 induction q generalizing es kvs with
 | nil=>intro _ hp he;subst he;cases hp;exact⟨[],rfl,rfl⟩
 | cons p q ih =>
  intro hk hp he;obtain⟨k,v,t⟩:=p;subst he;rw [List.map_cons] at hp
  cases es with
  | nil=>cases hp
  | cons e es =>
  cases hp with
  | cons a b r =>
  obtain⟨l,hl,hq⟩:=ih (fun e he=>hk e (.tail _ he)) r rfl
  obtain⟨k',h1,h2⟩:=hk _ (.head _);have:=(strKind prog w).inj _ _ _ a h1;dsimp only at this;subst this;obtain⟨tk',ek⟩:=Value.isStrOf_shape a;obtain⟨eh,ekey,ev⟩:=e;dsimp only at ek b h2;subst ek b h2
  exact⟨((k,tk'),(v,t))::l,by rw [hl];rfl,by rw [List.map_cons,hq];rfl⟩
theorem ss_of{prog:Program}{w:World}{o:Obj}{kvs:List (Str × Value)}{q:List (Str × (Str × Tok))}(h:o.IsDictOf (strKind prog w) kvs)(e:kvs=q.map fun p=>(p.1,.str p.2.1 p.2.2)) :
  ∃ l n,o=dictOf (Bb w.params l) n∧(l.map fun p=>(p.1.1,p.2.1))=q.map fun p=>(p.1,p.2.1):=by
 obtain⟨es,ep,⟨x1,x2,x3⟩,hd,hk,hp,hn⟩:=h
 obtain⟨l,e1,e2⟩:=ss_es (fun e he=>hk e (by simpa using he)) hp e
 refine⟨l,ep,?_,e2⟩;obtain⟨c,d,dt,sl⟩:=o;dsimp only at x1 x2 x3 hd;subst x1 x2 x3 hd;rw [← e1]
section
variable{prog:Program}{w:World}{A:Around}{E:Value→Shared→Prop}{s:Shared}
theorem Wk{value slice:PySem.Expr}{a:Addr}{l:List (Str × Tok)}{i:Int}{t:Tok}{Q:Value→Shared→Prop}(hl:s.heap.IsList a (strValues l).toArray)(h0:0≤i)(h1:i<l.length)(h2:l.length≤100)
  (h:∀ p t',p∈l.map (·.1)→Q (.str p t') s)
  (hs:subscripted slice false (.ref a) (.int i t)=operate [.ref a,.int i t] (getItem (.ref a) (.int i t)):=by with_unfolding_all rfl) :
  wpAny (model prog w) A (subscriptTail value slice (.ref a) (.int i t)) Q E s:=by
 obtain⟨k,rfl⟩:=Int.eq_ofNat_of_zero_le h0
 have hk:k<l.length:=by omega
 have e1:l[k]?=some l[k]:=List.getElem?_eq_getElem hk
 refine tail_any hl.typeIs PySem.F.slot_list_getitem.lookup (wpAny_getItem_list hl h0 (by omega) (x:=.str l[k].1 l[k].2) ?_ (h _ l[k].2 (List.mem_map_of_mem (List.getElem_mem hk)))) hs
 rw [Int.toNat_natCast,List.getElem?_toArray];unfold strValues;rw [List.getElem?_map,e1];rfl
theorem nth_mod{value slice:PySem.Expr}{o:Addr}{l:List (Str × Tok)}{a b:Int}{t:Tok}{Q:Value→Shared→Prop}(hl:s.heap.IsList o (strValues l).toArray)(hb:b=((strValues l).length:Int))(hn:l≠[])(h2:l.length≤100)
  (h:∀ p t',p∈l.map (·.1)→Q (.str p t') s)
  (hs:subscripted slice false (.ref o) (.int (a.fmod b) t)=operate [.ref o,.int (a.fmod b) t] (getItem (.ref o) (.int (a.fmod b) t)):=by with_unfolding_all rfl) :
  wpAny (model prog w) A (subscriptTail value slice (.ref o) (.int (a.fmod b) t)) Q E s:=by
 have hp:0<l.length:=List.length_pos_iff.mpr hn
 have hbl:b=(l.length:Int):=by rw [hb];simp [strValues]
 have h0:0<b:=by omega
 exact Wk hl (Int.fmod_nonneg_of_pos a h0) (by have:=Int.fmod_lt_of_pos a h0;omega) h2 h hs
theorem tail_push{value slice:PySem.Expr}{l:Addr}{its:Array Value}{v:Value}{t:Tok}{Q:Value→Shared→Prop}(hl:s.heap.IsList l (its.push v))(h:Q v s)
  (hs:subscripted slice false (.ref l) (.int (-1) t)=operate [.ref l,.int (-1) t] (getItem (.ref l) (.int (-1) t)):=by with_unfolding_all rfl) :
  wpAny (model prog w) A (subscriptTail value slice (.ref l) (.int (-1) t)) Q E s :=
 Cu (vs:=its.toList) (v:=v) (by(have e:(its.toList++[v]).toArray=its.push v:=by cases its;exact(List.push_toArray _ _).symm);rw [e];exact hl) h hs
end
section
variable{prog:Program}{w:World}{A:Around}{E:Value→Shared→Prop}{s:Shared}{h₀:Heap}{L d:Addr}{m:Str→Option Value}{news:List (Addr × Obj)}{g:Obj→List (Addr × Obj)}{o:Obj}
noncomputable def Jm(prog:Program)(w:World)(o:Obj)(q:List (Str × (Str × Tok))):Prop :=
 o.IsDictOf (strKind prog w) (q.map fun p=>(p.1,.str p.2.1 p.2.2))∧∃ D,PyProof.V.FlatPairs PyData.str (q.map fun p=>(p.1,.str p.2.1 p.2.2)) D
theorem Vp{kvs:List (Str × Value)}{D:List (PyData × PyData)}(h:PyProof.V.FlatPairs PyData.str kvs D):D.length=kvs.length:=by
 induction h<;>simp_all
theorem Wm{k v:Str}{tk t:Tok}{q:List (Str × (Str × Tok))}{Q:Unit→Shared→Prop}(F:Fr h₀ L s.heap m)(N:News h₀ L s.heap news)(U:UpdF d o news g)(hd:Jm prog w o q)(hk:k∉q.map (·.1))(hz:q.length≤10)
  (h:∀ h' o' tk',Fr h₀ L h' m→News h₀ L h' (g o')→Jm prog w o' (q++[(k,(v,t))])→Q () { s with heap:=h',toks:=tk' }):wpAny (model prog w) A (setItem (.ref d) (.str k tk) (.str v t)) Q E s:=by
 obtain⟨h1,D,h2⟩:=hd
 have e:stored (q.map fun p=>(p.1,.str p.2.1 p.2.2)) k (.str v t)=(q++[(k,(v,t))]).map fun p=>(p.1,.str p.2.1 p.2.2):=by
  unfold stored;rw [if_neg,List.map_append]
  ·rfl
  ·intro hc
   simp only [List.any_map,List.any_eq_true,Function.comp,decide_eq_true_eq] at hc
   obtain⟨p,hp,he⟩:=hc;exact hk (he ▸ List.mem_map_of_mem hp)
 refine setItem_K PyProof.V.same_str (strKind_is _ _ _ _) (PyProof.V.Flat.str _ _) F N U h1 h2 (fun h' o' F' N' a b=>?_) ?_
 ·rw [e] at a b
  exact h h' o' _ F' N' ⟨a,_,b⟩
 ·rw [Vp h2,List.length_map,sizeLine_eq];exact(Nl fun hn1=>fk [_] (.e V0 (.k 10) (.e (.s (.k 16777216)) V0 K0)) rfl hz hn1)
theorem new_dict{env:Env}{pos:Pos}{Q:Value→Shared→Prop}(F:Fr h₀ L s.heap m)(N:News h₀ L s.heap news)(hbig:h₀.NoLimit)
  (k:∀ d h' o,Fr h₀ L h' m→News h₀ L h' ((d,o)::news)→(∀ p∈news,p.1<d)→(d == sysModules)=false→Jm prog w o []→Q (.ref d) { s with heap:=h' }):wpAny (model prog w) A (eval (.Dict [] [] pos) env) Q E s :=
 newDict_K F N hbig fun d h' o F' N' l lo a b _ _=>k d h' o F' N' l lo ⟨a,_,b⟩
theorem Jm.ss{q:List (Str × (Str × Tok))}(h:Jm prog w o q):∃ l n,o=dictOf (Bb w.params l) n∧(l.map fun p=>(p.1.1,p.2.1))=q.map fun p=>(p.1,p.2.1):=ss_of h.1 rfl
end
section
variable{prog:Program}{w:World}{A:Around}{E:Value→Shared→Prop}{s:Shared}{h₀:Heap}{L:Addr}{m:Str→Option Value}{news:List (Addr × Obj)}
theorem unpack_two{t:Addr}{v1 v2:Value}{n:Nat}{Q:List Value→Shared→Prop}(hh:A.handled=none)(hF:Fr h₀ L s.heap m)(N:News h₀ L s.heap ((t,Ad #[v1,v2])::news))
  (hQ:∀ h',Fr h₀ L h' m→News h₀ L h' news→Q [v1,v2] { s with heap:=h' }) (hn:n=2):wpAny (model prog w) A (unpackItems (.ref t) n none) Q E s:=by
 subst hn
 exact unpackItems_tuple (items:=#[v1,v2]) hh ⟨_,(N _ (.head _)).1,rfl,_,rfl⟩ fun h' he=>hQ h' (Fr.extBut hF he (Nat.le_refl _)) (News.sub (News.ext N he) fun _ z=>.tail _ z)
theorem Vf{a b:Int}{t u:Tok}{Q:Value→Shared→Prop}(F:Fr h₀ L s.heap m)(N:News h₀ L s.heap news)(hb:b≠0)
  (h:∀ z h' t1 t2 tk,Fr h₀ L h' m→News h₀ L h' ((z,Ad #[.int (a.fdiv b) t1,.int (a.fmod b) t2])::news)→(∀ p∈news,p.1<z)→Q (.ref z) { s with toks:=tk,heap:=h' })
  (hp:Builtin.divisionGoesByPylong a b=false∨PySem.PylongRoom (model prog w) A s:=by first | exact Or.inl (PyProof.noPylong_of_log2 (by decide +kernel)) | exact Or.inl (PyProof.noPylong_small (by omega)) | exact Or.inr (PySem.PylongRoom.of (by first | assumption | (refine PySem.Heap.NoLimit.keeps ?_ (PyProof.Rows.Fr.keep (by assumption));first | assumption | exact PyProof.Rows.Glob.nolimit (by assumption) | exact PyProof.Rows.Top.nolimit (by assumption)) | exact PyProof.Rows.Glob.nolimit (by assumption) | exact PyProof.Rows.Top.nolimit (by assumption)) (of_decide_eq_true (by with_unfolding_all rfl))) | assumption) :
  wpAny (model prog w) A (call (.builtin "divmod") [.int a t,.int b u]) Q E s :=
 divmod_N F N hb (fun h' F' N'=>h _ h' _ _ _ F' N' fun p hp=>Heap.lt_size (N p hp).1) hp
end
end
section

section
variable{prog:Program}{w:World}{A:Around}{E:Value→Shared→Prop}{s:Shared}
theorem Vn:∀ i:Fin 5,∃ c,(seqIndex? (i.val:Int) (Str.ofString "pbqcr").length).bind ((Str.ofString "pbqcr").cps[·]?)=some c∧(⟨#[c]⟩:Str)∈five:=by
 intro i
 match i with
 | 0=>exact⟨_,rfl,by decide +kernel⟩
 | 1=>exact⟨_,rfl,by decide +kernel⟩
 | 2=>exact⟨_,rfl,by decide +kernel⟩
 | 3=>exact⟨_,rfl,by decide +kernel⟩
 | 4=>exact⟨_,rfl,by decide +kernel⟩
theorem Ue{value slice:PySem.Expr}{a:Int}{t u:Tok}{Q:Value→Shared→Prop}
  (h:∀ p t' tk,p∈five→Q (.str p t') { s with toks:=tk })
  (hs:subscripted slice false (.str (Str.ofString "pbqcr") u) (.int (a.fmod 5) t)=operate [.str (Str.ofString "pbqcr") u,.int (a.fmod 5) t] (getItem (.str (Str.ofString "pbqcr") u) (.int (a.fmod 5) t)):=by with_unfolding_all rfl) :
  wpAny (model prog w) A (subscriptTail value slice (.str (Str.ofString "pbqcr") u) (.int (a.fmod 5) t)) Q E s:=by
 have h0:=Int.fmod_nonneg_of_pos a (by decide:(0:Int)<5)
 have h1:=Int.fmod_lt_of_pos a (by decide:(0:Int)<5)
 obtain⟨k,hk⟩:=Int.eq_ofNat_of_zero_le h0
 have hk5:k<5:=by omega
 obtain⟨c,hc,h5⟩:=Vn ⟨k,hk5⟩;refine tail_any (typeIs_str _ _ _) PySem.F.slot_str_getitem.lookup ?_ hs;rw [hk];refine PySem.P.getItem_str (c:=c) ?_ hc ?_
 ·simp;omega
 ·exact h _ _ _ h5
end
end
section

abbrev LT03(tabs:List (Addr × Obj)):Prop:=Ds 123 ⟨139,71,139,96⟩ "C14NWriterTarget._start.<locals>.<lambda>" tabs
theorem Ru(f:FD)(w:WS)(x:Addr){a:Addr}(h:a∈f.eight x):∃ q∈f.own w x,q.1=a:=by
 have e8:f.eight x=(f.base w x).map (·.1):=rfl;rw [e8] at h;obtain⟨q,hq,e⟩:=List.mem_map.mp h;exact⟨q,Ml _ hq,e⟩
theorem Wl(f:FD)(w:WS)(x:Addr){q:Addr × Obj}(h:q∈f.own w x):q.1∈f.eight x∨q∈f.rest:=by
 have e8:f.eight x=(f.base w x).map (·.1):=rfl
 rcases List.mem_append.mp (show q∈f.base w x++f.rest from h) with z | z
 ·exact .inl (e8 ▸ List.mem_map_of_mem (f:=(·.1)) z)
 ·exact .inr z
theorem Jk{f:FD}{w:WS}{x:Addr}{tabs:List (Addr × Obj)}(d:Dis (f.own w x) tabs):f.Off x tabs:=by
 intro r hr
 refine⟨fun z=>?_,fun q hq e=>d q (Mr _ hq) r hr e.symm⟩
 obtain⟨q,hq,e⟩:=Ru f w x z;exact d q hq r hr e
theorem Jj{f:FD}{w:WS}{x:Addr}{tabs:List (Addr × Obj)}(h:f.Off x tabs):Dis (f.own w x) tabs:=by
 intro p hp r hr e
 rcases Wl f w x hp with y | y
 ·exact(h r hr).1 (e ▸ y)
 ·exact(h r hr).2 p y e.symm
structure OwnS (W:World) (x:Addr) (v:WS) (f:FD) (tabs rest:List (Addr × Obj)):Prop where
 is:f.Is W v x
 lam:LT03 tabs
 d1:Dis (f.own v x) tabs
 d2:Dis (f.own v x++tabs) rest
section
variable{W:World}{A:Around}{E:Value→Shared→Prop}{s:Shared}{g:Heap}{os:OsState}{p:Program}{zw:List Str}{zr:ExcName→Option Value}{mg mb:Str→Option Value}{L:Addr}{m:Str→Option Value}{Q:Value→Shared→Prop}{w:WS}{f:FD}{x:Addr}{tabs rest:List (Addr × Obj)}{n:Nat}
theorem own_apart{own:List (Addr × Obj)}{g₂:Heap}{s':Shared}(H:Ok g₂ os own s')(r₂:∀ q∈rest,g₂.get? q.1=some q.2):Dis own rest:=fun q hq r hr e=>by
 have z1:=(H.own q hq).2;rw [e,r₂ r hr] at z1
 cases z1
theorem Vb{pf uri:Str}{tp tu:Tok}(X:(hd03.heap_39 W.params).In g)(T:Top p zw zr mg mb g)(hh:A.handled=none)(zq:A.depth<600)(F:Fr g L s.heap m)(N:News g L s.heap (f.own w x++tabs++rest))(o1:s.os=os)(b1:AllBare s.gens)
  (O:OwnS W x w f tabs rest) (hf:Fit n w) (hn:n≤100) (hc:Cz w (.sns pf uri))
  (h:∀ (f':FD) (s':Shared),OwnS W x (w.tell (.sns pf uri)) f' tabs rest→Fr g L s'.heap m→News g L s'.heap (f'.own (w.tell (.sns pf uri)) x++tabs++rest)→s'.os=os→AllBare s'.gens→Q .none s') :
  wpAny (model rw_dn0283_03.row.prog W) A (call (.ref 113) [.ref x,.str pf tp,.str uri tu]) Q E s:=by
 refine Ca (f.own w x++tabs) rest F N o1 b1 (fun q hq=>Ml _ hq) (fun q hq=>Mr _ hq) (fun q hq z=>?_) fun g₂ H₂ K₂ r₂ back=>?_
 ·obtain⟨q',hq',e⟩:=List.mem_map.mp z
  exact O.d2 q' hq' q hq e
 refine do_sns (X.keeps K₂) (T.keeps K₂) hh zq H₂ O.is (Jk O.d1) hf hn hc fun f' s' _ hI' hT' H'=>?_
 obtain⟨F',N',o',b'⟩:=back _ _ H';exact h f' s' ⟨hI',O.lam,Jj hT',own_apart H' r₂⟩ F' N' o' b'
theorem Th{d:Str}{td:Tok}(X:(hd03.heap_39 W.params).In g)(T:Top p zw zr mg mb g)(hh:A.handled=none)(zq:A.depth<600)(F:Fr g L s.heap m)(N:News g L s.heap (f.own w x++tabs++rest))(o1:s.os=os)(b1:AllBare s.gens)
  (O:OwnS W x w f tabs rest) (hf:Fit n w) (hn:n≤100) (hc:Cz w (.stop d))
  (h:∀ (f':FD) (s':Shared),OwnS W x (w.tell (.stop d)) f' tabs rest→Fr g L s'.heap m→News g L s'.heap (f'.own (w.tell (.stop d)) x++tabs++rest)→s'.os=os→AllBare s'.gens→Q .none s') :
  wpAny (model rw_dn0283_03.row.prog W) A (call (.ref 133) [.ref x,.str d td]) Q E s:=by
 refine Ca (f.own w x++tabs) rest F N o1 b1 (fun q hq=>Ml _ hq) (fun q hq=>Mr _ hq) (fun q hq z=>?_) fun g₂ H₂ K₂ r₂ back=>?_
 ·obtain⟨q',hq',e⟩:=List.mem_map.mp z
  exact O.d2 q' hq' q hq e
 refine do_stop (X.keeps K₂) (T.keeps K₂) hh zq H₂ O.is (Jk O.d1) hf hn hc fun f' s' _ hI' hT' H'=>?_
 obtain⟨F',N',o',b'⟩:=back _ _ H';exact h f' s' ⟨hI',O.lam,Jj hT',own_apart H' r₂⟩ F' N' o' b'
theorem Qz{tag:Str}{tt:Tok}{at_:Addr}{na:Nat}{l:List ((Str × Tok) × (Str × Tok))}(X:(hd03.heap_39 W.params).In g)(T:Top p zw zr mg mb g)(hh:A.handled=none)(zq:A.depth<600)(hu:A.units<8000)(C116:CodeHd g 125 123)(F:Fr g L s.heap m)(N:News g L s.heap (f.own w x++tabs++rest))(o1:s.os=os)(b1:AllBare s.gens)
  (O:OwnS W x w f tabs rest) (hf:Fit n w) (hn:n≤100) (hc:Cz w (.start tag (l.map fun p=>(p.1.1,p.2.1)))) (hat:(at_,dictOf (Bb W.params l) na)∈rest) (hsys:(at_ == sysModules)=false) (hgo:Dh tag=false)
  (h:∀ (f':FD) (s':Shared) (zt:List (Addr × Obj)),OwnS W x (w.tell (.start tag (l.map fun p=>(p.1.1,p.2.1)))) f' zt rest→Fr g L s'.heap m→News g L s'.heap (f'.own (w.tell (.start tag (l.map fun p=>(p.1.1,p.2.1)))) x++zt++rest)→s'.os=os→AllBare s'.gens→Q .none s') :
  wpAny (model rw_dn0283_03.row.prog W) A (call (.ref 120) [.ref x,.str tag tt,.ref at_]) Q E s:=by
 refine Ca (f.own w x++tabs) rest F N o1 b1 (fun q hq=>Ml _ hq) (fun q hq=>Mr _ hq) (fun q hq z=>?_) fun g₂ H₂ K₂ r₂ back=>?_
 ·obtain⟨q',hq',e⟩:=List.mem_map.mp z
  exact O.d2 q' hq' q hq e
 refine Vg (X.keeps K₂) (T.keeps K₂) hh zq H₂ O.is (Jk O.d1) hf hn hc (r₂ _ hat) hsys (.inr hgo) hu (C116.keeps K₂) O.lam fun f' s' zt hL' hk' hI' hT' H'=>?_
 obtain⟨F',N',o',b'⟩:=back _ _ H';exact h f' s' zt ⟨hI',hL',Jj hT',own_apart H' r₂⟩ F' N' o' b'
end
end
section

theorem Oz{a:List (List Pr)}{b:List Pr}:flat (a++[b])=b++flat a:=by unfold flat;simp
theorem ndl_ne{β:Type}{db nb:List (Addr × β)}{dl:Addr}{i:β}(nd:((db++[(dl,i)]).map (·.1)++nb.map (·.1)).Nodup):(∀ q∈db,q.1≠dl)∧∀ q∈nb,q.1≠dl:=by
 obtain⟨n1,n2,n3⟩:=List.nodup_append.mp nd
 refine⟨fun q hq=>Sr n1 hq,fun q hq e=>n3 dl (by simp) q.1 (List.mem_map_of_mem hq) e.symm⟩
noncomputable abbrev slv(l:Addr × List (Str × Tok) × Nat):Addr × Obj:=(l.1,listOf (strValues l.2.1).toArray l.2.2)
section
variable{W:World}{A₀:Around}{name:Str}{scope:Scope}{a:Addr}{cd:Value}{E:Value→Shared→Prop}{s:Shared}{base g:Heap}{os:OsState}{p:Program}{zw:List Str}{zr:ExcName→Option Value}{mg mb:Str→Option Value}{L:Addr}{m:Str→Option Value}{Q:Value→Shared→Prop}{w:WS}{f:FD}{x:Addr}{tabs rest:List (Addr × Obj)}{n:Nat}
theorem Qx{sc md:Addr}{om:Obj}{k2:Nat}{kvs:List (Str × Value)}{scs:List (Addr × List (Str × Tok) × Nat)}{N0:List Str}(XB:(hd03.heap_39 W.params).In base)(TB:Top p zw zr mg mb base)(B:Below A₀ base [] g)(hh:(A₀.deeper (envOf name scope L a cd)).handled=none)(zq:(A₀.deeper (envOf name scope L a cd)).depth<600)(hu:(A₀.deeper (envOf name scope L a cd)).units<8000)
  (F:Fr g L s.heap m) (N:News g L s.heap (f.own w x++tabs++rest)) (o1:s.os=os) (b1:AllBare s.gens) (O:OwnS W x w f tabs rest) (hf:Fit n w) (hn:n≤100) (hw:NW w (scs.map fun l=>l.2.1.map (·.1)) N0)
  (hsc:(sc,listOf (scs.map fun l=>Value.ref l.1).toArray k2)∈rest) (hsl:∀ l∈scs,slv l∈rest) (hz:scs.length≤100) (hkz:(scs.flatMap fun l=>l.2.1).length≤200) (hmd:(md,om)∈rest) (hom:om.IsDictOf (PySem.strKind rw_dn0283_03.row.prog W) kvs) (hme:∀ q∈five,∃ t,valueAt kvs q=some (.str (Aq q) t))
  (h:∀ (f':FD) (s':Shared),OwnS W x w f' tabs rest→Fr g L s'.heap m→News g L s'.heap (f'.own w x++tabs++rest)→s'.os=os→AllBare s'.gens→Q (.bool true) s') (hk:scope.kind=.function:=by rfl) :
  wpAny (model rw_dn0283_03.row.prog W) (A₀.deeper (envOf name scope L a cd)) (call (.ref 173) [.ref x,.ref sc,.ref md]) Q E s:=by
 have hI:=O.is;obtain⟨i1,i2,i3,i4,i5,i6,nd,off,ndl,left⟩:=O.is
 obtain⟨db,⟨dl,its⟩,edl⟩:=Dm (l:=f.dlv) (by rw [i5.length,hf.l1];exact hf.l4)
 obtain⟨cn,hdl⟩:=i3 (dl,its) (by rw [edl];exact Mr _ (.head _))
 have i5':=i5;rw [edl] at i5' ndl;obtain⟨r1,t1,eds,k1,k2'⟩:=All2.unsnoc i5';obtain⟨hbd,hbn⟩:=ndl_ne ndl;obtain⟨filt,hin,hout⟩:=Sj dl f.rest
 have hT:f.Off x (tabs++rest):=Jk fun p hp q hq=>(List.mem_append.mp hq).elim (O.d1 p hp q) (fun hq=>O.d2 p (Ml _ hp) q hq)
 obtain⟨p1,p2,p3⟩:=hI.preN hT 2 hdl hout
 have lft:∀ q∈f.own w x++(tabs++rest),q∈f.own w x++tabs++rest:=fun q hq=>by rw [List.append_assoc];exact hq
 have hmr:∀ q∈f.rest,q∈f.own w x++tabs++rest:=fun q hq=>Ml _ (Ml _ (Mr _ hq))
 have htup:∀ a o,(a,Ad o)∈f.rest→a≠dl:=fun a o hm=>Dr (N _ (hmr _ hm)).1 (N _ (hmr _ hdl)).1
 have mono:∀ {v:Value} {q:Pr},Ak f.rest v q→Ak filt v q:=fun⟨a',y1,y2,e,hm⟩=>⟨a',y1,y2,e,hin _ hm (htup _ _ hm)⟩
 have f1:=hf.f1;have f2:=hf.f2;have z5:=Cs i5;have z6:=Cs i6
 have zd:(t1++flat r1).length=(flat w.decl).length:=by rw [eds,Oz]
 refine Ti (os:=os) [(x,instObj 150 f.dx),(f.dx,dictOf (wd f.hsh f.tkn (.bool false) (.bool false) .none f.ev (.bool false) .none .none .none f.wr f.da f.de f.ns f.pm f.pr w.seen w.done 0) f.ep),(dl,listOf its cn)] ((f.base w x).drop 2++(filt++(tabs++rest))) B F N o1 b1 (fun q hq=>lft q (p1 q hq)) (fun q hq=>lft q (p2 q hq)) p3 (fun g₂ H₂ K₂ r₂ B₂ D₂ back=>?_) hk
 have rr:∀ q∈rest,g₂.get? q.1=some q.2:=fun q hq=>(r₂ q (Mr _ (Mr _ (Mr _ hq)))).1
 have rf:∀ q∈filt,g₂.get? q.1=some q.2:=fun q hq=>(r₂ q (Mr _ (Ml _ hq))).1
 have r2n:∀ q∈(f.base w x).drop 2++(filt++(tabs++rest)),g₂.get? q.1=some q.2:=fun q hq=>(r₂ q hq).1
 refine Qu (dlv:=db) (nlv:=f.nlv) (la:=t1) (lo:=flat r1) (nps:=flat w.nss) (base:=base) (outer:=[envOf name scope L a cd]) (sc:=sc) (mn:=md) (scs:=scs.map fun l=>(l.1,l.2.1)) (kn:=(scs.map fun l=>l.2.1.map (·.1)).flatten) (kvs:=kvs) XB TB B₂ D₂ H₂ ⟨?de,?dl,?lo,?la,?ns,?nl,?np,?mn⟩ ?hDz ?hNz ?hDn ?nd3 ?hSc ?hSl ?hSz ?hkn ?hkz (r₂ (md,om) (Mr _ (Mr _ (Mr _ hmd)))).2 hme ?hA hh zq hu ?hR
 case de =>
  have e:f.dlv.map (fun p=>Value.ref p.1)=db.map (fun p=>Value.ref p.1)++[Value.ref dl]:=by rw [edl,List.map_append];rfl
  rw [← e];exact⟨_,r2n (f.de,_) (Ml _ (.tail _ (.tail _ (.tail _ (.head _))))),rfl,_,rfl⟩
 case dl =>
  intro q hq
  obtain⟨k,hk⟩:=i3 q (by rw [edl];exact Ml _ hq)
  exact⟨_,rf _ (hin _ hk (hbd q hq)),rfl,_,rfl⟩
 case lo=>exact(Cq k1).mono fun _ _ z=>Bx rf (mono z)
 case la=>exact k2'.mono fun _ _ z=>Bx rf (mono z)
 case ns=>exact⟨_,r2n (f.ns,_) (Ml _ (.tail _ (.tail _ (.tail _ (.tail _ (.head _)))))),rfl,_,rfl⟩
 case nl =>
  intro q hq;obtain⟨k,hk⟩:=i4 q hq;exact⟨_,rf _ (hin _ hk (hbn q hq)),rfl,_,rfl⟩
 case np=>exact(Cq i6).mono fun _ _ z=>Bx rf (mono z)
 case mn=>obtain⟨es,ep,r⟩:=hom;exact⟨om,es,ep,rr (md,om) hmd,r⟩
 case hDz =>
  intro q hq
  have h1:=z5 q (by rw [edl];exact Ml _ hq)
  have h2:(2:Int) ^ 63=9223372036854775808:=by decide
  omega
 case hNz =>
  intro q hq;have h1:=z6 q hq
  have h2:(2:Int) ^ 63=9223372036854775808:=by decide
  omega
 case hDn=>exact(Nat.lt_of_not_le fun hn1=>fk [_,_,_] (.c 4 (.v 0) (.k 100) (.c 1 (.v 1) (.a (.m 4 (.v 0)) (.k 1)) (.c 1 (.v 2) (.v 1) (.c 1 (.k 2000) (.v 2) (.k 0))))) rfl hn f1 (Nat.le_of_eq zd) hn1)
 case nd3 =>
  refine List.nodup_cons.mpr ⟨fun z=>?_,List.nodup_cons.mpr ⟨fun z=>?_,List.nodup_cons.mpr ⟨List.not_mem_nil,List.nodup_nil⟩⟩⟩
  ·rcases List.mem_cons.mp z with z | z
   ·exact(List.nodup_cons.mp nd).1 (by rw [z];exact .head _)
   ·exact off _ hdl (by rw [← List.mem_singleton.mp z];exact .head _)
  ·exact off _ hdl (by rw [← List.mem_singleton.mp z];exact .tail _ (.head _))
 case hSc=>rw [List.map_map];exact⟨_,rr _ hsc,rfl,_,rfl⟩
 case hSl =>
  intro q hq;obtain⟨l,hl,rfl⟩:=List.mem_map.mp hq;exact⟨_,rr _ (hsl l hl),rfl,_,rfl⟩
 case hSz=>rw [List.length_map];exact hz
 case hkn=>rw [List.flatMap_map,List.map_flatMap,List.flatMap_def]
 case hkz =>
  rw [show (scs.map fun l=>l.2.1.map (·.1)).flatten=(scs.flatMap fun l=>l.2.1).map (·.1) from by rw [List.map_flatMap,List.flatMap_def],List.length_map];exact hkz
 case hA=>have:=hw.ask;rw [eds,Oz] at this;exact this
 case hR =>
  intro s' g' n' T' H';obtain⟨F',N',o',b'⟩:=back s' _ g' T' H';have hne:dl∉f.eight x:=off _ hdl;refine h { f with rest:=(dl,listOf its n')::filt } s' ⟨⟨i1,i2,?x1,?x2,?x3,?x4,nd,?x5,?x6,?x7⟩,O.lam,?x8,?x9⟩ F' (News.sub N' ?x10) o' b'
  case x1 =>
   intro q hq;have hq:q∈f.dlv:=hq;rw [edl] at hq
   rcases List.mem_append.mp hq with hq | hq
   ·obtain⟨k,hk⟩:=i3 q (by rw [edl];exact Ml _ hq)
    exact⟨k,.tail _ (hin _ hk (hbd q hq))⟩
   ·rw [List.mem_singleton.mp hq];exact⟨n',.head _⟩
  case x2 =>
   intro q hq;obtain⟨k,hk⟩:=i4 q hq;exact⟨k,.tail _ (hin _ hk (hbn q hq))⟩
  case x3=>exact i5.mono fun _ _ z=>z.mono fun _ _ z=>(mono z).mono fun _ h=>.tail _ h
  case x4=>exact i6.mono fun _ _ z=>z.mono fun _ _ z=>(mono z).mono fun _ h=>.tail _ h
  case x5=>exact Fc hne fun r hr=>off r (hout r hr).1
  case x6=>show (f.dlv.map (·.1)++f.nlv.map (·.1)).Nodup;rw [edl];exact ndl
  case x7=>exact left.mono fun q hq _ h2=>.tail _ (hin _ hq (Dl h2 (N _ (hmr _ hq)).1 (N _ (hmr _ hdl)).1))
  case x8 =>
   refine Jj fun r hr=>⟨(hT r (Ml _ hr)).1,Fc (show r.1≠dl from(hT r (Ml _ hr)).2 _ hdl) fun q hq=>(hT r (Ml _ hr)).2 q (hout q hq).1⟩
  case x9 =>
   intro q hq r hr e
   rcases List.mem_append.mp hq with hq | hq
   ·rcases Wl { f with rest:=(dl,listOf its n')::filt } w x hq with y | y
    ·exact(hT r (Mr _ hr)).1 (e ▸ y)
    ·rcases List.mem_cons.mp y with rfl | y
     ·exact(hT r (Mr _ hr)).2 _ hdl e.symm
     ·exact(hT r (Mr _ hr)).2 q (hout q y).1 e.symm
   ·exact O.d2 q (Mr _ hq) r hr e
  case x10 =>
   refine Fp (Fp (Fp ?_ (Fc (.tail _ (.tail _ (.head _))) fun q hq=>Mr _ (Mr _ (Ml _ hq)))) fun q hq=>Mr _ (Mr _ (Mr _ (Ml _ hq)))) fun q hq=>Mr _ (Mr _ (Mr _ (Mr _ hq)))
   exact Fc (.head _) (Fc (.tail _ (.head _)) fun q hq=>Mr _ (Ml _ hq))
end
end
section
open PyProof.Rows.LCg
noncomputable abbrev dfl(a b c d e f g h:Tok):List (Int × Tok):=[(0,a),(1,b),(4,c),(7,d),(0,e),(2,f),(12,g),(3,h)]
theorem exs5{σ α0 α1 α2 α3 α4:Type}{R:σ→α0→α1→α2→α3→α4→Prop}{G:σ→Prop}(h:∀ s a0 a1 a2 a3 a4,R s a0 a1 a2 a3 a4→G s):∀ s,(∃ a0 a1 a2 a3 a4,R s a0 a1 a2 a3 a4)→G s:=fun s=>exi5 (h s)
theorem Vo{a b c d e:Tok}:∀ q∈five,∃ t,valueAt [(Str.ofString "p",Value.str (Str.ofString "u") a),(Str.ofString "b",.str (Str.ofString "u") b),(Str.ofString "q",.str (Str.ofString "v") c),(Str.ofString "c",.str (Str.ofString "v") d),(Str.ofString "r",.str (Str.ofString "w") e)] q=some (.str (Aq q) t):=by
 intro q hq
 simp only [five,List.mem_cons,List.not_mem_nil,or_false] at hq
 rcases hq with rfl | rfl | rfl | rfl | rfl
 ·exact⟨a,rfl⟩
 ·exact⟨b,rfl⟩
 ·exact⟨c,rfl⟩
 ·exact⟨d,rfl⟩
 ·exact⟨e,rfl⟩
noncomputable abbrev m7(a b c d e f h:Str)(m0:Str→Option Value)(u1 u2 u3 u4 u5 u6 u7:Option Value):Str→Option Value :=
 fun y=>if y=h then u7 else if y=f then u6 else if y=e then u5 else if y=d then u4 else if y=c then u3 else if y=b then u2 else if y=a then u1 else m0 y
theorem m7_of{a b c d e f h:Str}{m m0:Str→Option Value}(k:∀ y,y≠a→y≠b→y≠c→y≠d→y≠e→y≠f→y≠h→m y=m0 y):m=m7 a b c d e f h m0 (m a) (m b) (m c) (m d) (m e) (m f) (m h):=funext fun y=>Co (congrArg m) fun h1=>Co (congrArg m) fun h2=>Co (congrArg m) fun h3=>Co (congrArg m) fun h4=>Co (congrArg m) fun h5=>Co (congrArg m) fun h6=>Co (congrArg m) fun h7=>k y h7 h6 h5 h4 h3 h2 h1
noncomputable abbrev Lo(nm sc x po md nA sa:Addr):Str→Option Value:=fun y=>if y=Str.ofString "names" then some (Value.ref nm) else if y=Str.ofString "scopes" then some (Value.ref sc) else if y=Str.ofString "target" then some (Value.ref x) else if y=Str.ofString "out" then some (Value.ref po) else if y=Str.ofString "means" then some (Value.ref md) else if y=Str.ofString "numbers" then some (Value.ref nA) else List.lookup y [(Str.ofString "script",Value.ref sa)]
noncomputable abbrev SL:=Addr × List (Str × Tok) × Nat
noncomputable abbrev slO(l:SL):Addr × Obj:=(l.1,listOf (strValues l.2.1).toArray l.2.2)
noncomputable abbrev lamPos:Pos:=⟨139,71,139,96⟩
structure LawS (W:World) (x nm sc md:Addr) (om:Obj) (xtra:List (Addr × Obj)) (i:Nat) (v:WS) (f:FD) (tabs:List (Addr × Obj)) (scs:List SL) (nms:List (Str × Tok)):Prop where
 is:f.Is W v x
 lam:Ds 123 lamPos "C14NWriterTarget._start.<locals>.<lambda>" tabs
 fit:Fit i v
 nw:NW v (scs.map fun l=>l.2.1.map (·.1)) (nms.map (·.1))
 six:nms.length≤6
 few:(scs.flatMap fun l=>l.2.1).length≤i
 d1:Dis (f.own v x) (tabs++(scs.map slO++xtra))
 d2:Dis tabs (scs.map slO++xtra)
 d3:((scs.map slO++xtra).map (·.1)).Nodup
 d4:∀ a∈[nm,sc,md],∀ p∈f.own v x++(tabs++(scs.map slO++xtra)),p.1≠a
noncomputable def LawJ(W:World)(g:Heap)(x nm sc md:Addr)(om:Obj)(M0:Str→Option Value)(xtra:List (Addr × Obj))(g':Heap)(i:Nat)(m:Str→Option Value)(own:List (Addr × Obj)):Prop :=
 ∃ (v:WS) (f:FD) (tabs:List (Addr × Obj)) (scs:List SL) (nms:List (Str × Tok)) (k1 k2:Nat) (u1 u2 u3 u4 u5 u6 u7:Option Value),g'=g∧m=m7 "place" "rest" "kind" "known" "name" "attrs" "prefix" M0 u1 u2 u3 u4 u5 u6 u7 ∧
  own=(nm,listOf (strValues nms).toArray k1)::(sc,listOf (scs.map fun l=>Value.ref l.1).toArray k2)::(md,om)::(f.own v x++(tabs++(scs.map slO++xtra)))∧LawS W x nm sc md om xtra i v f tabs scs nms
theorem LawJ.out{W:World}{g:Heap}{x nm sc md:Addr}{om:Obj}{M0:Str→Option Value}{xtra:List (Addr × Obj)}{g':Heap}{i:Nat}{m:Str→Option Value}{own:List (Addr × Obj)}{P:Prop}(h:LawJ W g x nm sc md om M0 xtra g' i m own)
  (k:∀ (v:WS) (f:FD) (tabs:List (Addr × Obj)) (scs:List SL) (nms:List (Str × Tok)) (k1 k2:Nat) (u1 u2 u3 u4 u5 u6 u7:Option Value),g'=g→m=m7 "place" "rest" "kind" "known" "name" "attrs" "prefix" M0 u1 u2 u3 u4 u5 u6 u7 →
   own=(nm,listOf (strValues nms).toArray k1)::(sc,listOf (scs.map fun l=>Value.ref l.1).toArray k2)::(md,om)::(f.own v x++(tabs++(scs.map slO++xtra)))→LawS W x nm sc md om xtra i v f tabs scs nms→P):P:=by
 obtain⟨v,f,tabs,scs,nms,k1,k2,u1,u2,u3,u4,u5,u6,u7,h1,h2,h3,h4⟩:=h;exact k v f tabs scs nms k1 k2 u1 u2 u3 u4 u5 u6 u7 h1 h2 h3 h4
theorem fit0:Fit 0 WS0:=by
 have hx:∀ q∈flat WS0.decl,q.1.length≤100∧q.2.length≤200∧(Di q.1).length≤1000:=by decide +kernel
 have hb:∀ q∈flat WS0.nss,q.1.length≤100∧q.2.length≤200∧(Di q.1).length≤1000:=by decide +kernel
 exact⟨Nat.le_refl _,(fun _ z=>nomatch z),Nat.le_refl _,rfl,rfl,Nat.le_refl _,Nat.le_refl _,by decide +kernel,by decide +kernel,hx,hb⟩
theorem Wr:∀ n:Fin 64,Builtin.Range.small 0 ((n.val:Nat):Int) 1=true∧Builtin.Range.rangeSize 0 ((n.val:Nat):Int) 1=((n.val:Nat):Int):=by decide +kernel
theorem m7_set4{m0:Str→Option Value}{u1 u2 u3 u4 u5 u6 u7 a' b' c' d':Option Value} :
  (fun z=>if z=Str.ofString "known" then d' else if z=Str.ofString "kind" then c' else if z=Str.ofString "rest" then b' else if z=Str.ofString "place" then a' else m7 "place" "rest" "kind" "known" "name" "attrs" "prefix" m0 u1 u2 u3 u4 u5 u6 u7 z)=m7 "place" "rest" "kind" "known" "name" "attrs" "prefix" m0 a' b' c' d' u5 u6 u7 :=
 (m7_of (fun y a b c d e f h=>(if_neg d).trans<|(if_neg c).trans<|(if_neg b).trans<|(if_neg a).trans<|(if_neg h).trans<|(if_neg f).trans<|(if_neg e).trans<|(if_neg d).trans<|(if_neg c).trans<|(if_neg b).trans<|if_neg a)).trans rfl
theorem cs1{a b c:Bool}{k:Nat}{z:Int}(e:z=k)(h1:a=true)(h2:decide (z<6)=true)(h3:b=true):true=(a && decide (k<6) && (b || c)):=by
 have:k<6:=by have:=of_decide_eq_true h2;omega
 rw [h1,h3,decide_eq_true this];rfl
theorem cs2{a b c:Bool}{k:Nat}{z:Int}(e:z=k)(h1:a=true)(h2:decide (z<6)=true)(h3:c=true):true=(a && decide (k<6) && (b || c)):=by
 have:k<6:=by have:=of_decide_eq_true h2;omega
 rw [h1,h3,decide_eq_true this];cases b<;>rfl
theorem cs3{a b c:Bool}{k:Nat}(h3:¬ b=true)(h4:¬ c=true):false=(a && decide (k<6) && (b || c)):=by
 rw [eq_false_of_ne_true h3,eq_false_of_ne_true h4,Bool.or_false,Bool.and_false]
theorem cs4{a b c:Bool}{k:Nat}{z:Int}(e:z=k)(h2:¬ decide (z<6)=true):false=(a && decide (k<6) && (b || c)):=by
 have:¬ k<6:=fun h=>h2 (decide_eq_true (by omega))
 rw [decide_eq_false this,Bool.and_false];rfl
theorem cs5{a b c:Bool}{k:Nat}(h1:¬ a=true):false=(a && decide (k<6) && (b || c)):=by
 rw [eq_false_of_ne_true h1];rfl
theorem Km{l:List (Str × Tok)}:((strValues l).toArray.size:Int)=(l.length:Nat):=by simp [strValues]
theorem neBS:Nonempty (Bool × Shared):=⟨(true,{})⟩
def Ag(M0 m:Str→Option Value):Prop:=∀ y,y≠Str.ofString "place"→y≠Str.ofString "rest"→y≠Str.ofString "kind"→y≠Str.ofString "known"→y≠Str.ofString "name"→y≠Str.ofString "attrs"→y≠Str.ofString "prefix"→m y=M0 y
theorem ag7{M0:Str→Option Value}{u1 u2 u3 u4 u5 u6 u7:Option Value}:Ag M0 (m7 "place" "rest" "kind" "known" "name" "attrs" "prefix" M0 u1 u2 u3 u4 u5 u6 u7) :=
 fun _ a b c d e f h=>(if_neg h).trans<|(if_neg f).trans<|(if_neg e).trans<|(if_neg d).trans<|(if_neg c).trans<|(if_neg b).trans<|if_neg a
theorem Ag.name{M0 m:Str→Option Value}{v:Option Value}(h:Ag M0 m):Ag M0 (fun z=>if z=Str.ofString "name" then v else m z):=fun y a b c d e f g=>(if_neg e).trans (h y a b c d e f g)
theorem Ag.attrs{M0 m:Str→Option Value}{v:Option Value}(h:Ag M0 m):Ag M0 (fun z=>if z=Str.ofString "attrs" then v else m z):=fun y a b c d e f g=>(if_neg f).trans (h y a b c d e f g)
theorem Ag.prefix{M0 m:Str→Option Value}{v:Option Value}(h:Ag M0 m):Ag M0 (fun z=>if z=Str.ofString "prefix" then v else m z):=fun y a b c d e f g=>(if_neg g).trans (h y a b c d e f g)
theorem Ag.m7{M0 m:Str→Option Value}(h:Ag M0 m):m=Mine.m7 "place" "rest" "kind" "known" "name" "attrs" "prefix" M0 (m "place") (m "rest") (m "kind") (m "known") (m "name") (m "attrs") (m "prefix"):=m7_of h
section
variable{W:World}{x nm sc md:Addr}{om:Obj}{xtra:List (Addr × Obj)}{i:Nat}{v:WS}{f:FD}{tabs rest:List (Addr × Obj)}{scs:List SL}{nms:List (Str × Tok)}
theorem LawS.own(h:LawS W x nm sc md om xtra i v f tabs scs nms)(hr:∀ q∈rest,q∈scs.map slO++xtra∨q.1∈[nm,sc,md]∨∀ p∈f.own v x++tabs,p.1≠q.1):OwnS W x v f tabs rest:=by
 refine⟨h.is,h.lam,fun p hp q hq=>h.d1 p hp q (Ml _ hq),fun p hp q hq=>?_⟩
 rcases hr q hq with z | z | z
 ·rcases List.mem_append.mp hp with hp | hp
  ·exact h.d1 p hp q (Mr _ z)
  ·exact h.d2 p hp q z
 ·refine h.d4 _ z p ?_
  rcases List.mem_append.mp hp with hp | hp
  ·exact Ml _ hp
  ·exact Mr _ (Ml _ hp)
 ·exact z p hp
noncomputable def Dw(W:World)(g:Heap)(L x nm sc md:Addr)(om:Obj)(M0:Str→Option Value)(xtra:List (Addr × Obj))(i:Nat)(I:Addr)(oI:Obj)(vp:Option Value)(os:OsState)(s':Shared):Prop :=
 ∃ (m:Str→Option Value) (own:List (Addr × Obj)),LawJ W g x nm sc md om M0 xtra g i m own∧m "place"=vp∧Fr g L s'.heap m∧News g L s'.heap ((I,oI)::own)∧(∀ p∈own,p.1≠I)∧s'.os=os∧AllBare s'.gens
theorem Dw.of{g:Heap}{L I:Addr}{oI:Obj}{M0 m:Str→Option Value}{vp:Option Value}{os:OsState}{s':Shared}{k1 k2:Nat}(ag:Ag M0 m)(hp:m "place"=vp)(F:Fr g L s'.heap m)(N:News g L s'.heap ((nm,listOf (strValues nms).toArray k1)::(sc,listOf (scs.map fun l=>Value.ref l.1).toArray k2)::(md,om)::(I,oI)::(f.own v x++(tabs++(scs.map slO++xtra)))))
  (O:OwnS W x v f tabs rest) (hR:∀ q∈scs.map slO++xtra,(∃ o,(q.1,o)∈rest)∨∀ p∈f.own v x++tabs,p.1≠q.1) (hn:∀ a∈[nm,sc,md,I],∃ o,(a,o)∈rest) (hI:∀ a∈[nm,sc,md],a≠I) (hI2:∀ p∈scs.map slO++xtra,p.1≠I)
  (fit:Fit i v) (nw:NW v (scs.map fun l=>l.2.1.map (·.1)) (nms.map (·.1))) (six:nms.length≤6) (few:(scs.flatMap fun l=>l.2.1).length≤i) (d3:((scs.map slO++xtra).map (·.1)).Nodup) (d4:∀ a∈[nm,sc,md],∀ p∈scs.map slO++xtra,p.1≠a) (o1:s'.os=os) (b1:AllBare s'.gens) :
  Dw W g L x nm sc md om M0 xtra i I oI vp os s':=by
 have hx:∀ p∈f.own v x++tabs,∀ q∈scs.map slO++xtra,p.1≠q.1:=fun p hp q hq=>by
  rcases hR q hq with ⟨o,ho⟩ | z
  ·exact O.d2 p hp (q.1,o) ho
  ·exact z p hp
 have hy:∀ a∈[nm,sc,md,I],∀ p∈f.own v x++tabs,p.1≠a:=fun a ha p hp=>by
  obtain⟨o,ho⟩:=hn a ha;exact O.d2 p hp (a,o) ho
 have hz:∀ a∈[nm,sc,md,I],(∀ p∈scs.map slO++xtra,p.1≠a)→∀ p∈f.own v x++(tabs++(scs.map slO++xtra)),p.1≠a:=fun a ha h=>Fp (fun p hp=>hy a ha p (Ml _ hp)) (Fp (fun p hp=>hy a ha p (Mr _ hp)) h)
 have hs:∀ a∈[nm,sc,md],a∈[nm,sc,md,I]:=Fc (.head _) (Fc (.tail _ (.head _)) (Fc (.tail _ (.tail _ (.head _))) (List.forall_mem_nil _)))
 refine⟨m,_,⟨v,f,tabs,scs,nms,k1,k2,_,_,_,_,_,_,_,rfl,ag.m7,rfl,⟨O.is,O.lam,fit,nw,six,few,?_,?_,d3,fun a ha=>hz a (hs a ha) (d4 a ha)⟩⟩,hp,F,News.sub N ?_,?_,o1,b1⟩
 ·exact fun p hp=>Fp (fun q hq=>O.d1 p hp q hq) (fun q hq=>hx p (Ml _ hp) q hq)
 ·exact fun p hp q hq=>hx p (Mr _ hp) q hq
 ·exact Fc (.tail _ (.tail _ (.tail _ (.head _)))) (Fc (.head _) (Fc (.tail _ (.head _)) (Fc (.tail _ (.tail _ (.head _))) fun p hp=>.tail _ (.tail _ (.tail _ (.tail _ hp))))))
 ·exact Fc (hI _ (.head _)) (Fc (hI _ (.tail _ (.head _))) (Fc (hI _ (.tail _ (.tail _ (.head _)))) (hz I (.tail _ (.tail _ (.tail _ (.head _)))) hI2)))
end
theorem d3_pop{scs:List SL}{l:SL}{xtra:List (Addr × Obj)}(h:(((scs++[l]).map slO++xtra).map (·.1)).Nodup):((scs.map slO++xtra).map (·.1)).Nodup:=by
 refine List.Nodup.sublist ?_ h;rw [List.map_append,List.map_append (f:=slO),List.map_append];refine List.Sublist.append ?_ (List.Sublist.refl _);rw [List.map_append];exact List.sublist_append_left _ _
theorem d3_same{scs:List SL}{l l':SL}{xtra:List (Addr × Obj)}(e:l'.1=l.1)(h:(((scs++[l]).map slO++xtra).map (·.1)).Nodup):(((scs++[l']).map slO++xtra).map (·.1)).Nodup:=by
 simp only [List.map_append,List.map_cons,List.map_nil] at h ⊢
 rw [e];exact h
theorem d3_push{scs:List SL}{l:SL}{xtra:List (Addr × Obj)}(h:((scs.map slO++xtra).map (·.1)).Nodup)(hn:∀ p∈scs.map slO++xtra,p.1≠l.1):(((scs++[l]).map slO++xtra).map (·.1)).Nodup:=by
 have p:(((scs++[l]).map slO++xtra).map (·.1)).Perm (l.1::((scs.map slO++xtra).map (·.1))):=by
  simp only [List.map_append,List.map_cons,List.map_nil,List.append_assoc,List.cons_append,List.nil_append]
  exact List.perm_middle
 refine p.symm.nodup (List.nodup_cons.mpr ⟨fun z=>?_,h⟩)
 obtain⟨q,hq,e⟩:=List.mem_map.mp z;exact hn q hq e
theorem Up{D:List (List Pr)}{S:List (List Str)}{N:List Str}(h:Std D S N):∀ n∈N,n=Str.ofString "a"∨∃ p∈five,n=Ew p:=by
 induction h with
 | base _=>exact fun _ z=>nomatch z
 | push hs _ hn _ ih=>exact Fp ih (Fc (hn.imp id fun⟨p,hp,e⟩=>⟨p,hs.five p hp,e⟩) (List.forall_mem_nil _))
theorem Wi:∀ n,(n=Str.ofString "a"∨∃ p∈five,n=Ew p)→PyData.strOk n=true:=by
 have h1:PyData.strOk (Str.ofString "a")=true:=by decide +kernel
 have h2:∀ p∈five,PyData.strOk (Ew p)=true:=by decide +kernel
 rintro n (rfl | ⟨p,hp,rfl⟩)
 ·exact h1
 ·exact h2 p hp
theorem ds1{a b:Bool}(h1:a=true)(h2:b=true):true=(a && b):=by rw [h1,h2];rfl
theorem ds2{a b:Bool}(h1:¬ a=true):false=(a && b):=by rw [eq_false_of_ne_true h1];rfl
theorem ds3{a b:Bool}(h1:¬ b=true):false=(a && b):=by rw [eq_false_of_ne_true h1,Bool.and_false]
theorem neFS:Nonempty (FD × Shared):=Nx.elim fun f=>⟨(f,{})⟩
theorem Mc:∀ p∈five,Ec (Aq p,p):=by
 have h:∀ p∈five,(Aq p).length≤100∧p.length≤200∧(Di (Aq p)).length≤1000:=by decide +kernel
 exact h
theorem Sh{prog:Program}{w:World}{o:Obj}{kvs:List (Str × Value)}{h:Heap}{d:Addr}(hd:o.IsDictOf (PySem.strKind prog w) kvs)(e:h.get? d=some o):h.DictOf (PySem.strKind prog w) d kvs:=let ⟨es,ep,r⟩:=hd;⟨o,es,ep,e,r⟩
noncomputable abbrev slP(l:SL)(p:Str)(t:Tok):SL:=(l.1,l.2.1++[(p,t)],l.2.2+1)
theorem sl_push{l:SL}{p:Str}{t:Tok}:(l.1,listOf ((strValues l.2.1).toArray.push (.str p t)) (l.2.2+1))=slO (slP l p t):=by
 have e:(strValues l.2.1).toArray.push (.str p t)=(strValues (l.2.1++[(p,t)])).toArray:=by
  unfold strValues;rw [List.map_append];simp
 show _=(l.1,listOf (strValues (l.2.1++[(p,t)])).toArray (l.2.2+1))
 rw [e]
theorem sl_in{scs0:List SL}{l:SL}{p:Str}{t:Tok}{xtra:List (Addr × Obj)}:∀ q∈(scs0++[slP l p t]).map slO++xtra,∃ o,(q.1,o)∈(scs0++[l]).map slO++xtra:=by
 rw [List.map_append,List.map_append]
 exact Fp (Fp (fun q hq=>⟨q.2,Ml _ (Ml _ hq)⟩) (Fc ⟨(slO l).2,Ml _ (Mr _ (.head _))⟩ (List.forall_mem_nil _))) fun q hq=>⟨q.2,Mr _ hq⟩
theorem sl_ne{scs0:List SL}{l:SL}{xtra:List (Addr × Obj)}(h:(((scs0++[l]).map slO++xtra).map (·.1)).Nodup):∀ q∈scs0.map slO++xtra,q.1≠l.1:=by
 intro q hq e;rw [List.map_append,List.map_append (f:=slO),List.map_append] at h;obtain⟨h1,h2,h3⟩:=List.nodup_append.mp h;have hl:l.1∈List.map (·.1) (List.map slO [l]):=.head _
 rcases List.mem_append.mp hq with hq | hq
 ·exact(List.nodup_append.mp h1).2.2 _ (List.mem_map_of_mem (f:=(·.1)) hq) _ hl e
 ·exact h3 _ (Mr _ hl) _ (List.mem_map_of_mem (f:=(·.1)) hq) e.symm
theorem cs_out{a b c:Bool}{k:Nat}(h:(a && decide (k<6) && (b || c))=true):k<6∧(b=true∨c=true):=by
 simp only [Bool.and_eq_true,decide_eq_true_eq,Bool.or_eq_true] at h;exact⟨h.1.2,h.2⟩
theorem Gm:(∀ n,(n=Str.ofString "a"∨∃ p∈five,n=Ew p)→Dh n=false∧n≠Str.ofString "k"∧∀ p∈five,n≠Gu p)∧∀ p∈five,Str.ofString "k"≠Gu p:=by
 have h1:Dh (Str.ofString "a")=false∧Str.ofString "a"≠Str.ofString "k"∧∀ p∈five,Str.ofString "a"≠Gu p:=by decide +kernel
 have h2:∀ q∈five,Dh (Ew q)=false∧Ew q≠Str.ofString "k"∧∀ p∈five,Ew q≠Gu p:=by decide +kernel
 refine⟨?_,by decide +kernel⟩
 rintro n (rfl | ⟨q,hq,rfl⟩)
 ·exact h1
 ·exact h2 q hq
theorem Oi:((Str.ofString "1").length≤100∧(Di (Str.ofString "1")).length≤1000)∧((Str.ofString "2").length≤100∧(Di (Str.ofString "2")).length≤1000):=by decide +kernel
theorem Xa{v:WS}{S:List (List Str)}{N:List Str}{tag:Str}{attrs:List Pr}(h:NW v S N)(ht:tag=Str.ofString "a"∨∃ p∈S.flatten,tag=Ew p)(ha:attrs=[(Str.ofString "k",Str.ofString "1")]∨∃ p∈S.flatten,attrs=[(Str.ofString "k",Str.ofString "1"),(Gu p,Str.ofString "2")]) :
  Cz v (.start tag attrs)∧NW (v.tell (.start tag attrs)) (S++[[]]) (N++[tag])∧Dh tag=false:=by
 have ht5:tag=Str.ofString "a"∨∃ p∈five,tag=Ew p:=ht.imp id fun⟨p,hp,e⟩=>⟨p,h.std.five p hp,e⟩
 obtain⟨hg,hnk,hnp⟩:=Gm.1 tag ht5
 have hT:Ls S tag:=by
  rcases ht with e | ⟨p,hp,e⟩
  ·exact .inl (by rw [e];exact .head _)
  ·exact .inr ⟨p,hp,.inl e⟩
 have hK:Ls S (Str.ofString "k"):=.inl (.tail _ (.head _))
 rcases ha with rfl | ⟨p,hp,rfl⟩
 ·have hall:∀ n∈tag::([(Str.ofString "k",Str.ofString "1")]:List Pr).map (·.1),Ls S n:=Fc hT (Fc hK (List.forall_mem_nil _))
  refine⟨⟨?_,by decide,fun n hn=>(h.fit (hall n hn)).1,Fc Oi.1 (List.forall_mem_nil _)⟩,h.start ht hall,hg⟩
  exact List.nodup_cons.mpr ⟨fun z=>hnk (List.mem_singleton.mp z),List.nodup_cons.mpr ⟨List.not_mem_nil,List.nodup_nil⟩⟩
 ·have hp5:=h.std.five p hp
  have hall:∀ n∈tag::([(Str.ofString "k",Str.ofString "1"),(Gu p,Str.ofString "2")]:List Pr).map (·.1),Ls S n:=Fc hT (Fc hK (Fc (.inr ⟨p,hp,.inr rfl⟩) (List.forall_mem_nil _)))
  refine⟨⟨?_,Nat.le_of_ble_eq_true rfl,fun n hn=>(h.fit (hall n hn)).1,Fc Oi.1 (Fc Oi.2 (List.forall_mem_nil _))⟩,h.start ht hall,hg⟩
  refine List.nodup_cons.mpr ⟨fun z=>?_,List.nodup_cons.mpr ⟨fun z=>Gm.2 p hp5 (List.mem_singleton.mp z),List.nodup_cons.mpr ⟨List.not_mem_nil,List.nodup_nil⟩⟩⟩
  rcases List.mem_cons.mp z with z | z
  ·exact hnk z
  ·exact hnp p hp5 (List.mem_singleton.mp z)
theorem Sq:∀ p∈five,(Aq p).length≤1000∧(Str.ofString "{"++Aq p).length≤1000:=by decide +kernel
noncomputable def AtR(W:World)(g:Heap)(L:Addr)(S:List (List Str))(M0:Str→Option Value)(vp:Option Value)(led:List (Addr × Obj))(s0 s':Shared):Prop :=
 ∃ (h9:Heap) (tk9:Nat) (tag:Str) (tt:Tok) (at_:Addr) (l:List ((Str × Tok) × (Str × Tok))) (na:Nat) (u2 u3 u4 u7:Option Value),s'={ heap:=h9,gens:=s0.gens,drawn:=s0.drawn,toks:=tk9,os:=s0.os }∧(tag=Str.ofString "a"∨∃ p∈S.flatten,tag=Ew p) ∧
  ((l.map fun p=>(p.1.1,p.2.1))=[(Str.ofString "k",Str.ofString "1")]∨∃ p∈S.flatten,(l.map fun p=>(p.1.1,p.2.1))=[(Str.ofString "k",Str.ofString "1"),(Gu p,Str.ofString "2")]) ∧
  Fr g L h9 (m7 "place" "rest" "kind" "known" "name" "attrs" "prefix" M0 vp u2 u3 u4 (some (.str tag tt)) (some (.ref at_)) u7)∧News g L h9 ((at_,dictOf (Bb W.params l) na)::led)∧(at_ == sysModules)=false∧∀ p∈led,p.1<at_
theorem AtR.of{W:World}{g:Heap}{L:Addr}{S:List (List Str)}{M0 m:Str→Option Value}{vp:Option Value}{led:List (Addr × Obj)}{s0:Shared}{h9:Heap}{tk9:Nat}{tag:Str}{tt:Tok}{at_:Addr}{o:Obj}{prog:Program}{q:List (Str × (Str × Tok))}
  (ag:Ag M0 m) (e1:m "place"=vp) (e5:m "name"=some (.str tag tt)) (e6:m "attrs"=some (.ref at_)) (F:Fr g L h9 m) (N:News g L h9 ((at_,o)::led)) (hd:Jm prog W o q) (hs:(at_ == sysModules)=false) (hl:∀ p∈led,p.1<at_)
  (ht:tag=Str.ofString "a"∨∃ p∈S.flatten,tag=Ew p) (ha:(q.map fun p=>(p.1,p.2.1))=[(Str.ofString "k",Str.ofString "1")]∨∃ p∈S.flatten,(q.map fun p=>(p.1,p.2.1))=[(Str.ofString "k",Str.ofString "1"),(Gu p,Str.ofString "2")]) :
  AtR W g L S M0 vp led s0 { heap:=h9,gens:=s0.gens,drawn:=s0.drawn,toks:=tk9,os:=s0.os }:=by
 obtain⟨l,na,rfl,e⟩:=hd.ss;rw [← e] at ha;have F':=F;rw [ag.m7,e1,e5,e6] at F';exact⟨h9,tk9,tag,tt,at_,l,na,_,_,_,_,rfl,ht,ha,F',N,hs,hl⟩
theorem AtR.out{W:World}{g:Heap}{L:Addr}{S:List (List Str)}{M0:Str→Option Value}{vp:Option Value}{led:List (Addr × Obj)}{s0:Shared}{P:Shared→Prop}
  (k:∀ (s':Shared) (h9:Heap) (tk9:Nat) (tag:Str) (tt:Tok) (at_:Addr) (l:List ((Str × Tok) × (Str × Tok))) (na:Nat) (u2 u3 u4 u7:Option Value),s'={ heap:=h9,gens:=s0.gens,drawn:=s0.drawn,toks:=tk9,os:=s0.os }→(tag=Str.ofString "a"∨∃ p∈S.flatten,tag=Ew p) →
  ((l.map fun p=>(p.1.1,p.2.1))=[(Str.ofString "k",Str.ofString "1")]∨∃ p∈S.flatten,(l.map fun p=>(p.1.1,p.2.1))=[(Str.ofString "k",Str.ofString "1"),(Gu p,Str.ofString "2")]) →
  Fr g L h9 (m7 "place" "rest" "kind" "known" "name" "attrs" "prefix" M0 vp u2 u3 u4 (some (.str tag tt)) (some (.ref at_)) u7)→News g L h9 ((at_,dictOf (Bb W.params l) na)::led)→(at_ == sysModules)=false→(∀ p∈led,p.1<at_)→P s'):∀ s',AtR W g L S M0 vp led s0 s'→P s':=by
 rintro s' ⟨h9,tk9,tag,tt,at_,l,na,u2,u3,u4,u7,h1,h2,h3,h4,h5,h6,h7⟩;exact k s' h9 tk9 tag tt at_ l na u2 u3 u4 u7 h1 h2 h3 h4 h5 h6 h7
section
variable{prog:Program}{w:World}{A:Around}{E:Value→Shared→Prop}{s:Shared}
theorem len_K{l:Addr}{ps:List (Str × Tok)}{Q:Value→Shared→Prop}(hl:s.heap.IsList l (strValues ps).toArray)(hz:(strValues ps).length≤1000)(h:Q (.int ((strValues ps).length:Int) (s.toks+1)) { s with toks:=s.toks+1+1 }):wpAny (model prog w) A (call (.builtin "len") [.ref l]) Q E s:=by
 refine PyProof.Rows.len_list hl ?_ h
 have h1:(2:Int) ^ 63=9223372036854775808:=by decide
 simp only [List.size_toArray];omega
theorem mod_K{a:Int}{n:Nat}{t u:Tok}{Q:Value→Shared→Prop}(h0:n≠0)(hz:n≤1000)(h:Q (.int (a.fmod (n:Int)) s.toks) { s with toks:=s.toks+1 }):wpAny (model prog w) A (binaryOp .Mod (.int a t) (.int (n:Int) u)) Q E s:=by
 have hn:((n:Int)).natAbs<1073741824:=by omega
 refine PyProof.Rows.mod_int' (by omega) ?_
 exact h
end
theorem ps_ne{z:Int}{l:List (Str × Tok)}(h:(z == 3)=true)(h2:(z == 1)=true∨(!l.isEmpty)=true):(strValues l).length≠0∧l≠[]:=by
 have h3:z=3:=by simpa using h
 rcases h2 with h2 | h2
 ·rw [h3] at h2;exact absurd h2 (by decide)
 ·cases l with
  | nil=>cases h2
  | cons a l=>exact⟨by simp [strValues],by simp⟩
theorem neFT:Nonempty (FD × Shared × List (Addr × Obj)):=Nx.elim fun f=>⟨(f,{},[])⟩
theorem Uq{l:List (Str × Tok)}{p:Str}{t:Tok}:(strValues l).toArray.push (.str p t)=(strValues (l++[(p,t)])).toArray:=by
 unfold strValues;rw [List.map_append];simp
theorem Uh{l:List SL}{b:SL}:(l.map fun l=>Value.ref l.1).toArray.push (.ref b.1)=((l++[b]).map fun l=>Value.ref l.1).toArray:=by
 rw [List.map_append];simp
section
variable{W:World}{x nm sc md:Addr}{om:Obj}{xtra:List (Addr × Obj)}{i:Nat}{g:Heap}{L I:Addr}{oI:Obj}{M0:Str→Option Value}{vp:Option Value}{os:OsState}{P:Shared→Prop}
theorem Dw.out(k:∀ (s':Shared) (v:WS) (f:FD) (tabs:List (Addr × Obj)) (scs:List SL) (nms:List (Str × Tok)) (k1 k2:Nat) (u2 u3 u4 u5 u6 u7:Option Value),LawS W x nm sc md om xtra i v f tabs scs nms→Fr g L s'.heap (m7 "place" "rest" "kind" "known" "name" "attrs" "prefix" M0 vp u2 u3 u4 u5 u6 u7) →
  News g L s'.heap ((I,oI)::(nm,listOf (strValues nms).toArray k1)::(sc,listOf (scs.map fun l=>Value.ref l.1).toArray k2)::(md,om)::(f.own v x++(tabs++(scs.map slO++xtra))))→(∀ p∈(nm,listOf (strValues nms).toArray k1)::(sc,listOf (scs.map fun l=>Value.ref l.1).toArray k2)::(md,om)::(f.own v x++(tabs++(scs.map slO++xtra))),p.1≠I)→s'.os=os→AllBare s'.gens→P s'):∀ s',Dw W g L x nm sc md om M0 xtra i I oI vp os s'→P s':=by
 rintro s' ⟨m,own,⟨v,f,tabs,scs,nms,k1,k2,u1,u2,u3,u4,u5,u6,u7,_,hm,ho,hL⟩,hp,F,N,off,o1,b1⟩;subst hm ho;have hu:u1=vp:=hp;subst hu;exact k s' v f tabs scs nms k1 k2 u2 u3 u4 u5 u6 u7 hL F N off o1 b1
theorem Dw.go(h:∀ s',Dw W g L x nm sc md om M0 xtra i I oI vp os s'→P s'){s':Shared}{m:Str→Option Value}{own:List (Addr × Obj)}(h1:Dw W g L x nm sc md om M0 xtra i I oI vp os s'):P s':=h s' h1
end
theorem neTT{β:Type}[Inhabited β]:Nonempty (Shared × WS × FD × β):=neWS.elim fun w=>Nx.elim fun f=>⟨({},w,f,default)⟩
end
theorem rs12:True∧True:=by
 (try walk1);(try w_top off)
 all_goals (first | trivial | exact ⟨trivial,trivial⟩)
section
open PyProof.Rows.LCg
theorem law03:rw_dn0283_03.Holds:=by
 refine hd03 ?_
 k_fill
 with_reducible refine let_mvar% ?zq1:=(fun w s₀ s₁ mg mb=>?_:Fa5 _);Ci (neW.elim fun w=>⟨(w,{},{},default,default)⟩) (Hf:Tie _ (type_of% ?zq1)) (?zq1 _ _ _ _ _)
 intro G0 Y0
 with_reducible refine let_mvar% ?zq2:=(fun fa o pm cd doc dV kV=>?_:Fa7 _);Ap neI (Cm:Tie _ (type_of% ?zq2)) (?zq2 _ _ _ _ _ _ _)
 intro ho hd hcd hD hmg hg
 with_reducible refine let_mvar% ?zq3:=(fun args vals as=>?_:Fa3 _);Au neI (Cv:Tie _ (type_of% ?zq3)) (?zq3 _ _ _)
 intro hpre hlay hrd hwl hlo;have KX:=km_in_of Y0
 km_tabs Y0
 have X0:=(Ground.X G0).1;have VV0:=(Ground.X G0).2;refine Ground.open G0 ?_;intro T0 B0 D TE TW
 try (refine guard_noD D (by decide +kernel) ?_;clear D)
 km_lay T0 hmg ho hd cd
 clear hmg
 wrow_args hpre hlay hrd hwl hlo
 all_goals (
  first | refine callC_kw (enter_call ?_) | refine enter_call ?_
  w_top on
  refine Vi hT9 (fun _ _=>rfl) ?hp ?_
  case hp=>exact postW_of (by first | assumption | wrow_shape) (by wtm_val) (by w_fin)
  w_call any ho hd hcd hD T0 F
  clear hd
  kn_ghosts F T0
  k_drop
  skip)
 rename_i xs hs0 hlay9 hL1 hr1 hl2 ws1 ws2 sa vs ws3 hL2 ra w1 r0 hI hr2 hcond1 hcond2 h₁ X T K' F1 N1 l0
 have hbare:AllBare s₁.gens:=by exact AllBare.of_eq hg
 clear hs0 hlay9 hL1 hr1 hl2 hL2 ra w1 r0 hr2 hcond2
 (try clear ws1)
 (try clear ws2)
 (try clear ws3)
 revert xs sa vs h₁
 with_reducible refine let_mvar% ?zq4:=(fun xs sa vs=>?_:Fa3 _);Au neI (Cv:Tie _ (type_of% ?zq4)) (?zq4 _ _ _)
 intro hI hcond1
 walk_at "eps";rename_i h₁
 intro F1 lifted N1;refine Dt ?_;walk_at "eps2";rename_i Q0 E0;intro hq0 he0;have hyz:=Vy hI;revert hyz;refine exi ?_;walk_at "eps";rename_i zs;rintro⟨hzs,hzx⟩
 have hzl:zs.length≤63:=by have:=congrArg List.length hzx;simp at this;lia
 dsimp only
 refine wpAny_execs_cons (Bz (R:=fun s'=>∃ (h2:Heap) (tk:Nat) (nA:Addr) (ys:List (Int × Tok)) (xtra:List (Addr × Obj)),s'={ heap:=h2,gens:=s₁.gens,drawn:=s₁.drawn,toks:=tk,os:=s₁.os }∧Fr (ghostOf s₁.heap [(125,123)]) s₁.heap.objs.size h2 (fun y=>if y=Str.ofString "numbers" then some (Value.ref nA) else List.lookup y [(Str.ofString "script",Value.ref sa)])∧News (ghostOf s₁.heap [(125,123)]) s₁.heap.objs.size h2 ((123,tabObj #[])::xtra)∧SrcAt (ghostOf s₁.heap [(125,123)]) nA (Bf ys).toArray xtra∧ys.length≤63∧ys≠[]∧(xtra.map (·.1)).Nodup∧∀ p∈xtra,123<p.1) ?c1 ?c2)
 case c1 =>
  cases hxe:decide (xs=[]) with
  | false =>
   repeat' (first
    | ((with_reducible show wpAny _ _ (compareOp CmpOp.NotEq (.ref sa) (.ref _)) _ _ _);(rename Fr ..=>F9);(rename News ..=>N9);refine ke_ne_ints (Ae F9.keep lifted) (by exact⟨_,(N9 _ (.head _)).1,rfl,_,rfl⟩) hI .nil (by show _<cLine;simp [Around.deeper,callerA,cLine]) ?_;rw [hxe])
    | ((fail_if_success (with_reducible show Flow.next=_∧_));walk_at "go"))
   (rename Fr ..=>F9);(rename News ..=>N9)
   refine⟨rfl,_,_,sa,zs,[],rfl,F9,News.sub N9 (by walk_at "l_sub"),.inl (by rw [← hzs];exact lifted),hzl,?_,List.nodup_nil,fun _ z=>nomatch z⟩
   intro hz;rw [hz] at hzx;rw [← hzx] at hxe
   exact absurd hxe (by decide)
  | true =>
   repeat' (first
    | ((with_reducible show wpAny _ _ (compareOp CmpOp.NotEq (.ref sa) (.ref _)) _ _ _);(rename Fr ..=>F9);(rename News ..=>N9);refine ke_ne_ints (Ae F9.keep lifted) (by exact⟨_,(N9 _ (.head _)).1,rfl,_,rfl⟩) hI .nil (by show _<cLine;simp [Around.deeper,callerA,cLine]) ?_;rw [hxe])
    | ((fail_if_success (with_reducible show Flow.next=_∧_));walk_at "go"))
   (rename Fr ..=>F9);(rename News ..=>N9);(rename _∧_=>l9)
   refine⟨rfl,_,_,_,dfl _ _ _ _ _ _ _ _,[_],rfl,F9,News.sub N9 (Fc (by k_mem) (Fc (.head _) (List.forall_mem_nil _))),.inr ⟨_,.head _,rfl,_,rfl⟩,by show 8≤63;decide,(fun z=>nomatch z),List.nodup_cons.mpr ⟨List.not_mem_nil,List.nodup_nil⟩,Fc l9.2 (List.forall_mem_nil _)⟩
 case c2 =>
  refine exs5 ?_;with_reducible refine let_mvar% ?zq5:=(fun s99 h2 tk2 nA ys xtra=>?_:Fa6 _);Gg Bc (tie6:Tie _ (type_of% ?zq5)) (?zq5 _ _ _ _ _ _);rintro⟨rfl,F2,N2,Sn,hyl,hyn,hxnd,hx123⟩
  have hxs:∀ p∈xtra,p.1<h2.objs.size:=fun p hp=>Heap.lt_size (N2 p (.tail _ hp)).1
  dsimp only
  repeat' (first
   | ((with_reducible show Exists _);refine kdp_made_str (by k_asm) (by k_asm) (Top.nolimit (by k_asm)) (by rfl) (of_decide_eq_true (by rfl)) (by rfl) ?_;walk_at "eps2";intro F' N' l1 lo' hd' hf' ap';(try k_lt l1))
   | ((with_reducible show wpAny _ _ (getAttr (.ref _) "append" true) _ _ _);(rename Fr ..=>F9);(rename News ..=>N9);refine Li F9 N9 (by k_mem) ?_;clear F9 N9;walk_at "eps2";walk_at "eps";intro F9 N9 l9;k_lt l9;(try dsimp only))
   | ((fail_if_success (with_reducible show wpAny _ _ (call (.ref 150) _ _) _ _ _));walk_at "go"))
  rename_i _ po _ lpo _ wr h9 tk9
  have hmz:∃ (md:Addr) (om:Obj) (kvs:List (Str × Value)),om.IsDictOf (PySem.strKind rw_dn0283_03.row.prog w) kvs∧(∀ q∈five,∃ t,valueAt kvs q=some (.str (Aq q) t))∧md<po∧po<wr∧123<md∧(∀ p∈xtra,p.1<md)∧Fr (ghostOf s₁.heap [(125,123)]) s₁.heap.objs.size h9 (fun y=>if y=Str.ofString "out" then some (Value.ref po) else if y=Str.ofString "means" then some (Value.ref md) else if y=Str.ofString "numbers" then some (Value.ref nA) else List.lookup y [(Str.ofString "script",Value.ref sa)])∧News (ghostOf s₁.heap [(125,123)]) s₁.heap.objs.size h9 ((wr,Ai po)::(po,listOf #[] 0)::(md,om)::(123,tabObj #[])::xtra):=⟨_,_,_,hd',Vo,lpo.1,l9.1,l1.1,hxs,F9,N9⟩
  clear F9 N9
  revert hmz;refine Nd ?_;with_reducible refine let_mvar% ?zq6:=(fun md om kvs=>?_:Fa3 _);Au neI (Cv:Tie _ (type_of% ?zq6)) (?zq6 _ _ _);rintro⟨hom,hval,hmp,hpw,h123,hxm,F9,N9⟩
  refine Sf (os:=s₁.os) (out:=po) (wr:=wr) (n2:=0) (rest:=(md,om)::(123,tabObj #[])::xtra) X T rfl (by decide:callerA.depth+1<500) F9 N9 rfl hbare hpw ?hdr ?kw
  case hdr =>
   have hx:∀ {a:Nat},a<md→wr≠a∧po≠a:=fun h=>⟨Nat.ne_of_gt (Nat.lt_trans h (Nat.lt_trans hmp hpw)),Nat.ne_of_gt (Nat.lt_trans h hmp)⟩
   exact Fc ⟨Nat.ne_of_gt (Nat.lt_trans hmp hpw),Nat.ne_of_gt hmp⟩ (Fc (hx h123) fun p hp=>hx (hxm p hp))
  case kw =>
   with_reducible refine let_mvar% ?zq7:=(fun f1 x s7=>?_:Fa3 _);Au (Nx.elim fun f=>⟨(f,default,{})⟩) (Cv:Tie _ (type_of% ?zq7)) (?zq7 _ _ _);intro ef1 hI1 F7 N7 d7 o7 b7
   clear F9 N9
   repeat' ((fail_if_success (with_reducible show wpAny _ _ (newList _) _ _ _));walk_at "go")
   (rename Fr ..=>F9);(rename News ..=>N9);refine newList_K F9 N9 ?_ (by rw [sizeLine_eq];exact Nat.le_of_ble_eq_true rfl);clear F9 N9;walk_at "eps2";rename_i s0 h8;intro F8 N8 lt0;(try dsimp only)
   repeat' ((fail_if_success (with_reducible show wpAny _ _ (newList _) _ _ _));walk_at "go")
   (rename Fr ..=>F9);(rename News ..=>N9);refine newList_K F9 N9 ?_ (by rw [sizeLine_eq];exact Nat.le_of_ble_eq_true rfl);clear F9 N9;walk_at "eps2";rename_i sc h8;intro F8 N8 lt1;(try dsimp only)
   repeat' ((fail_if_success (with_reducible show wpAny _ _ (newList _) _ _ _));walk_at "go")
   (rename Fr ..=>F9);(rename News ..=>N9);refine newList_K F9 N9 ?_ (by rw [sizeLine_eq];exact Nat.le_of_ble_eq_true rfl);clear F9 N9;walk_at "eps2";rename_i nm h8;intro F8 N8 lt2;(try dsimp only)
   have hnl:((Bf ys).toArray.size:Int)<2 ^ 63:=by
    have:(2:Int) ^ 63=9223372036854775808:=by decide
    simp [Bf];omega
   repeat' (first
    | ((with_reducible show wpAny _ _ (exec (Stmt.For _ _ _ _ _) _) _ _ _);refine wpAny_For ?_)
    | ((with_reducible show wpAny _ _ (call (.builtin "len") _) _ _ _);(rename Fr ..=>F9);(rename News ..=>N9);refine PyProof.Rows.len_list (items:=(Bf ys).toArray) (Sn.list F9.keep (News.sub N9 (by walk_at "l_sub"))) hnl ?_;(try dsimp only))
    | ((fail_if_success (with_reducible show wpAny _ _ (pyIter _) _ _ _));walk_at "go"))
   (rename Fr ..=>F9);(rename News ..=>N9);(rename IsRange _ _ _ _ _ _ _ _=>hR)
   rename_i hX tkX tX uX vX aX;clear aX;revert hX tkX tX uX vX hR F9 N9
   with_reducible refine let_mvar% ?zqr:=(fun hX tkX tX uX vX=>?_:Fa5 _);Ci neI (Hf:Tie _ (type_of% ?zqr)) (?zqr _ _ _ _ _);intro hR F9 N9
   have hyn2:(Bf ys).length<64:=by simp [Bf];exact(Nat.lt_of_not_le fun hn1=>fk [_] (.c 1 (.v 0) (.k 63) (.c 1 (.k 64) (.v 0) (.k 0))) rfl hyl hn1)
   have hro:=Wr ⟨(Bf ys).length,hyn2⟩
   have NA:News (ghostOf s₁.heap [(125,123)]) s₁.heap.objs.size _ ((nm,listOf (strValues []).toArray 0)::(sc,listOf (([(s0,[],0)]:List SL).map fun l=>Value.ref l.1).toArray 0)::(md,om)::(f1.own WS0 x++([(123,tabObj #[])]++(([(s0,[],0)]:List SL).map slO++xtra)))):=News.sub N9 (by
    refine Fc (.head _) (Fc (.tail _ (.head _)) (Fc (.tail _ (.tail _ (.tail _ (Mr _ (.head _))))) (Fp (fun p hp=>.tail _ (.tail _ (.tail _ (Ml _ hp)))) (Fc (.tail _ (.tail _ (.tail _ (Mr _ (.tail _ (.head _)))))) (Fc (.tail _ (.tail _ (.head _))) fun p hp=>.tail _ (.tail _ (.tail _ (Mr _ (.tail _ (.tail _ hp)))))))))))
   have hsn:sc≠nm:=Nat.ne_of_lt (lt2 (sc,_) (.head _));have hmn:md≠nm:=Nat.ne_of_lt (lt2 (md,om) (.tail _ (.tail _ (Mr _ (.head _)))));have hms:md≠sc:=Nat.ne_of_lt (lt1 (md,om) (.tail _ (Mr _ (.head _))));dsimp only;refine wpAny_pyIter_range hR hro.1 ?_
   refine Hp (os:=s₁.os) (LawJ w (ghostOf s₁.heap [(125,123)]) x nm sc md om (Lo nm sc x po md nA sa) xtra) (range_walks (show Around.handled (callerA.deeper _)=none from rfl) 0 (Bf ys).length) (fun b hb hbI=>absurd (List.mem_singleton.mp hb) hbI) ?step ?done ?hJ ?hst (F9.push _) (News.push F9 NA _) (fun p hp=>Nat.ne_of_lt (Heap.lt_size (NA p hp).1)) o7 b7 (fun _ _ h=>⟨_,h⟩) (fun _ _ _ _ z=>Wp z)
   case hst=>rw [hro.2];exact Heap.get?_push_size _ rfl
   case hJ =>
    refine⟨WS0,f1,[(123,tabObj #[])],[(s0,[],0)],[],0,0,none,none,none,none,none,none,none,rfl,m7_of (fun _ _ _ _ _ _ _ _=>rfl),rfl,hI1,.inl rfl,fit0,nw0,Nat.zero_le _,Nat.le_refl _,?_,?_,?_,?_⟩
    ·intro p hp
     have hps:p.1<s0:=lt0 p (Ml _ hp)
     exact Fc (d7 p hp (123,tabObj #[]) (.tail _ (.head _))) (Fc (Nat.ne_of_lt hps) fun q hq=>d7 p hp q (.tail _ (.tail _ hq)))
    ·exact Fc (Fc (Nat.ne_of_lt (lt0 (123,tabObj #[]) (Mr _ (.tail _ (.head _))))) fun q hq=>Nat.ne_of_lt (hx123 q hq)) (List.forall_mem_nil _)
    ·refine List.nodup_cons.mpr ⟨fun z=>?_,hxnd⟩
     obtain⟨q,hq,e⟩:=List.mem_map.mp z;exact absurd e (Nat.ne_of_lt (lt0 q (Mr _ (.tail _ (.tail _ hq)))))
    ·have hall:∀ p∈f1.own WS0 x++([(123,tabObj #[])]++(([(s0,[],0)]:List SL).map slO++xtra)),p∈(s0,listOf #[] 0)::(f1.own WS0 x++(md,om)::(123,tabObj #[])::xtra):=Fp (fun p hp=>.tail _ (Ml _ hp)) (Fc (.tail _ (Mr _ (.tail _ (.head _)))) (Fc (.head _) fun p hp=>.tail _ (Mr _ (.tail _ (.tail _ hp)))))
     refine Fc (fun p hp=>Nat.ne_of_lt (lt2 p (.tail _ (hall p hp)))) (Fc (fun p hp=>Nat.ne_of_lt (lt1 p (hall p hp))) (Fc ?_ (List.forall_mem_nil _)))
     exact Fp (fun p hp=>d7 p hp (md,om) (.head _)) (Fc (Nat.ne_of_lt h123) (Fc (Nat.ne_of_gt (lt0 (md,om) (Mr _ (.head _)))) fun p hp=>Nat.ne_of_lt (hxm p hp)))
   case done =>
    with_reducible refine let_mvar% ?zs1:=(fun s8 g8 m8 own8=>?_:Fa4 _);Ax Bc (Cy:Tie _ (type_of% ?zs1)) (?zs1 _ _ _ _)
    intro hJ8 F8 N8 o8 b8;revert F8 N8;refine hJ8.out ?_
    with_reducible refine let_mvar% ?zs2:=(fun v f tabs scs nms k1 k2=>?_:Fa7 _);Ap (neWS.elim fun v=>Nx.elim fun f=>⟨(v,f,default,default,default,default,default)⟩) (Cm:Tie _ (type_of% ?zs2)) (?zs2 _ _ _ _ _ _ _);with_reducible refine let_mvar% ?zs3:=(fun u1 u2 u3 u4 u5 u6 u7=>?_:Fa7 _);Ap neI (Cm:Tie _ (type_of% ?zs3)) (?zs3 _ _ _ _ _ _ _)
    rintro rfl rfl rfl hL F8 N8
    have hy99:∃ ps9,(123,tabObj ps9)∈tabs:=by
     rcases hL.lam with e9 | ⟨c9,oc9,vs9,t9,e9,_,_⟩
     ·exact⟨_,by rw [e9];exact .head _⟩
     ·exact⟨_,by rw [e9];exact .head _⟩
    revert hy99;refine exi ?_;walk_at "eps";rename_i ps9;intro hps9;dsimp only
    repeat' ((fail_if_success (with_reducible show Q0 _ _));walk_at "go")
    (rename Fr ..=>F9);(rename News ..=>N9)
    refine hq0 _ _ ?_;exact⟨rfl,F9.keep,o8,b8,⟨ps9,(N9 (123,tabObj ps9) (.tail _ (.tail _ (.tail _ (Mr _ (Ml _ hps9)))))).1⟩,trivial⟩
   case step =>
    with_reducible refine let_mvar% ?zt1:=(fun s4 g4 i4 v4 m4 own4 oI=>?_:Fa7 _);Ap Bc (Cm:Tie _ (type_of% ?zt1)) (?zt1 _ _ _ _ _ _ _);with_reducible refine let_mvar% ?zt2:=(fun tk4 h4=>?_:Fa2 _);Ah neI (Ar:Tie _ (type_of% ?zt2)) (?zt2 _ _)
    intro hi hv hJ4 F4 N4 off4 o4 b4
    revert hv;refine exi ?_;with_reducible refine let_mvar% ?zt3:=(fun tp=>?_:Fa _);Aw neI (tie:Tie _ (type_of% ?zt3)) (?zt3 _);rintro rfl
    revert F4 N4 off4;refine hJ4.out ?_
    with_reducible refine let_mvar% ?zt4:=(fun v f tabs scs nms k1 k2=>?_:Fa7 _);Ap (neWS.elim fun v=>Nx.elim fun f=>⟨(v,f,default,default,default,default,default)⟩) (Cm:Tie _ (type_of% ?zt4)) (?zt4 _ _ _ _ _ _ _);with_reducible refine let_mvar% ?zt5:=(fun u1 u2 u3 u4 u5 u6 u7=>?_:Fa7 _);Ap neI (Cm:Tie _ (type_of% ?zt5)) (?zt5 _ _ _ _ _ _ _)
    rintro rfl rfl rfl hL F4 N4 off4;dsimp only at N4 off4
    have hyg:∃ y ty,ys[i4]?=some (y,ty):=by
     have:i4<ys.length:=by simpa [Bf] using hi
     exact⟨(ys[i4]).1,(ys[i4]).2,by rw [List.getElem?_eq_getElem this]⟩
    revert hyg;refine Hm ?_;with_reducible refine let_mvar% ?zt6:=(fun y ty=>?_:Fa2 _);Ah neI (Ar:Tie _ (type_of% ?zt6)) (?zt6 _ _);intro hyg
    have hygA:(Bf ys).toArray[((0:Int)+(i4:Int)).toNat]?=some (.int y ty):=by
     rw [show ((0:Int)+(i4:Int)).toNat=i4 from by omega]
     simp [Bf,hyg]
    have hzb:∃ big,big=f.own v x++(tabs++(scs.map slO++xtra)):=⟨_,rfl⟩
    revert hzb;refine exi ?_;with_reducible refine let_mvar% ?zt7:=(fun big=>?_:Fa _);Aw neI (tie:Tie _ (type_of% ?zt7)) (?zt7 _);intro hbig
    rw [← hbig] at N4 off4
    have hxb:∀ p∈xtra,p∈big:=fun p hp=>by rw [hbig];exact Mr _ (Mr _ (Mr _ hp))
    refine PyProof.Rows.assign_Name (storeX_L F4 N4 ?_ rfl rfl)
    with_reducible refine let_mvar% ?zt8:=(fun h5=>?_:Fa _);Aw neI (tie:Tie _ (type_of% ?zt8)) (?zt8 _);intro F5 N5
    clear F4 N4;dsimp only
    refine Dt ?_;with_reducible refine let_mvar% ?zt9:=(fun Q9 E9=>?_:Fa2 _);Ah neI (Ar:Tie _ (type_of% ?zt9)) (?zt9 _ _);intro hq9 he9
    have hi63:i4<63:=by have:i4<(Bf ys).length:=hi;simp [Bf] at this;exact(Nat.lt_of_not_le fun hn1=>fk [_,_] (.c 1 (.a (.v 0) (.k 1)) (.k 64) (.c 1 (.a (.v 1) (.k 1)) (.v 0) (.c 1 (.k 63) (.v 1) (.k 0)))) rfl hyn2 hi hn1)
    have hk63:((0:Int)+(i4:Int))<2 ^ 63:=by have:(2:Int) ^ 63=9223372036854775808:=(by decide);omega
    refine wpAny_execs_cons ?_
    repeat' (first
     | ((with_reducible show wpAny _ _ (subscriptTail _ _ (.ref nA) (.int _ _)) _ _ _);(rename Fr ..=>F9);(rename News ..=>N9);refine PyProof.Rows.item_list (items:=(Bf ys).toArray) (Sn.list F9.keep (News.sub N9 (fun p hp=>.tail _ (.tail _ (.tail _ (.tail _ (hxb p hp))))))) (by omega) hk63 hygA ?_)
     | ((fail_if_success (with_reducible show wpAny _ _ (call (.builtin "divmod") _) _ _ _));walk_at "go"))
    (rename Fr ..=>F9);(rename News ..=>N9)
    refine Vf F9 N9 (by decide) ?_
    clear F9 N9
    with_reducible refine let_mvar% ?zta:=(fun dz dh dt1 dt2 dtk=>?_:Fa5 _);Ci neI (Hf:Tie _ (type_of% ?zta)) (?zta _ _ _ _ _);intro F9 N9 hdz
    dsimp only
    repeat' ((fail_if_success (with_reducible show wpAny _ _ (assign (.Tuple _ _ _) _ _) _ _ _));walk_at "go")
    (rename Fr ..=>F9);(rename News ..=>N9)
    refine unpackN_ F9 N9 (items:=#[.int (y.fdiv 4) dt1,.int (y.fmod 4) dt2]) ⟨_,(N9 (dz,Ad #[.int (y.fdiv 4) dt1,.int (y.fmod 4) dt2]) (.head _)).1,rfl,_,rfl⟩ (by rfl) (by rfl) (by rfl) ?_
    clear F9 N9;walk_at "eps";rename_i h9;intro F9 N9
    have NB:=News.sub N9 (fun(p:Addr × Obj) hp=>List.Mem.tail _ hp)
    clear N9;dsimp only
    repeat' ((fail_if_success (with_reducible show wpAny _ _ (execs _ _) _ _ _));walk_at "go")
    (rename Fr ..=>F9);(rename News ..=>N9)
    have hks:(scs.map fun p=>(p.1,(strValues p.2.1).toArray)).flatMap (fun l=>l.2.toList)=strValues (scs.flatMap fun l=>l.2.1):=by
     unfold strValues;rw [List.flatMap_map,List.map_flatMap]
    have hsl:scs.length=nms.length+1:=by have:=hL.nw.std.len.2;simpa using this
    have hfew:(scs.flatMap fun l=>l.2.1).length<63:=Nat.lt_of_le_of_lt hL.few hi63
    have hkl:(strValues (scs.flatMap fun l=>l.2.1)).length≤1000:=by unfold strValues;rw [List.length_map];exact Nat.le_trans (Nat.le_of_lt hfew) (by decide)
    have hslO:∀ q∈scs,slO q∈big:=fun q hq=>by rw [hbig];exact Mr _ (Mr _ (Ml _ (List.mem_map_of_mem hq)))
    refine wpAny_execs_cons ?_
    refine Jl (h₀:=ghostOf s₁.heap [(125,123)]) (L:=s₁.heap.objs.size) (m:=fun z=>if z=Str.ofString "kind" then some (Value.int (y.fmod 4) dt2) else if z=Str.ofString "rest" then some (Value.int (y.fdiv 4) dt1) else if z=Str.ofString "place" then some (Value.int (0+(i4:Int)) tp) else m7 "place" "rest" "kind" "known" "name" "attrs" "prefix" (Lo nm sc x po md nA sa) u1 u2 u3 u4 u5 u6 u7 z) (cl:=[]) (os:=s₁.os) rfl rfl rfl (by decide) rfl (by decide) rfl rfl (by decide) (by decide) (fun _=>rfl) rfl rfl ?_
    repeat' (walk_at "go")
    refine⟨sc,scs.map fun p=>(p.1,(strValues p.2.1).toArray),_,rfl,rfl,F9,N9,o4,b4,.inr ⟨_,.tail _ (.tail _ (.head _)),rfl,_,by rw [List.map_map];rfl⟩,?sl2,?zl1,?zl2,?_⟩
    case sl2 =>
     intro l hl;obtain⟨q,hq,rfl⟩:=List.mem_map.mp hl;exact .inr ⟨_,.tail _ (.tail _ (.tail _ (.tail _ (hslO q hq)))),rfl,_,rfl⟩
    case zl1=>rw [List.length_map,hsl];exact Nat.le_trans (Nat.succ_le_succ hL.six) (by decide)
    case zl2=>rw [hks];exact hkl
    rw [hks]
    with_reducible refine let_mvar% ?ztb:=(fun K s5=>?_:Fa2 _);Ah neAS (Ar:Tie _ (type_of% ?ztb)) (?ztb _ _)
    intro F5 N5 hKd o5 b5;clear F9 N9;dsimp only
    have hok5:∀ p∈five,PyData.strOk p=true:=by decide +kernel
    have hslk:∀ p∈scs.flatMap (fun l=>l.2.1),PyData.strOk p.1=true:=fun p hp=>by
     obtain⟨l,hl,hq⟩:=List.mem_flatMap.mp hp;exact hok5 _ (hL.nw.std.five _ (List.mem_flatten.mpr ⟨l.2.1.map (·.1),List.mem_map_of_mem hl,List.mem_map_of_mem hq⟩))
    have hnz:((strValues nms).toArray.size:Int)<2 ^ 63:=by
     have h1:(2:Int) ^ 63=9223372036854775808:=(by decide)
     have h2:=hL.six
     simp [strValues];omega
    have hbm:∀ a∈[nm,sc,md],∀ p∈big,p.1≠a:=by rw [hbig];exact hL.d4
    have hxbig:∀ p∈(x,instObj 150 f.dx)::(f.dx,dictOf (wd f.hsh f.tkn (.bool false) (.bool false) .none f.ev (.bool false) .none .none .none f.wr f.da f.de f.ns f.pm f.pr v.seen v.done 0) f.ep)::([]:List (Addr × Obj)),p∈big:=by rw [hbig];exact Fc (Ml _ (Ml _ (.head _))) (Fc (Ml _ (Ml _ (.tail _ (.head _)))) (List.forall_mem_nil _))
    have hRb:∀ q∈scs.map slO++xtra,q∈big:=fun q hq=>by rw [hbig];exact Mr _ (Mr _ hq)
    have hob:∀ p∈f.own v x++tabs,p∈big:=by rw [hbig];exact Fp (fun p hp=>Ml _ hp) fun p hp=>Mr _ (Ml _ hp)
    have hIb:∀ p∈big,p.1≠hX.objs.size:=fun p hp=>off4 p (.tail _ (.tail _ (.tail _ hp)))
    have hIm:∀ a∈[nm,sc,md],a≠hX.objs.size:=Fc (off4 (nm,_) (.head _)) (Fc (off4 (sc,_) (.tail _ (.head _))) (Fc (off4 (md,om) (.tail _ (.tail _ (.head _)))) (List.forall_mem_nil _)))
    have hi100:i4≤100:=Nat.le_of_lt (Nat.lt_trans hi63 (by decide))
    have hps100:(scs.flatMap fun l=>l.2.1).length≤100:=Nat.le_of_lt (Nat.lt_trans hfew (by decide))
    have hps5:∀ p∈(scs.flatMap fun l=>l.2.1).map (·.1),p∈(scs.map fun l=>l.2.1.map (·.1)).flatten∧p∈five:=fun p hp=>by
     have h1:p∈(scs.map fun l=>l.2.1.map (·.1)).flatten:=by rw [List.map_flatMap,List.flatMap_def] at hp;exact hp
     exact⟨h1,hL.nw.std.five p h1⟩
    have hnmk:∀ p∈nms,PyData.strOk p.1=true:=fun p hp=>Wi _ (Up hL.nw.std _ (List.mem_map_of_mem hp))
    have F6:Fr (ghostOf s₁.heap [(125,123)]) s₁.heap.objs.size s5.heap (m7 "place" "rest" "kind" "known" "name" "attrs" "prefix" (Lo nm sc x po md nA sa) (some (Value.int (0+(i4:Int)) tp)) (some (Value.int (y.fdiv 4) dt1)) (some (Value.int (y.fmod 4) dt2)) (some (Value.ref K)) u5 u6 u7):=Eq.mp (congrArg (Fr (ghostOf s₁.heap [(125,123)]) s₁.heap.objs.size s5.heap) m7_set4) F5;clear F5
    have hcs:∃ cs:Bool,cs=((y.fmod 4).fmod 2 == 1 && decide (nms.length<6) && (y.fmod 4 == 1 || !(scs.flatMap fun l=>l.2.1).isEmpty)):=⟨_,rfl⟩
    revert hcs;refine exi ?_;walk_at "eps";rename_i cs;intro hcs
    refine wpAny_execs_cons (Bz (R:=fun s'=>Dw w (ghostOf s₁.heap [(125,123)]) s₁.heap.objs.size x nm sc md om (Lo nm sc x po md nA sa) xtra (i4+1) hX.objs.size oI (some (Value.int (0+(i4:Int)) tp)) s₁.os s') ?cIf ?cAsk)
    case cIf =>
     refine wpAny_If (wpAny_mono (Q:=fun(b:Bool) s'=>b=cs∧∃ (h9:Heap) (tk9:Nat),s'={ heap:=h9,gens:=s5.gens,drawn:=s5.drawn,toks:=tk9,os:=s5.os }∧Fr (ghostOf s₁.heap [(125,123)]) s₁.heap.objs.size h9 (m7 "place" "rest" "kind" "known" "name" "attrs" "prefix" (Lo nm sc x po md nA sa) (some (Value.int (0+(i4:Int)) tp)) (some (Value.int (y.fdiv 4) dt1)) (some (Value.int (y.fmod 4) dt2)) (some (Value.ref K)) u5 u6 u7)∧News (ghostOf s₁.heap [(125,123)]) s₁.heap.objs.size h9 ((K,lst (strValues (scs.flatMap fun l=>l.2.1)))::(hX.objs.size,oI)::(nm,listOf (strValues nms).toArray k1)::(sc,listOf (scs.map fun l=>Value.ref l.1).toArray k2)::(md,om)::big)) ?cT ?cB (fun _ _ e=>e))
     case cT =>
      repeat' (first
       | ((with_reducible show wpAny _ _ (call (.builtin "len") [.ref nm]) _ _ _);(rename News ..=>N9);refine PyProof.Rows.len_list (items:=(strValues nms).toArray) (by exact⟨_,(N9 (nm,listOf (strValues nms).toArray k1) (by k_mem)).1,rfl,_,rfl⟩) hnz ?_;(try dsimp only))
       | ((with_reducible show wpAny _ _ (newList _) _ _ _);(rename Fr ..=>F9);(rename News ..=>N9);refine newList_K F9 N9 ?_ (by rw [sizeLine_eq];exact Nat.le_of_ble_eq_true rfl);clear F9 N9;walk_at "eps2";intro F9 N9 l9;(try dsimp only))
       | ((with_reducible show wpAny _ _ (compareOp CmpOp.NotEq (.ref K) (.ref _)) _ _ _);(rename News ..=>N9);refine Fj (ps:=scs.flatMap fun l=>l.2.1) (by exact⟨_,(N9 (K,lst (strValues (scs.flatMap fun l=>l.2.1))) (by k_mem)).1,rfl,_,rfl⟩) (by exact⟨_,(N9 _ (.head _)).1,rfl,_,rfl⟩) hslk (by show _<cLine;simp [Around.deeper,callerA,cLine]) ?_)
       | ((fail_if_success (with_reducible show wpAny _ _ (newList _) _ _ _));(fail_if_success (with_reducible show _∧_));walk_at "go"))
      all_goals ((rename Fr ..=>F9);(rename News ..=>N9);rw [hcs])
      all_goals refine⟨?_,_,_,rfl,F9,?_⟩
      all_goals first
       | exact N9
       | exact News.sub N9 (fun p hp=>.tail _ hp)
       | (with_reducible exact cs1 Km (by assumption) (by assumption) (by assumption))
       | (with_reducible exact cs2 Km (by assumption) (by assumption) (by assumption))
       | (with_reducible exact cs3 (by assumption) (by assumption))
       | (with_reducible exact cs4 Km (by assumption))
       | (with_reducible exact cs5 (by assumption))
     case cB =>
      with_reducible refine let_mvar% ?zu1:=(fun b9 sB=>?_:Fa2 _);Ah neBS (Ar:Tie _ (type_of% ?zu1)) (?zu1 _ _)
      rintro⟨hb9,hh9⟩
      revert hh9;refine Hm ?_;with_reducible refine let_mvar% ?zu2:=(fun h9 tk9=>?_:Fa2 _);Ah neI (Ar:Tie _ (type_of% ?zu2)) (?zu2 _ _)
      rintro⟨hsB,F9,N9⟩;subst hsB
      (try dsimp only)
      rw [hb9];clear hb9 b9 F6 N5
      have N9b:=News.sub N9 (fun p (hp:p∈(hX.objs.size,oI)::(nm,listOf (strValues nms).toArray k1)::(sc,listOf (scs.map fun l=>Value.ref l.1).toArray k2)::(md,om)::big)=>.tail _ hp)
      by_cases hct:cs=true
      ·refine ite_pos hct ?_
       have hcs9:=hct;rw [hcs] at hcs9;obtain⟨hn6,hk13⟩:=cs_out hcs9;clear N9b
       repeat' (first
        | ((with_reducible show Exists _);refine kdp_made_str (by k_asm) (by k_asm) (Top.nolimit (by k_asm)) (by rfl) (of_decide_eq_true (by rfl)) (by rfl) ?_;walk_at "eps2";rename_i o1;intro F' N' l1 lo1 hd1 hf1 ap1;dsimp only)
        | ((fail_if_success (with_reducible show wpAny _ _ (execs (Stmt.If _ _ _ _::_) _) _ _ _));(try (conv=>(arg 6;dsimp only)));walk_at "go"))
       (try dsimp only)
       (rename Fr ..=>F9);(rename News ..=>N9)
       have hD1:Jm rw_dn0283_03.row.prog w o1 [(Str.ofString "k",(Str.ofString "1",_))]:=⟨hd1,_,hf1⟩
       refine wpAny_execs_cons (Bz (R:=AtR w (ghostOf s₁.heap [(125,123)]) s₁.heap.objs.size (scs.map fun l=>l.2.1.map (·.1)) (Lo nm sc x po md nA sa) (some (Value.int (0+(i4:Int)) tp)) ((hX.objs.size,oI)::(nm,listOf (strValues nms).toArray k1)::(sc,listOf (scs.map fun l=>Value.ref l.1).toArray k2)::(md,om)::big) s5) ?cA ?cS)
       case cA =>
        repeat' (first
         | ((with_reducible show wpAny _ _ (call (.builtin "len") [.ref K]) _ _ _);(rename News ..=>N9);refine len_K (ps:=scs.flatMap fun l=>l.2.1) ⟨_,(N9 (K,lst (strValues (scs.flatMap fun l=>l.2.1))) (.tail _ (.head _))).1,rfl,_,rfl⟩ hkl ?_;(try dsimp only))
         | ((with_reducible show wpAny _ _ (binaryOp Operator.Mod (.int _ _) (.int _ _)) _ _ _);refine mod_K (ps_ne (by with_reducible assumption) hk13).1 hkl ?_;(try dsimp only))
         | ((with_reducible show wpAny _ _ (subscriptTail _ _ (.ref K) _) _ _ _);(rename News ..=>N9);refine nth_mod (l:=scs.flatMap fun l=>l.2.1) ⟨_,(N9 (K,lst (strValues (scs.flatMap fun l=>l.2.1))) (.tail _ (.head _))).1,rfl,_,rfl⟩ rfl (ps_ne (by with_reducible assumption) hk13).2 hps100 ?_;walk_at "eps2";rename_i pX tX;intro hpX;have hp5X:=(hps5 pX hpX).2;have hvX:=hval pX hp5X;revert hvX;refine exi ?_;walk_at "eps";intro htvX;have hm1X:=(Sq pX hp5X).1;have hm2X:=(Sq pX hp5X).2;(try dsimp only))
         | ((with_reducible show wpAny _ _ (subscriptTail _ _ (.ref md) _) _ _ _);(rename News ..=>N9);refine Ep (Sh hom (N9 (md,om) (by k_mem)).1) (by with_reducible assumption) ?_;(try dsimp only))
         | ((with_reducible show wpAny _ _ (binaryOp Operator.Add (.str _ _) (.str _ _)) _ _ _);refine PyProof.Rows.add_str ?_ (Ux (by first | with_reducible assumption | decide) (by first | with_reducible assumption | decide));walk_at "eps2";(try dsimp only))
         | ((with_reducible show wpAny _ _ (setItem _ _ _) _ _ _);(rename Fr ..=>F9);(rename News ..=>N9);refine Wm (k:=Gu pX) (v:=Str.ofString "2") F9 N9 (.head ap1) hD1 (fun z=>Gm.2 pX hp5X (List.mem_singleton.mp z).symm) (Nat.le_of_ble_eq_true rfl) ?_;clear F9 N9;with_reducible refine let_mvar% ?zd1:=(fun hz oz tz=>?_:Fa3 _);Au neI (Cv:Tie _ (type_of% ?zd1)) (?zd1 _ _ _);intro F9 N9 hD2;(try dsimp only))
         | ((fail_if_success (with_reducible show Flow.next=_∧_));(try (conv=>(arg 6;dsimp only)));walk_at "go"))
        all_goals ((rename Fr ..=>F9);(rename News ..=>N9))
        all_goals first
         | exact⟨rfl,AtR.of (q:=[(Str.ofString "k",(Str.ofString "1",_)),(Gu pX,(Str.ofString "2",_))]) ag7.name.attrs.name rfl rfl rfl F9 (News.sub N9 (Fc (.head _) fun p hp=>.tail _ (.tail _ hp))) hD2 lo1 (fun p hp=>l1 p (.tail _ hp)) (.inr (by refine⟨_,?_,rfl⟩;exact(hps5 _ (by with_reducible assumption)).1)) (.inr ⟨pX,(hps5 pX hpX).1,rfl⟩)⟩
         | exact⟨rfl,AtR.of (q:=[(Str.ofString "k",(Str.ofString "1",_))]) ag7.name.attrs rfl rfl rfl F9 (News.sub N9 (Fc (.head _) fun p hp=>.tail _ (.tail _ hp))) hD1 lo1 (fun p hp=>l1 p (.tail _ hp)) (.inl rfl) (.inl rfl)⟩
       case cS =>
        clear F9 N9 hD1 hd1 hf1 ap1 l1 lo1;refine AtR.out ?_
        with_reducible refine let_mvar% ?zy1:=(fun sD hA tkA tag tt at_ al=>?_:Fa7 _);Ap Bc (Cm:Tie _ (type_of% ?zy1)) (?zy1 _ _ _ _ _ _ _);with_reducible refine let_mvar% ?zy2:=(fun na uA uB uC uD=>?_:Fa5 _);Ci neI (Hf:Tie _ (type_of% ?zy2)) (?zy2 _ _ _ _ _)
        rintro hsD htg hat F9 N9 hsys hlt;subst hsD
        (try dsimp only)
        obtain⟨hCF,hNW2,hgo⟩:=Xa hL.nw htg hat
        have N8:News (ghostOf s₁.heap [(125,123)]) s₁.heap.objs.size hA ((x,instObj 150 f.dx)::(f.dx,dictOf (wd f.hsh f.tkn (.bool false) (.bool false) .none f.ev (.bool false) .none .none .none f.wr f.da f.de f.ns f.pm f.pr v.seen v.done 0) f.ep)::(at_,dictOf (Bb w.params al) na)::(hX.objs.size,oI)::(nm,listOf (strValues nms).toArray k1)::(sc,listOf (scs.map fun l=>Value.ref l.1).toArray k2)::(md,om)::big):=News.sub N9 (Fc (.tail _ (.tail _ (.tail _ (.tail _ (.tail _ (hxbig _ (.head _))))))) (Fc (.tail _ (.tail _ (.tail _ (.tail _ (.tail _ (hxbig _ (.tail _ (.head _)))))))) fun p hp=>hp))
        clear N9
        repeat' ((fail_if_success (with_reducible show wpAny _ _ (call (.ref 120) _) _ _ _));walk_at "go")
        (rename Fr ..=>F9);(rename News ..=>N9)
        have hatb:∀ p∈f.own v x++tabs,p.1≠at_:=fun p hp=>Nat.ne_of_lt (hlt p (.tail _ (.tail _ (.tail _ (.tail _ (hob p hp))))))
        have N7:News (ghostOf s₁.heap [(125,123)]) s₁.heap.objs.size _ (f.own v x++tabs++((at_,dictOf (Bb w.params al) na)::(hX.objs.size,oI)::(nm,listOf (strValues nms).toArray k1)::(sc,listOf (scs.map fun l=>Value.ref l.1).toArray k2)::(md,om)::(scs.map slO++xtra))):=News.sub N9 (Fp (fun p hp=>.tail _ (.tail _ (.tail _ (.tail _ (.tail _ (.tail _ (.tail _ (hob p hp)))))))) (Fc (.tail _ (.tail _ (.head _))) (Fc (.tail _ (.tail _ (.tail _ (.head _)))) (Fc (.tail _ (.tail _ (.tail _ (.tail _ (.head _))))) (Fc (.tail _ (.tail _ (.tail _ (.tail _ (.tail _ (.head _)))))) (Fc (.tail _ (.tail _ (.tail _ (.tail _ (.tail _ (.tail _ (.head _))))))) fun p hp=>.tail _ (.tail _ (.tail _ (.tail _ (.tail _ (.tail _ (.tail _ (hRb p hp)))))))))))))
        clear N9
        refine Qz (os:=s₁.os) (w:=v) (f:=f) (tabs:=tabs) (n:=i4) X T rfl (show callerA.depth+1<600 from by decide) (by show _<8000;simp [Around.deeper,callerA]) codeHd F9 N7 o5 b5 (hL.own (Fc (.inr (.inr hatb)) (Fc (.inr (.inr fun p hp=>hIb p (hob p hp))) (Fc (.inr (.inl (.head _))) (Fc (.inr (.inl (.tail _ (.head _)))) (Fc (.inr (.inl (.tail _ (.tail _ (.head _))))) fun q hq=>.inl hq)))))) hL.fit hi100 hCF (.head _) hsys hgo ?_
        with_reducible refine let_mvar% ?zy3:=(fun fN sN tbN=>?_:Fa3 _);Au neFT (Cv:Tie _ (type_of% ?zy3)) (?zy3 _ _ _);intro ON FN NN oN bN
        clear F9 N7
        have N6:News (ghostOf s₁.heap [(125,123)]) s₁.heap.objs.size sN.heap ((nm,listOf (strValues nms).toArray k1)::(sc,listOf (scs.map fun l=>Value.ref l.1).toArray k2)::(md,om)::(hX.objs.size,oI)::(fN.own (v.tell (.start tag (al.map fun p=>(p.1.1,p.2.1)))) x++(tbN++(scs.map slO++xtra)))):=News.sub NN (Fc (Mr _ (.tail _ (.tail _ (.head _)))) (Fc (Mr _ (.tail _ (.tail _ (.tail _ (.head _))))) (Fc (Mr _ (.tail _ (.tail _ (.tail _ (.tail _ (.head _)))))) (Fc (Mr _ (.tail _ (.head _))) (Fp (fun p hp=>Ml _ (Ml _ hp)) (Fp (fun p hp=>Ml _ (Mr _ hp)) fun p hp=>Mr _ (.tail _ (.tail _ (.tail _ (.tail _ (.tail _ (hp))))))))))))
        have u6:∀ p∈(sc,listOf (scs.map fun l=>Value.ref l.1).toArray k2)::(md,om)::(hX.objs.size,oI)::(fN.own (v.tell (.start tag (al.map fun p=>(p.1.1,p.2.1)))) x++(tbN++(scs.map slO++xtra))),p.1≠nm:=Fc hsn (Fc hmn (Fc (Ne.symm (hIm nm (.head _))) (Fp (fun p hp=>ON.d2 p (Ml _ hp) (nm,_) (.tail _ (.tail _ (.head _)))) (Fp (fun p hp=>ON.d2 p (Mr _ hp) (nm,_) (.tail _ (.tail _ (.head _)))) fun p hp=>hbm nm (.head _) p (hRb p hp)))))
        have u7:∀ p∈(md,om)::(hX.objs.size,oI)::(fN.own (v.tell (.start tag (al.map fun p=>(p.1.1,p.2.1)))) x++(tbN++(scs.map slO++xtra))),p.1≠sc:=Fc hms (Fc (Ne.symm (hIm sc (.tail _ (.head _)))) (Fp (fun p hp=>ON.d2 p (Ml _ hp) (sc,_) (.tail _ (.tail _ (.tail _ (.head _))))) (Fp (fun p hp=>ON.d2 p (Mr _ hp) (sc,_) (.tail _ (.tail _ (.tail _ (.head _))))) fun p hp=>hbm sc (.tail _ (.head _)) p (hRb p hp))))
        have hz1:(strValues nms).toArray.size≤sizeLine:=by
         rw [sizeLine_eq];unfold strValues;simp only [List.size_toArray,List.length_map];exact(Nat.le_of_not_lt fun hn1=>fk [_] (.c 1 (.a (.v 0) (.k 1)) (.k 6) (.c 1 (.a (.k 16777216) (.k 1)) (.v 0) (.k 0))) rfl hn6 hn1)
        have hz2:(scs.map fun l=>Value.ref l.1).toArray.size≤sizeLine:=by
         rw [sizeLine_eq];simp only [List.size_toArray,List.length_map];exact(Nat.le_of_not_lt fun hn1=>fk [_,_] (.c 1 (.v 0) (.a (.v 1) (.k 1)) (.c 1 (.a (.v 1) (.k 1)) (.k 6) (.c 1 (.a (.k 16777216) (.k 1)) (.v 0) (.k 0)))) rfl (Nat.le_of_eq hsl) hn6 hn1)
        clear NN
        repeat' (first
         | ((with_reducible show wpAny _ _ (newList _) _ _ _);(rename Fr ..=>F9);(rename News ..=>N9);refine newList_K F9 N9 ?_ (by rw [sizeLine_eq];exact Nat.le_of_ble_eq_true rfl);clear F9 N9;walk_at "eps2";rename_i s9 hh9;intro F9 N9 l9;(try dsimp only))
         | ((with_reducible show wpAny _ _ (call (.builtin "list.append") _) _ _ _);(rename Fr ..=>F9);(rename News ..=>N9);(first | refine append_K (D:=nm) (x:=.str tag tt) F9 N9 (.head u6) ?_ hz1 | refine append_K (D:=sc) (x:=.ref s9) F9 N9 (.tail (Nat.ne_of_gt (l9 (sc,_) (.tail _ (.head _)))) (.tail (Ne.symm hsn) (.head u7))) ?_ hz2);clear F9 N9;walk_at "eps";intro F9 N9;(try dsimp only))
         | ((fail_if_success (with_reducible show Flow.next=_∧_));walk_at "go"))
        (rename Fr ..=>F9);(rename News ..=>N9)
        have l9x:∀ p∈scs.map slO++xtra,p.1<s9:=fun p hp=>l9 p (.tail _ (.tail _ (.tail _ (.tail _ (Mr _ (Mr _ hp))))))
        have l9o:∀ p∈fN.own (v.tell (.start tag (al.map fun p=>(p.1.1,p.2.1)))) x++tbN,p.1<s9:=Fp (fun p hp=>l9 p (.tail _ (.tail _ (.tail _ (.tail _ (Ml _ hp)))))) fun p hp=>l9 p (.tail _ (.tail _ (.tail _ (.tail _ (Mr _ (Ml _ hp))))))
        rw [Uq,Uh (b:=(s9,[],0))] at N9
        refine⟨rfl,Dw.of (scs:=scs++[(s9,[],0)]) (nms:=nms++[(tag,tt)]) (k1:=k1+1) (k2:=k2+1) ag7 rfl F9 (News.sub N9 (Fc (.tail _ (.head _)) (Fc (.tail _ (.tail _ (.head _))) (Fc (.tail _ (.tail _ (.tail _ (.head _)))) (Fc (.tail _ (.tail _ (.tail _ (.tail _ (.head _))))) (Fp (fun p hp=>.tail _ (.tail _ (.tail _ (.tail _ (.tail _ (Ml _ hp)))))) (Fp (fun p hp=>.tail _ (.tail _ (.tail _ (.tail _ (.tail _ (Mr _ (Ml _ hp))))))) ?_))))))) ON ?_ (Fc ⟨_,.tail _ (.tail _ (.head _))⟩ (Fc ⟨_,.tail _ (.tail _ (.tail _ (.head _)))⟩ (Fc ⟨_,.tail _ (.tail _ (.tail _ (.tail _ (.head _))))⟩ (Fc ⟨_,.tail _ (.head _)⟩ (List.forall_mem_nil _))))) hIm ?_ (hL.fit.tell hCF) ?_ ?_ ?_ (d3_push hL.d3 ?_) ?_ oN bN⟩
        ·rw [List.map_append]
         exact Fp (Fp (fun p hp=>.tail _ (.tail _ (.tail _ (.tail _ (.tail _ (Mr _ (Mr _ (Ml _ hp)))))))) (Fc (.head _) (List.forall_mem_nil _))) fun p hp=>.tail _ (.tail _ (.tail _ (.tail _ (.tail _ (Mr _ (Mr _ (Mr _ hp)))))))
        ·rw [List.map_append]
         exact Fp (Fp (fun q hq=>.inl ⟨q.2,.tail _ (.tail _ (.tail _ (.tail _ (.tail _ (Ml _ hq)))))⟩) (Fc (.inr fun p hp=>Nat.ne_of_lt (l9o p hp)) (List.forall_mem_nil _))) fun q hq=>.inl ⟨q.2,.tail _ (.tail _ (.tail _ (.tail _ (.tail _ (Mr _ hq)))))⟩
        ·rw [List.map_append]
         exact Fp (Fp (fun p hp=>hIb p (hRb p (Ml _ hp))) (Fc (Nat.ne_of_gt (l9 (hX.objs.size,oI) (.tail _ (.tail _ (.tail _ (.head _)))))) (List.forall_mem_nil _))) fun p hp=>hIb p (hRb p (Mr _ hp))
        ·rw [List.map_append,List.map_append];exact hNW2
        ·rw [List.length_append];exact hn6
        ·have h1:=hL.few
         rw [List.flatMap_append,List.length_append];exact Nat.le_trans h1 (Nat.le_succ _)
        ·exact fun p hp=>Nat.ne_of_lt (l9x p hp)
        ·rw [List.map_append]
         exact fun a ha=>Fp (Fp (fun p hp=>hbm a ha p (hRb p (Ml _ hp))) (Fc ((Fc (Nat.ne_of_gt (l9 (nm,_) (.head _))) (Fc (Nat.ne_of_gt (l9 (sc,_) (.tail _ (.head _)))) (Fc (Nat.ne_of_gt (l9 (md,om) (.tail _ (.tail _ (.head _))))) (List.forall_mem_nil _))):∀ a∈[nm,sc,md],s9≠a) a ha) (List.forall_mem_nil _))) fun p hp=>hbm a ha p (hRb p (Mr _ hp))
      ·refine ite_neg hct ?_
       clear N9;have hcz:∃ c2:Bool,c2=(y.fmod 4 == 2 && !nms.isEmpty):=⟨_,rfl⟩;revert hcz;refine exi ?_;walk_at "eps";rename_i c2;intro hc2;refine wpAny_execs_cons ?_
       refine wpAny_If (wpAny_mono (Q:=fun(b:Bool) s'=>b=c2∧∃ (h9:Heap) (tk9:Nat),s'={ heap:=h9,gens:=s5.gens,drawn:=s5.drawn,toks:=tk9,os:=s5.os }∧Fr (ghostOf s₁.heap [(125,123)]) s₁.heap.objs.size h9 (m7 "place" "rest" "kind" "known" "name" "attrs" "prefix" (Lo nm sc x po md nA sa) (some (Value.int (0+(i4:Int)) tp)) (some (Value.int (y.fdiv 4) dt1)) (some (Value.int (y.fmod 4) dt2)) (some (Value.ref K)) u5 u6 u7)∧News (ghostOf s₁.heap [(125,123)]) s₁.heap.objs.size h9 ((hX.objs.size,oI)::(nm,listOf (strValues nms).toArray k1)::(sc,listOf (scs.map fun l=>Value.ref l.1).toArray k2)::(md,om)::big)) ?cU ?cV (fun _ _ e=>e))
       case cU =>
        repeat' (first
         | ((with_reducible show wpAny _ _ (newList _) _ _ _);(rename Fr ..=>F9);(rename News ..=>N9);refine newList_K F9 N9 ?_ (by rw [sizeLine_eq];exact Nat.le_of_ble_eq_true rfl);clear F9 N9;walk_at "eps2";intro F9 N9 l9;(try dsimp only))
         | ((with_reducible show wpAny _ _ (compareOp CmpOp.NotEq (.ref nm) (.ref _)) _ _ _);(rename News ..=>N9);refine Fj (ps:=nms) (by exact⟨_,(N9 (nm,listOf (strValues nms).toArray k1) (by k_mem)).1,rfl,_,rfl⟩) (by exact⟨_,(N9 _ (.head _)).1,rfl,_,rfl⟩) hnmk (by show _<cLine;simp [Around.deeper,callerA,cLine]) ?_)
         | ((fail_if_success (with_reducible show wpAny _ _ (newList _) _ _ _));(fail_if_success (with_reducible show _∧_));walk_at "go"))
        all_goals ((rename Fr ..=>F9);(rename News ..=>N9);rw [hc2])
        all_goals refine⟨?_,_,_,rfl,F9,?_⟩
        all_goals first
         | exact N9
         | exact News.sub N9 (fun p hp=>.tail _ hp)
         | (with_reducible exact ds1 (by assumption) (by assumption))
         | (with_reducible exact ds2 (by assumption))
         | (with_reducible exact ds3 (by assumption))
       case cV =>
        clear F9 N9b
        with_reducible refine let_mvar% ?zv1:=(fun b8 sC=>?_:Fa2 _);Ah neBS (Ar:Tie _ (type_of% ?zv1)) (?zv1 _ _)
        rintro⟨hb8,hh8⟩
        revert hh8;refine Hm ?_;with_reducible refine let_mvar% ?zv2:=(fun h8 tk8=>?_:Fa2 _);Ah neI (Ar:Tie _ (type_of% ?zv2)) (?zv2 _ _)
        rintro⟨hsC,F9,N9⟩;subst hsC
        (try dsimp only)
        rw [hb8];clear hb8 b8
        by_cases hc2t:c2=true
        ·refine ite_pos hc2t ?_
         have hn0:nms≠[]:=fun e=>by rw [hc2,e] at hc2t;exact absurd hc2t (by simp)
         have hs0:scs≠[]:=fun e=>by rw [e] at hsl;simp at hsl
         have hsp:∃ (nms0:List (Str × Tok)) (nn:Str) (tn:Tok) (scs0:List SL) (ls:SL),nms=nms0++[(nn,tn)]∧scs=scs0++[ls]:=⟨nms.dropLast,(nms.getLast hn0).1,(nms.getLast hn0).2,scs.dropLast,scs.getLast hs0,(List.dropLast_concat_getLast hn0).symm,(List.dropLast_concat_getLast hs0).symm⟩
         revert hsp;refine exi5 ?_;with_reducible refine let_mvar% ?zw1:=(fun nms0 nn tn scs0 ls=>?_:Fa5 _);Ci neI (Hf:Tie _ (type_of% ?zw1)) (?zw1 _ _ _ _ _)
         rintro⟨en,es⟩
         have en2:strValues nms=strValues nms0++[Value.str nn tn]:=by rw [en];unfold strValues;rw [List.map_append];rfl
         have es2:scs.map (fun l=>Value.ref l.1)=scs0.map (fun l=>Value.ref l.1)++[Value.ref ls.1]:=by rw [es,List.map_append];rfl
         have hNW:=hL.nw;rw [en,List.map_append] at hNW;obtain⟨S0,s0',eS,hNW2,hCF⟩:=NW.stop (s:=[]) hNW;rw [es,List.map_append] at eS;obtain⟨eS0,_⟩:=List.append_inj' eS rfl;rw [← eS0] at hNW2
         have N8:News (ghostOf s₁.heap [(125,123)]) s₁.heap.objs.size h8 ((nm,listOf (strValues nms0++[Value.str nn tn]).toArray k1)::(x,instObj 150 f.dx)::(f.dx,dictOf (wd f.hsh f.tkn (.bool false) (.bool false) .none f.ev (.bool false) .none .none .none f.wr f.da f.de f.ns f.pm f.pr v.seen v.done 0) f.ep)::(hX.objs.size,oI)::(sc,listOf (scs.map fun l=>Value.ref l.1).toArray k2)::(md,om)::big):=by
          rw [← en2];exact News.sub N9 (Fc (.tail _ (.head _)) (Fc (.tail _ (.tail _ (.tail _ (.tail _ (hxbig _ (.head _)))))) (Fc (.tail _ (.tail _ (.tail _ (.tail _ (hxbig _ (.tail _ (.head _))))))) (Fc (.head _) (Fc (.tail _ (.tail _ (.head _))) (Fc (.tail _ (.tail _ (.tail _ (.head _)))) fun p hp=>.tail _ (.tail _ (.tail _ (.tail _ hp)))))))))
         have u8:∀ p∈(x,instObj 150 f.dx)::(f.dx,dictOf (wd f.hsh f.tkn (.bool false) (.bool false) .none f.ev (.bool false) .none .none .none f.wr f.da f.de f.ns f.pm f.pr v.seen v.done 0) f.ep)::(hX.objs.size,oI)::(sc,listOf (scs.map fun l=>Value.ref l.1).toArray k2)::(md,om)::big,p.1≠nm:=Fc (hbm nm (.head _) _ (hxbig _ (.head _))) (Fc (hbm nm (.head _) _ (hxbig _ (.tail _ (.head _)))) (Fc (Ne.symm (off4 (nm,_) (.head _))) (Fc hsn (Fc hmn (hbm nm (.head _))))))
         clear N9
         have hz0:(strValues nms0).length+1≤sizeLine:=by
          have h1:=hL.six;rw [en,List.length_append,List.length_singleton] at h1
          unfold strValues;rw [List.length_map,sizeLine_eq];exact Nat.le_trans h1 (by decide)
         have hz1:(scs0.map fun l=>Value.ref l.1).length+1≤sizeLine:=by
          have h1:=hL.six;have h2:=hsl;rw [es,List.length_append,List.length_singleton] at h2
          rw [List.length_map,sizeLine_eq];exact(Nat.le_of_not_lt fun hn1=>fk [_,_] (.c 1 (.v 0) (.k 6) (.c 1 (.a (.v 1) (.k 1)) (.a (.v 0) (.k 1)) (.c 1 (.a (.k 16777216) (.k 1)) (.a (.v 1) (.k 1)) (.k 0)))) rfl h1 (Nat.le_of_eq h2) hn1)
         have hsub0:∀ q∈scs0.map slO++xtra,q∈scs.map slO++xtra:=by rw [es,List.map_append];exact Fp (fun q hq=>Ml _ (Ml _ hq)) fun q hq=>Mr _ hq
         repeat' (first
          | ((with_reducible show wpAny _ _ (call (.builtin "list.pop") [.ref nm]) _ _ _);(rename Fr ..=>F9);(rename News ..=>N9);refine Pw F9 N9 (.head u8) hz0 ?_;clear F9 N9;walk_at "eps";intro F9 N9)
          | ((fail_if_success (with_reducible show wpAny _ _ (call (.ref 133) _) _ _ _));walk_at "go"))
         (rename Fr ..=>F9);(rename News ..=>N9)
         have N7:News (ghostOf s₁.heap [(125,123)]) s₁.heap.objs.size _ (f.own v x++tabs++((nm,listOf (strValues nms0).toArray (k1+1))::(hX.objs.size,oI)::(sc,listOf (scs.map fun l=>Value.ref l.1).toArray k2)::(md,om)::(scs.map slO++xtra))):=News.sub N9 (Fp (fun p hp=>.tail _ (.tail _ (.tail _ (.tail _ (.tail _ (.tail _ (hob p hp))))))) (Fc (.head _) (Fc (.tail _ (.tail _ (.tail _ (.head _)))) (Fc (.tail _ (.tail _ (.tail _ (.tail _ (.head _))))) (Fc (.tail _ (.tail _ (.tail _ (.tail _ (.tail _ (.head _)))))) fun p hp=>.tail _ (.tail _ (.tail _ (.tail _ (.tail _ (.tail _ (hRb p hp)))))))))))
         clear N9
         refine Th (os:=s₁.os) (w:=v) (f:=f) (tabs:=tabs) (n:=i4) X T rfl (show callerA.depth+1<600 from by decide) F9 N7 o5 b5 (hL.own (Fc (.inr (.inl (.head _))) (Fc (.inr (.inr fun p hp=>hIb p (hob p hp))) (Fc (.inr (.inl (.tail _ (.head _)))) (Fc (.inr (.inl (.tail _ (.tail _ (.head _))))) fun q hq=>.inl hq))))) hL.fit hi100 hCF ?kS
         with_reducible refine let_mvar% ?zw3:=(fun fN sN=>?_:Fa2 _);Ah neFS (Ar:Tie _ (type_of% ?zw3)) (?zw3 _ _);intro ON FN NN oN bN
         clear F9 N7
         have N6:News (ghostOf s₁.heap [(125,123)]) s₁.heap.objs.size sN.heap ((sc,listOf (scs0.map (fun l=>Value.ref l.1)++[Value.ref ls.1]).toArray k2)::(nm,listOf (strValues nms0).toArray (k1+1))::(hX.objs.size,oI)::(md,om)::(fN.own (v.tell (.stop nn)) x++(tabs++(scs0.map slO++xtra)))):=by
          rw [← es2]
          exact News.sub NN (Fc (Mr _ (.tail _ (.tail _ (.head _)))) (Fc (Mr _ (.head _)) (Fc (Mr _ (.tail _ (.head _))) (Fc (Mr _ (.tail _ (.tail _ (.tail _ (.head _))))) (Fp (fun p hp=>Ml _ (Ml _ hp)) (Fp (fun p hp=>Ml _ (Mr _ hp)) fun p hp=>Mr _ (.tail _ (.tail _ (.tail _ (.tail _ (hsub0 p hp)))))))))))
         have hvN:∀ p∈fN.own (v.tell (.stop nn)) x++tabs,p.1≠sc:=fun p hp=>ON.d2 p hp (sc,_) (.tail _ (.tail _ (.head _)))
         have u6:∀ p∈(nm,listOf (strValues nms0).toArray (k1+1))::(hX.objs.size,oI)::(md,om)::(fN.own (v.tell (.stop nn)) x++(tabs++(scs0.map slO++xtra))),p.1≠sc:=Fc (Ne.symm hsn) (Fc (Ne.symm (hIm sc (.tail _ (.head _)))) (Fc hms (Fp (fun p hp=>hvN p (Ml _ hp)) (Fp (fun p hp=>hvN p (Mr _ hp)) fun p hp=>hbm sc (.tail _ (.head _)) p (hRb p (hsub0 p hp))))))
         clear NN
         repeat' (first
          | ((with_reducible show wpAny _ _ (call (.builtin "list.pop") [.ref sc]) _ _ _);(rename Fr ..=>F9);(rename News ..=>N9);refine Pw F9 N9 (.head u6) hz1 ?_;clear F9 N9;walk_at "eps";intro F9 N9)
          | ((fail_if_success (with_reducible show Flow.next=_∧_));walk_at "go"))
         (rename Fr ..=>F9);(rename News ..=>N9)
         refine⟨rfl,Dw.of (scs:=scs0) (nms:=nms0) (k1:=k1+1) (k2:=k2+1) ag7 rfl F9 (News.sub N9 (Fc (.tail _ (.head _)) (Fc (.head _) (Fc (.tail _ (.tail _ (.tail _ (.head _)))) (Fc (.tail _ (.tail _ (.head _))) fun p hp=>.tail _ (.tail _ (.tail _ (.tail _ hp)))))))) ON (fun q hq=>.inl ⟨q.2,.tail _ (.tail _ (.tail _ (.tail _ (hsub0 q hq))))⟩) (Fc ⟨_,.head _⟩ (Fc ⟨_,.tail _ (.tail _ (.head _))⟩ (Fc ⟨_,.tail _ (.tail _ (.tail _ (.head _)))⟩ (Fc ⟨_,.tail _ (.head _)⟩ (List.forall_mem_nil _))))) hIm (fun p hp=>hIb p (hRb p (hsub0 p hp))) (hL.fit.tell hCF) hNW2 ?_ ?_ (d3_pop (es ▸ hL.d3)) (fun a ha p hp=>hbm a ha p (hRb p (hsub0 p hp))) oN bN⟩
         ·have h1:=hL.six
          rw [en,List.length_append,List.length_singleton] at h1;exact Nat.le_trans (Nat.le_succ _) h1
         ·have h1:=hL.few
          rw [es,List.flatMap_append,List.length_append] at h1;exact Nat.le_trans (Nat.le_add_right _ _) (Nat.le_trans h1 (Nat.le_succ _))
        ·refine ite_neg hc2t ?_
         have N8:News (ghostOf s₁.heap [(125,123)]) s₁.heap.objs.size h8 ((x,instObj 150 f.dx)::(f.dx,dictOf (wd f.hsh f.tkn (.bool false) (.bool false) .none f.ev (.bool false) .none .none .none f.wr f.da f.de f.ns f.pm f.pr v.seen v.done 0) f.ep)::(hX.objs.size,oI)::(nm,listOf (strValues nms).toArray k1)::(sc,listOf (scs.map fun l=>Value.ref l.1).toArray k2)::(md,om)::big):=News.sub N9 (Fc (.tail _ (.tail _ (.tail _ (.tail _ (hxbig _ (.head _)))))) (Fc (.tail _ (.tail _ (.tail _ (.tail _ (hxbig _ (.tail _ (.head _))))))) fun p hp=>hp))
         clear N9
         repeat' (first
          | ((with_reducible show wpAny _ _ (subscriptTail _ _ (.str _ _) (.int _ _)) _ _ _);refine Ue ?_;with_reducible refine let_mvar% ?zx1:=(fun pf tpf tkf=>?_:Fa3 _);Au neI (Cv:Tie _ (type_of% ?zx1)) (?zx1 _ _ _);intro hp5;have hv5:=hval pf hp5;revert hv5;refine exi ?_;walk_at "eps";rename_i tv;intro htv;(try dsimp only))
          | ((with_reducible show wpAny _ _ (subscriptTail _ _ (.ref md) _) _ _ _);(rename News ..=>N9);refine Ep (Sh hom (N9 (md,om) (by k_mem)).1) htv ?_)
          | ((fail_if_success (with_reducible show wpAny _ _ (call (.ref 113) _) _ _ _));walk_at "go"))
         (rename Fr ..=>F9);(rename News ..=>N9)
         have N7:News (ghostOf s₁.heap [(125,123)]) s₁.heap.objs.size _ (f.own v x++tabs++((hX.objs.size,oI)::(nm,listOf (strValues nms).toArray k1)::(sc,listOf (scs.map fun l=>Value.ref l.1).toArray k2)::(md,om)::(scs.map slO++xtra))):=News.sub N9 (Fp (fun p hp=>.tail _ (.tail _ (.tail _ (.tail _ (.tail _ (.tail _ (hob p hp))))))) (Fc (.tail _ (.tail _ (.head _))) (Fc (.tail _ (.tail _ (.tail _ (.head _)))) (Fc (.tail _ (.tail _ (.tail _ (.tail _ (.head _))))) (Fc (.tail _ (.tail _ (.tail _ (.tail _ (.tail _ (.head _)))))) fun p hp=>.tail _ (.tail _ (.tail _ (.tail _ (.tail _ (.tail _ (hRb p hp)))))))))))
         clear N9
         refine Vb (os:=s₁.os) (w:=v) (f:=f) (tabs:=tabs) (n:=i4) X T rfl (show callerA.depth+1<600 from by decide) F9 N7 o5 b5 (hL.own (Fc (.inr (.inr fun p hp=>hIb p (hob p hp))) (Fc (.inr (.inl (.head _))) (Fc (.inr (.inl (.tail _ (.head _)))) (Fc (.inr (.inl (.tail _ (.tail _ (.head _))))) fun q hq=>.inl hq))))) hL.fit hi100 (Mc pf hp5) ?_
         with_reducible refine let_mvar% ?zx3:=(fun fN sN=>?_:Fa2 _);Ah neFS (Ar:Tie _ (type_of% ?zx3)) (?zx3 _ _);intro ON FN NN oN bN
         clear F9 N7
         have hs0:scs≠[]:=fun e=>by rw [e] at hsl;simp at hsl
         have hsp:∃ (scs0:List SL) (ls:SL),scs=scs0++[ls]:=⟨scs.dropLast,scs.getLast hs0,(List.dropLast_concat_getLast hs0).symm⟩
         revert hsp;refine Hm ?_;with_reducible refine let_mvar% ?zx4:=(fun scs0 ls=>?_:Fa2 _);Ah neI (Ar:Tie _ (type_of% ?zx4)) (?zx4 _ _)
         intro es
         have es2:scs.map (fun l=>Value.ref l.1)=scs0.map (fun l=>Value.ref l.1)++[Value.ref ls.1]:=by rw [es,List.map_append];rfl
         have hls:slO ls∈scs.map slO++xtra:=by rw [es,List.map_append];exact Ml _ (Mr _ (.head _))
         have hsub0:∀ q∈scs0.map slO++xtra,q∈scs.map slO++xtra:=by rw [es,List.map_append];exact Fp (fun q hq=>Ml _ (Ml _ hq)) fun q hq=>Mr _ hq
         have hin5:∀ q∈(scs0++[slP ls pf tpf]).map slO++xtra,∃ o,(q.1,o)∈scs.map slO++xtra:=by rw [es];exact sl_in
         have hd3:=hL.d3;rw [es] at hd3;have hNW:=hL.nw;rw [es,List.map_append] at hNW
         have hNW2:NW (v.tell (.sns pf (Aq pf))) ((scs0++[slP ls pf tpf]).map fun l=>l.2.1.map (·.1)) (nms.map (·.1)):=by
          rw [List.map_append,List.map_cons,List.map_nil,List.map_append];exact NW.sns hNW hp5
         have N6:News (ghostOf s₁.heap [(125,123)]) s₁.heap.objs.size sN.heap ((ls.1,listOf (strValues ls.2.1).toArray ls.2.2)::(sc,listOf (scs0.map (fun l=>Value.ref l.1)++[Value.ref ls.1]).toArray k2)::(nm,listOf (strValues nms).toArray k1)::(hX.objs.size,oI)::(md,om)::(fN.own (v.tell (.sns pf (Aq pf))) x++(tabs++(scs0.map slO++xtra)))):=by
          rw [← es2]
          exact News.sub NN (Fc (Mr _ (.tail _ (.tail _ (.tail _ (.tail _ hls))))) (Fc (Mr _ (.tail _ (.tail _ (.head _)))) (Fc (Mr _ (.tail _ (.head _))) (Fc (Mr _ (.head _)) (Fc (Mr _ (.tail _ (.tail _ (.tail _ (.head _))))) (Fp (fun p hp=>Ml _ (Ml _ hp)) (Fp (fun p hp=>Ml _ (Mr _ hp)) fun p hp=>Mr _ (.tail _ (.tail _ (.tail _ (.tail _ (hsub0 p hp))))))))))))
         have hvN:∀ p∈fN.own (v.tell (.sns pf (Aq pf))) x++tabs,p.1≠ls.1:=fun p hp=>ON.d2 p hp (slO ls) (.tail _ (.tail _ (.tail _ (.tail _ hls))))
         have u6:∀ p∈(sc,listOf (scs0.map (fun l=>Value.ref l.1)++[Value.ref ls.1]).toArray k2)::(nm,listOf (strValues nms).toArray k1)::(hX.objs.size,oI)::(md,om)::(fN.own (v.tell (.sns pf (Aq pf))) x++(tabs++(scs0.map slO++xtra))),p.1≠ls.1:=Fc (Ne.symm (hbm sc (.tail _ (.head _)) _ (hRb _ hls))) (Fc (Ne.symm (hbm nm (.head _) _ (hRb _ hls))) (Fc (Ne.symm (hIb _ (hRb _ hls))) (Fc (Ne.symm (hbm md (.tail _ (.tail _ (.head _))) _ (hRb _ hls))) (Fp (fun p hp=>hvN p (Ml _ hp)) (Fp (fun p hp=>hvN p (Mr _ hp)) (sl_ne hd3))))))
         have hz1:(strValues ls.2.1).toArray.size≤sizeLine:=by
          have h1:=hfew;rw [es,List.flatMap_append,List.length_append] at h1
          have h2:(List.flatMap (fun l:SL=>l.2.1) [ls]).length=ls.2.1.length:=by simp
          rw [sizeLine_eq];unfold strValues;simp only [List.size_toArray,List.length_map];exact(Nat.le_of_not_lt fun hn1=>fk [_,_,_] (.c 1 (.a (.a (.v 0) (.v 1)) (.k 1)) (.k 63) (.c 1 (.v 2) (.v 1) (.c 1 (.a (.k 16777216) (.k 1)) (.v 2) (.k 0)))) rfl h1 (Nat.le_of_eq (Eq.symm h2)) hn1)
         clear NN
         repeat' (first
          | ((with_reducible show wpAny _ _ (subscriptTail _ _ (.ref sc) _) _ _ _);(rename News ..=>N9);refine Cu (vs:=scs0.map (fun l=>Value.ref l.1)) (v:=Value.ref ls.1) (by exact⟨_,(N9 _ (.tail _ (.head _))).1,rfl,_,rfl⟩) ?_)
          | ((with_reducible show wpAny _ _ (call (.builtin "list.append") _) _ _ _);(rename Fr ..=>F9);(rename News ..=>N9);refine append_K (D:=ls.1) (x:=.str pf tpf) F9 N9 (.head u6) ?_ hz1;clear F9 N9;walk_at "eps";intro F9 N9;(try dsimp only))
          | ((fail_if_success (with_reducible show Flow.next=_∧_));walk_at "go"))
         (rename Fr ..=>F9);(rename News ..=>N9)
         rw [sl_push,← es2] at N9
         have es3:(scs0++[slP ls pf tpf]).map (fun l=>Value.ref l.1)=scs.map (fun l=>Value.ref l.1):=by rw [es2,List.map_append];rfl
         rw [← es3] at N9
         refine⟨rfl,Dw.of (scs:=scs0++[slP ls pf tpf]) (nms:=nms) (k1:=k1) (k2:=k2) ag7.prefix rfl F9 (News.sub N9 (Fc (.tail _ (.tail _ (.head _))) (Fc (.tail _ (.head _)) (Fc (.tail _ (.tail _ (.tail _ (.tail _ (.head _))))) (Fc (.tail _ (.tail _ (.tail _ (.head _)))) (Fp (fun p hp=>.tail _ (.tail _ (.tail _ (.tail _ (.tail _ (Ml _ hp)))))) (Fp (fun p hp=>.tail _ (.tail _ (.tail _ (.tail _ (.tail _ (Mr _ (Ml _ hp))))))) ?_))))))) ON (fun q hq=>.inl (let ⟨o,ho⟩:=hin5 q hq;⟨o,.tail _ (.tail _ (.tail _ (.tail _ ho)))⟩)) (Fc ⟨_,.tail _ (.head _)⟩ (Fc ⟨_,.tail _ (.tail _ (.head _))⟩ (Fc ⟨_,.tail _ (.tail _ (.tail _ (.head _)))⟩ (Fc ⟨_,.head _⟩ (List.forall_mem_nil _))))) hIm (fun p hp=>let ⟨o,ho⟩:=hin5 p hp;hIb (p.1,o) (hRb _ ho)) (hL.fit.tell (c:=.sns pf (Aq pf)) (Mc pf hp5)) hNW2 hL.six ?_ (d3_same (l:=ls) rfl hd3) (fun a ha p hp=>let ⟨o,ho⟩:=hin5 p hp;hbm a ha (p.1,o) (hRb _ ho)) oN bN⟩
         ·rw [List.map_append]
          exact Fp (Fp (fun p hp=>.tail _ (.tail _ (.tail _ (.tail _ (.tail _ (Mr _ (Mr _ (Ml _ hp)))))))) (Fc (.head _) (List.forall_mem_nil _))) fun p hp=>.tail _ (.tail _ (.tail _ (.tail _ (.tail _ (Mr _ (Mr _ (Mr _ hp)))))))
         ·have h1:=hL.few
          rw [es,List.flatMap_append,List.length_append] at h1;rw [List.flatMap_append,List.length_append]
          have h2:(List.flatMap (fun l:SL=>l.2.1) [ls]).length=ls.2.1.length:=by simp
          have h3:(List.flatMap (fun l:SL=>l.2.1) [slP ls pf tpf]).length=ls.2.1.length+1:=by simp
          exact(Nat.le_of_not_lt fun hn1=>fk [_,_,_,_,_] (.c 1 (.a (.v 0) (.v 1)) (.v 2) (.c 1 (.v 3) (.v 1) (.c 1 (.v 4) (.a (.v 3) (.k 1)) (.c 1 (.a (.a (.v 2) (.k 1)) (.k 1)) (.a (.v 0) (.v 4)) (.k 0))))) rfl h1 (Nat.le_of_eq (Eq.symm h2)) (Nat.le_of_eq h3) hn1)
    case cAsk =>
     clear F6 N5;refine Dw.out ?_
     with_reducible refine let_mvar% ?zA1:=(fun sT vT fT tabT scT nmT k1T=>?_:Fa7 _);Ap neTT (Cm:Tie _ (type_of% ?zA1)) (?zA1 _ _ _ _ _ _ _);with_reducible refine let_mvar% ?zA2:=(fun k2T w2 w3 w4 w5 w6 w7=>?_:Fa7 _);Ap neI (Cm:Tie _ (type_of% ?zA2)) (?zA2 _ _ _ _ _ _ _)
     intro hLT F9 N9 offT oT bT
     (try dsimp only)
     have hzT:∃ bigT,bigT=fT.own vT x++(tabT++(scT.map slO++xtra)):=⟨_,rfl⟩
     revert hzT;refine exi ?_;with_reducible refine let_mvar% ?zA3:=(fun bigT=>?_:Fa _);Aw neI (tie:Tie _ (type_of% ?zA3)) (?zA3 _);intro hbT
     rw [← hbT] at N9 offT
     have hxT:∀ p∈xtra,p∈bigT:=fun p hp=>by rw [hbT];exact Mr _ (Mr _ (Mr _ hp))
     have hmz:(1:Int)+((Bf ys).toArray.size:Int).fdiv 8≠0:=by
      have h1:(0:Int)≤((Bf ys).toArray.size:Int).fdiv 8:=Int.fdiv_nonneg (Int.natCast_nonneg _) (by decide)
      omega
     refine wpAny_execs_cons ?_
     refine wpAny_If (wpAny_mono (Q:=fun(_:Bool) s'=>∃ (h9:Heap) (tk9:Nat),s'={ heap:=h9,gens:=sT.gens,drawn:=sT.drawn,toks:=tk9,os:=sT.os }∧Fr (ghostOf s₁.heap [(125,123)]) s₁.heap.objs.size h9 (m7 "place" "rest" "kind" "known" "name" "attrs" "prefix" (Lo nm sc x po md nA sa) (some (Value.int (0+(i4:Int)) tp)) w2 w3 w4 w5 w6 w7)∧News (ghostOf s₁.heap [(125,123)]) s₁.heap.objs.size h9 ((hX.objs.size,oI)::(nm,listOf (strValues nmT).toArray k1T)::(sc,listOf (scT.map fun l=>Value.ref l.1).toArray k2T)::(md,om)::bigT)) ?cW ?cX (fun _ _ e=>e))
     case cW =>
      repeat' (first
       | ((with_reducible show wpAny _ _ (call (.builtin "len") _) _ _ _);(rename Fr ..=>F9);(rename News ..=>N9);refine PyProof.Rows.len_list (items:=(Bf ys).toArray) (Sn.list F9.keep (News.sub N9 (fun p hp=>.tail _ (.tail _ (.tail _ (.tail _ (hxT p hp))))))) hnl ?_;(try dsimp only))
       | ((with_reducible show wpAny _ _ (binaryOp Operator.Mod (.int _ _) (.int _ _)) _ _ _);refine PyProof.Rows.mod_int' hmz ?_;(try dsimp only))
       | ((fail_if_success (with_reducible show Exists _));walk_at "go"))
      all_goals ((rename Fr ..=>F9);(rename News ..=>N9);exact⟨_,_,rfl,F9,N9⟩)
     case cX =>
      clear F9 N9
      with_reducible refine let_mvar% ?zB1:=(fun bB sB=>?_:Fa2 _);Ah neBS (Ar:Tie _ (type_of% ?zB1)) (?zB1 _ _)
      refine Hm ?_;with_reducible refine let_mvar% ?zB2:=(fun hB tkB=>?_:Fa2 _);Ah neI (Ar:Tie _ (type_of% ?zB2)) (?zB2 _ _)
      rintro⟨hsB,F9,N9⟩;subst hsB
      (try dsimp only)
      have hbT4:∀ a∈[nm,sc,md],∀ p∈bigT,p.1≠a:=by rw [hbT];exact hLT.d4
      have hRT:∀ q∈scT.map slO++xtra,q∈bigT:=fun q hq=>by rw [hbT];exact Mr _ (Mr _ hq)
      have hoT:∀ p∈fT.own vT x++tabT,p∈bigT:=by rw [hbT];exact Fp (fun p hp=>Ml _ hp) fun p hp=>Mr _ (Ml _ hp)
      have hIbT:∀ p∈bigT,p.1≠hX.objs.size:=fun p hp=>offT p (.tail _ (.tail _ (.tail _ hp)))
      have hImT:∀ a∈[nm,sc,md],a≠hX.objs.size:=Fc (offT (nm,_) (.head _)) (Fc (offT (sc,_) (.tail _ (.head _))) (Fc (offT (md,om) (.tail _ (.tail _ (.head _)))) (List.forall_mem_nil _)))
      have hOT:OwnS w x vT fT tabT ((hX.objs.size,oI)::(nm,listOf (strValues nmT).toArray k1T)::(sc,listOf (scT.map fun l=>Value.ref l.1).toArray k2T)::(md,om)::(scT.map slO++xtra)):=hLT.own (Fc (.inr (.inr fun p hp=>hIbT p (hoT p hp))) (Fc (.inr (.inl (.head _))) (Fc (.inr (.inl (.tail _ (.head _)))) (Fc (.inr (.inl (.tail _ (.tail _ (.head _))))) fun q hq=>.inl hq))))
      have hi101:i4+1≤100:=Nat.lt_of_lt_of_le hi63 (by decide)
      have hdone:∀ (f':FD) (s':Shared),OwnS w x vT f' tabT ((hX.objs.size,oI)::(nm,listOf (strValues nmT).toArray k1T)::(sc,listOf (scT.map fun l=>Value.ref l.1).toArray k2T)::(md,om)::(scT.map slO++xtra))→Fr (ghostOf s₁.heap [(125,123)]) s₁.heap.objs.size s'.heap (m7 "place" "rest" "kind" "known" "name" "attrs" "prefix" (Lo nm sc x po md nA sa) (some (Value.int (0+(i4:Int)) tp)) w2 w3 w4 w5 w6 w7)→News (ghostOf s₁.heap [(125,123)]) s₁.heap.objs.size s'.heap (f'.own vT x++tabT++((hX.objs.size,oI)::(nm,listOf (strValues nmT).toArray k1T)::(sc,listOf (scT.map fun l=>Value.ref l.1).toArray k2T)::(md,om)::(scT.map slO++xtra)))→s'.os=s₁.os→AllBare s'.gens→Q9 .next s':=by
       intro f' s' O F N o1 b1
       obtain⟨m,own,h1,_,h3⟩:=Dw.of (W:=w) (x:=x) (om:=om) (xtra:=xtra) (i:=i4+1) (scs:=scT) (nms:=nmT) (k1:=k1T) (k2:=k2T) (vp:=some (Value.int (0+(i4:Int)) tp)) (ag7 (M0:=Lo nm sc x po md nA sa)) rfl F (News.sub N (Fc (Mr _ (.tail _ (.head _))) (Fc (Mr _ (.tail _ (.tail _ (.head _)))) (Fc (Mr _ (.tail _ (.tail _ (.tail _ (.head _))))) (Fc (Mr _ (.head _)) (Fp (fun p hp=>Ml _ (Ml _ hp)) (Fp (fun p hp=>Ml _ (Mr _ hp)) fun p hp=>Mr _ (.tail _ (.tail _ (.tail _ (.tail _ (hp)))))))))))) O (fun q hq=>.inl ⟨q.2,.tail _ (.tail _ (.tail _ (.tail _ (hq))))⟩) (Fc ⟨_,.tail _ (.head _)⟩ (Fc ⟨_,.tail _ (.tail _ (.head _))⟩ (Fc ⟨_,.tail _ (.tail _ (.tail _ (.head _)))⟩ (Fc ⟨_,.head _⟩ (List.forall_mem_nil _))))) hImT (fun p hp=>hIbT p (hRT p hp)) hLT.fit hLT.nw hLT.six hLT.few hLT.d3 (fun a ha p hp=>hbT4 a ha p (hRT p hp)) o1 b1
       exact hq9 .next s' ⟨_,m,own,h1,h3⟩
      by_cases hbB:bB=true
      ·refine ite_pos hbB ?_
       repeat' ((fail_if_success (with_reducible show wpAny _ _ (call (.ref 173) _) _ _ _));walk_at "go")
       (rename Fr ..=>F9);(rename News ..=>N9)
       have N7:News (ghostOf s₁.heap [(125,123)]) s₁.heap.objs.size _ (fT.own vT x++tabT++((hX.objs.size,oI)::(nm,listOf (strValues nmT).toArray k1T)::(sc,listOf (scT.map fun l=>Value.ref l.1).toArray k2T)::(md,om)::(scT.map slO++xtra))):=News.sub N9 (Fp (fun p hp=>.tail _ (.tail _ (.tail _ (.tail _ (hoT p hp))))) (Fc (.head _) (Fc (.tail _ (.head _)) (Fc (.tail _ (.tail _ (.head _))) (Fc (.tail _ (.tail _ (.tail _ (.head _)))) fun p hp=>.tail _ (.tail _ (.tail _ (.tail _ (hRT p hp)))))))))
       clear N9
       have hszT:scT.length≤100:=by
        have h1:=hLT.nw.std.len.2;rw [List.length_map,List.length_map] at h1;have h2:=hLT.six
        exact(Nat.le_of_not_lt fun hn1=>fk [_,_] (.c 1 (.v 0) (.a (.v 1) (.k 1)) (.c 1 (.v 1) (.k 6) (.c 1 (.a (.k 100) (.k 1)) (.v 0) (.k 0)))) rfl (Nat.le_of_eq h1) h2 hn1)
       refine Qx (os:=s₁.os) (w:=vT) (f:=fT) (tabs:=tabT) (scs:=scT) (k2:=k2T) (om:=om) (kvs:=kvs) (n:=i4+1) X T (below_caller _) rfl (show callerA.depth+1<600 from by decide) (by show _<8000;simp [Around.deeper,callerA]) F9 N7 oT bT hOT hLT.fit hi101 hLT.nw (.tail _ (.tail _ (.head _))) (fun l hl=>.tail _ (.tail _ (.tail _ (.tail _ (Ml _ (List.mem_map_of_mem hl)))))) hszT (Nat.le_trans hLT.few (Nat.le_trans hi101 (by decide))) (.tail _ (.tail _ (.tail _ (.head _)))) hom hval ?_
       with_reducible refine let_mvar% ?zB3:=(fun fN sN=>?_:Fa2 _);Ah neFS (Ar:Tie _ (type_of% ?zB3)) (?zB3 _ _);intro ON FN NN oN bN
       clear F9 N7
       (try dsimp only)
       repeat' ((fail_if_success (with_reducible show Q9 _ _));walk_at "go")
       (rename Fr ..=>F9);(rename News ..=>N9)
       exact hdone fN _ ON F9 N9 oN bN
      ·refine ite_neg hbB ?_
       repeat' ((fail_if_success (with_reducible show Q9 _ _));walk_at "go")
       (rename Fr ..=>F9);(rename News ..=>N9)
       exact hdone fT _ hOT F9 (News.sub N9 (Fp (fun p hp=>.tail _ (.tail _ (.tail _ (.tail _ (hoT p hp))))) (Fc (.head _) (Fc (.tail _ (.head _)) (Fc (.tail _ (.tail _ (.head _))) (Fc (.tail _ (.tail _ (.tail _ (.head _)))) fun p hp=>.tail _ (.tail _ (.tail _ (.tail _ (hRT p hp)))))))))) oT bT
end
end Mine
theorem PySem.Challenge.cw_dn0283_03_holds : PySem.Challenge.rw_dn0283_03.Holds :=
  Mine.law03
