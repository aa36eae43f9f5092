import PyProof.Rows.All
import KE.KDictLaws
import KE.KFromBytes
import Wide.FinOn
import OpenK.AllK
import Wide.All
import Lean
import PySem.Challenge.RW_dm0053_05
set_option Elab.async false
set_option genInjectivity false
set_option genSizeOf false
set_option maxRecDepth 100000
set_option linter.all false
open PySem PySem.W PyProof.Rows PySem.Calls
namespace Mine
local macro_rules
| `(tactic| rfl') => `(tactic| kernel_rfl)
local macro_rules
| `(⋯) => `(by kernel_rfl)
section
namespace Z
inductive T |v (i:Nat) |k (n:Nat) |o (c:Nat) (x y:T)
noncomputable abbrev Ln:=Int×List Int×List Int
noncomputable abbrev Al:=List (List Ln×Ln)
noncomputable def dot(a:List Int):List Int->Int:=a.rec (λ_=>0) λc _ r x=>match x with | []=>0 |x :: xs=>c*x+r xs
noncomputable def ladd(a:List Int):List Int->List Int:=a.rec (λb=>b) λc cs r b=>match b with | []=>c :: cs |x :: xs=>(c+x) :: r xs
theorem i4(a b c d:Int):a+b+(c+d)=a+c+(b+d):=by omega
theorem aAf(a:List Int):∀ b x,dot (ladd a b) x=dot a x+dot b x:=by
 induction a with
 |nil=>exact λb x=>(Int.zero_add _).symm
 |cons a as ih=>
  intro b x
  cases b with
  |nil=>exact(Int.add_zero _).symm
  |cons b bs=>
   cases x with
   |nil=>rfl
   |cons x xs=>
    show(a+b)*x+dot (ladd as bs) xs=(a*x+dot as xs)+(b*x+dot bs xs)
    rw [ih,Int.add_mul,i4]
theorem aAe(k:Int)(a:List Int):∀ x,dot (a.map (k* ·)) x=k*dot a x:=by
 induction a with
 |nil=>exact λx=>(Int.mul_zero _).symm
 |cons a as ih=>
  intro x
  cases x with
  |nil=>exact(Int.mul_zero _).symm
  |cons x xs=>
   show k*a*x+dot (as.map (k* ·)) xs=k*(a*x+dot as xs)
   rw [ih,Int.mul_add,Int.mul_assoc]
noncomputable def un(i:Nat):List Int:=i.rec [1] λ_ r=>0 :: r
theorem aFy(i:Nat):∀ x:List Int,dot (un i) x=x.getD i 0:=by
 induction i with
 |zero=>intro x;cases x with
  |nil=>rfl
  |cons x xs=>exact(Int.add_zero _).trans (Int.one_mul _)
 |succ i ih=>intro x;cases x with
  |nil=>rfl
  |cons x xs=>exact(congrArg (·+_) (Int.zero_mul x)).trans ((Int.zero_add _).trans (ih xs))
noncomputable def la(a b:Ln):Ln:=(a.1+b.1,ladd a.2.1 b.2.1,ladd a.2.2 b.2.2)
noncomputable def lm(k:Int)(a:Ln):Ln:=(k*a.1,a.2.1.map (k* ·),a.2.2.map (k* ·))
noncomputable def ls(a b:Ln):Ln:=la a (lm (-1) b)
noncomputable def lk(k:Int):Ln:=(k,[],[])
section
variable (xs:List Int)(ns:List Nat)
noncomputable def ev(l:Ln):Int:=l.1+(dot l.2.1 xs+dot l.2.2 (ns.map Nat.cast))
theorem aFn(a b:Ln):ev xs ns (la a b)=ev xs ns a+ev xs ns b:=by
 show a.1+b.1+(dot (ladd _ _) _+dot (ladd _ _) _)=a.1+(_+_)+(b.1+(_+_))
 rw [aAf,aAf,i4 (dot a.2.1 xs)];exact i4 ..
theorem aFm(k:Int)(a:Ln):ev xs ns (lm k a)=k*ev xs ns a:=by
 show k*a.1+(dot (List.map _ _) _+dot (List.map _ _) _)=k*(a.1+(_+_))
 rw [aAe,aAe,Int.mul_add,Int.mul_add]
theorem sM(a b:Ln):ev xs ns (ls a b)=ev xs ns a-ev xs ns b:=by rw[ls,aFn,aFm,Int.neg_mul,Int.one_mul,Int.sub_eq_add_neg]
theorem qQ(k:Int):ev xs ns (lk k)=k:=Int.add_zero k
noncomputable def Sg(g:List Ln):Prop:=∀ q∈g,0<=ev xs ns q
noncomputable def Sa(a:Al)(z:Int):Prop:=∃ p∈a,Sg xs ns p.1/\ev xs ns p.2=z
noncomputable def Sd(d:List (List Ln)):Prop:=∃ g∈d,Sg xs ns g
noncomputable def pr{β:Type}(f:List Ln->Ln->Ln->List β)(a b:Al):List β:=a.flatMap λp=>b.flatMap λq=>f (p.1++q.1) p.2 q.2
variable {xs ns}
theorem Sg.app{a b:List Ln}(h:Sg xs ns a)(g:Sg xs ns b):Sg xs ns (a++b):=λq m=>(List.mem_append.mp m).elim (h q) (g q)
theorem Sg.sn{a:List Ln}{l:Ln}(h:Sg xs ns a)(g:0<=ev xs ns l):Sg xs ns (a++[l]):=h.app λ_ m=>List.mem_singleton.mp m▸g
theorem Sg.nil:Sg xs ns []:=λ_ h=>absurd h List.not_mem_nil
theorem tJ{β:Type}{f:List Ln->Ln->Ln->List β}{a b:Al}{x y:Int}{P:β->Prop}(h:Sa xs ns a x)(g:Sa xs ns b y)(k:∀ u v w,Sg xs ns u->ev xs ns v=x->ev xs ns w=y->∃ z∈f u v w,P z):∃ z∈pr f a b,P z:=
 h.elim λp h=>g.elim λq g=>(k _ _ _ (h.2.1.app g.2.1) h.2.2 g.2.2).elim λz m=>⟨z,List.mem_flatMap.mpr ⟨p,h.1,List.mem_flatMap.mpr ⟨q,g.1,m.1⟩⟩,m.2⟩
theorem Sa.one{l:Ln}{z:Int}(h:ev xs ns l=z):Sa xs ns [([],l)] z:=⟨_,List.mem_singleton_self _,.nil,h⟩
end
noncomputable def op(c:Nat)(x y:Nat×Int):Nat×Int:=List.getD [(x.1+y.1,x.2+y.2),(x.1-y.1,x.2-y.2),(max x.1 y.1,max x.2 y.2),(min x.1 y.1,min x.2 y.2),(x.2.toNat,(x.1:Int)),(0,-x.2)] c ((c-32)*x.1,((c-32:Nat):Int)*x.2)
noncomputable def aN(f:Ln->Ln->Ln):Al->Al->Al:=pr λg p q=>[(g,f p q)]
noncomputable def aC(f:Ln->Ln->Ln×Ln):Al->Al->Al:=pr λg p q=>[(g++[ls p q],(f p q).1),(g++[ls q p],(f p q).2)]
noncomputable def one:Al:=[([],lk 0)]
noncomputable def al(c:Nat)(x y:Al×Al):Al×Al:=List.getD [(aN la x.1 y.1,aN la x.2 y.2),(aC (λp q=>(ls p q,lk 0)) x.1 y.1,aN ls x.2 y.2),(aC (λp q=>(p,q)) x.1 y.1,aC (λp q=>(p,q)) x.2 y.2),
 (aC (λp q=>(q,p)) x.1 y.1,aC (λp q=>(q,p)) x.2 y.2),(aC (λp q=>(p,lk 0)) x.2 one,x.1),(one,aN (λp _=>lm (-1) p) x.2 one)] c (aN (λp _=>lm (c-32:Nat) p) x.1 one,aN (λp _=>lm (c-32:Nat) p) x.2 one)
section
variable {xs:List Int}{ns:List Nat}{a b:Al}{x y z:Int}
noncomputable def S2(xs:List Int)(ns:List Nat)(a:Al×Al)(x:Nat×Int):Prop:=Sa xs ns a.1 x.1/\Sa xs ns a.2 x.2
theorem Sa.zero:Sa xs ns Z.one 0:=.one (qQ xs ns 0)
theorem Sa.aN{f:Ln->Ln->Ln}(k:∀ p q,ev xs ns p=x->ev xs ns q=y->ev xs ns (f p q)=z)(h:Sa xs ns a x)(g:Sa xs ns b y):Sa xs ns (aN f a b) z:=tJ h g λu v w s e e'=>⟨_,List.mem_singleton_self _,s,k v w e e'⟩
theorem Sa.aC{f:Ln->Ln->Ln×Ln}(k:∀ p q,ev xs ns p=x->ev xs ns q=y->(y<=x->ev xs ns (f p q).1=z)/\(x<=y->ev xs ns (f p q).2=z))(h:Sa xs ns a x)(g:Sa xs ns b y):Sa xs ns (aC f a b) z:=
 tJ h g λu v w s e e'=>(Int.le_total y x).elim
  (λl=>⟨_,.head _,s.sn (sM xs ns v w▸Int.sub_nonneg_of_le (e▸e'▸l)),(k v w e e').1 l⟩) λl=>⟨_,.tail _ (.head _),s.sn (sM xs ns w v▸Int.sub_nonneg_of_le (e▸e'▸l)),(k v w e e').2 l⟩
theorem al_ok(c:Nat){a b:Al×Al}{x y:Nat×Int}(h:S2 xs ns a x)(g:S2 xs ns b y):S2 xs ns (al c a b) (op c x y):=by
 have A:∀ {x y:Int} (p q:Ln),ev xs ns p=x->ev xs ns q=y->ev xs ns (la p q)=x+y:=λp q e e'=>by rw[aFn,e,e']
 have S:∀ {x y:Int} (p q:Ln),ev xs ns p=x->ev xs ns q=y->ev xs ns (ls p q)=x-y:=λp q e e'=>by rw[sM,e,e']
 have M:∀ (k:Int){x y:Int} (p q:Ln),ev xs ns p=x->ev xs ns q=y->ev xs ns (lm k p)=k*x:=λk _ _ p q e e'=>by rw[aFm,e]
 cases c with
 |zero=>exact⟨h.1.aN (z:=((x.1+y.1:Nat):Int)) A g.1,h.2.aN A g.2⟩
 |succ c=>cases c with
  |zero=>exact⟨Sa.aC (z:=((x.1-y.1:Nat):Int)) (f:=λp q=>(ls p q,lk 0)) (λp q e e'=>⟨λl=>(S p q e e').trans (Int.ofNat_sub (Int.ofNat_le.mp l)).symm,λl=>(qQ _ _ _).trans (congrArg Nat.cast (Nat.sub_eq_zero_of_le (Int.ofNat_le.mp l)).symm)⟩) h.1 g.1,h.2.aN S g.2⟩
  |succ c=>cases c with
   |zero=>exact⟨h.1.aC (z:=((max x.1 y.1:Nat):Int)) (f:=λp q=>(p,q)) (λp q e e'=>⟨λl=>e.trans (congrArg Nat.cast (Nat.max_eq_left (Int.ofNat_le.mp l)).symm),λl=>e'.trans (congrArg Nat.cast (Nat.max_eq_right (Int.ofNat_le.mp l)).symm)⟩) g.1,
     h.2.aC (z:=max x.2 y.2) (f:=λp q=>(p,q)) (λp q e e'=>⟨λl=>e.trans (Int.max_eq_left l).symm,λl=>e'.trans (Int.max_eq_right l).symm⟩) g.2⟩
   |succ c=>cases c with
    |zero=>exact⟨h.1.aC (z:=((min x.1 y.1:Nat):Int)) (f:=λp q=>(q,p)) (λp q e e'=>⟨λl=>e'.trans (congrArg Nat.cast (Nat.min_eq_right (Int.ofNat_le.mp l)).symm),λl=>e.trans (congrArg Nat.cast (Nat.min_eq_left (Int.ofNat_le.mp l)).symm)⟩) g.1,
      h.2.aC (z:=min x.2 y.2) (f:=λp q=>(q,p)) (λp q e e'=>⟨λl=>e'.trans (Int.min_eq_right l).symm,λl=>e.trans (Int.min_eq_left l).symm⟩) g.2⟩
    |succ c=>cases c with
     |zero=>exact⟨h.2.aC (z:=(x.2.toNat:Int)) (f:=λp q=>(p,lk 0)) (λp q e e'=>⟨λl=>e.trans (Int.toNat_of_nonneg l).symm,λl=>(qQ _ _ _).trans (congrArg Nat.cast (Int.toNat_of_nonpos l).symm)⟩) .zero,h.1⟩
     |succ c=>cases c with
      |zero=>exact⟨.zero,h.2.aN (λp q e e'=>(M (-1) p q e e').trans (by rw[Int.neg_mul,Int.one_mul];rfl)) .zero⟩
      |succ c=>exact⟨h.1.aN (M _) .zero,h.2.aN (M _) .zero⟩
end
noncomputable def den(xs:List Int)(ns:List Nat)(t:T):Nat×Int:=t.rec (λi=>(ns.getD i 0,xs.getD i 0)) (λn=>(n,(n:Int))) λc _ _ x y=>op c x y
noncomputable def alt(t:T):Al×Al:=t.rec (λi=>([([],0,[],un i)],[([],0,un i,[])])) (λn=>([([],lk n)],[([],lk n)])) λc _ _ x y=>al c x y
theorem aGe(xs:List Int)(ns:List Nat)(t:T):S2 xs ns (alt t) (den xs ns t):=by
 induction t with
 |v i=>
  refine⟨.one ?_,.one ?_⟩
  ·refine(Int.zero_add _).trans ((Int.zero_add _).trans ((aFy i _).trans ?_))
   show List.getD (List.map Nat.cast ns) i (Nat.cast 0)=_
   rw [List.getD_eq_getElem?_getD,List.getElem?_map];show _=((List.getD ns i 0:Nat):Int);rw[List.getD_eq_getElem?_getD];cases ns[i]? <;>rfl
  ·exact(Int.zero_add _).trans ((congrArg (_+ ·) rfl).trans ((Int.add_zero _).trans (aFy i xs)))
 |k n=>exact⟨.one (qQ ..),.one (qQ ..)⟩
 |o c x y h g=>exact al_ok c h g
noncomputable def rL(a b:Al)(l:Ln->Ln->List (List Ln)):List (List Ln):=pr (λg p q=>(l p q).map (g++ ·)) a b
noncomputable def dP(xs:List Int)(ns:List Nat)(t:T):Prop:=t.rec (λ_=>False) (λ_=>False) λc x y p q=>
 List.getD [(den xs ns x).1<=(den xs ns y).1,(den xs ns x).1=(den xs ns y).1,(den xs ns x).2<=(den xs ns y).2,(den xs ns x).2=(den xs ns y).2,¬p,p/\q,p∨q] c (p->q)
noncomputable def cr(p q:List (List Ln)):List (List Ln):=p.flatMap λg=>q.map (g++ ·)
noncomputable def aEj(p q:Ln):List (List Ln):=[[ls q p]]
noncomputable def aEk(p q:Ln):List (List Ln):=[[ls (ls p q) (lk 1)]]
noncomputable def aFq(p q:Ln):List (List Ln):=[[ls q p,ls p q]]
noncomputable def aFr(p q:Ln):List (List Ln):=[[ls (ls p q) (lk 1)],[ls (ls q p) (lk 1)]]
noncomputable def dn(t:T):List (List Ln)×List (List Ln):=t.rec (λ_=>([],[[]])) (λ_=>([],[[]])) λc x y p q=>
 List.getD [(rL (alt x).1 (alt y).1 aEj,rL (alt x).1 (alt y).1 aEk),(rL (alt x).1 (alt y).1 aFq,rL (alt x).1 (alt y).1 aFr),(rL (alt x).2 (alt y).2 aEj,rL (alt x).2 (alt y).2 aEk),
  (rL (alt x).2 (alt y).2 aFq,rL (alt x).2 (alt y).2 aFr),(p.2,p.1),(cr p.1 q.1,p.2++q.2),(p.1++q.1,cr p.2 q.2)] c (p.2++q.1,cr p.1 q.2)
section
variable {xs:List Int}{ns:List Nat}{a b:Al}{x y:Int}
theorem Sd.app{p q:List (List Ln)}(h:Sd xs ns p∨Sd xs ns q):Sd xs ns (p++q):=h.elim (fun⟨g,m,s⟩=>⟨g,List.mem_append_left _ m,s⟩) fun⟨g,m,s⟩=>⟨g,List.mem_append_right _ m,s⟩
theorem Sd.cr{p q:List (List Ln)}(h:Sd xs ns p)(k:Sd xs ns q):Sd xs ns (cr p q):=h.elim λg h=>k.elim λg' k=>⟨g++g',List.mem_flatMap.mpr ⟨g,h.1,List.mem_map.mpr ⟨g',k.1,rfl⟩⟩,h.2.app k.2⟩
theorem zG{l:Ln->Ln->List (List Ln)}(h:Sa xs ns a x)(g:Sa xs ns b y)(k:∀ p q,ev xs ns p=x->ev xs ns q=y->Sd xs ns (l p q)):Sd xs ns (rL a b l):=
 tJ h g λu v w s e e'=>(k v w e e').elim λg h=>⟨_,List.mem_map.mpr ⟨g,h.1,rfl⟩,s.app h.2⟩
theorem aEb{p q:Ln}(e:ev xs ns p=x)(e':ev xs ns q=y)(h:y<x):Sg xs ns [ls (ls p q) (lk 1)]:=λ_ m=>by rw[List.mem_singleton.mp m,sM,sM,qQ,e,e'];exact Int.sub_nonneg_of_le (Int.le_sub_left_of_add_le h)
theorem aEi{p q:Ln}(e:ev xs ns p=x)(e':ev xs ns q=y)(h:y<=x):0<=ev xs ns (ls p q):=by rw[sM,e,e'];exact Int.sub_nonneg_of_le h
theorem aEh(h:Sa xs ns a x)(g:Sa xs ns b y):(x<=y->Sd xs ns (rL a b aEj))/\(¬x<=y->Sd xs ns (rL a b aEk)):=
 ⟨λl=>zG h g λp q e e'=>⟨_,.head _,λ_ m=>List.mem_singleton.mp m▸aEi e' e l⟩,λl=>zG h g λp q e e'=>⟨_,.head _,aEb e e' (Int.not_le.mp l)⟩⟩
theorem aFp(h:Sa xs ns a x)(g:Sa xs ns b y):(x=y->Sd xs ns (rL a b aFq))/\(¬x=y->Sd xs ns (rL a b aFr)):=
 ⟨λl=>zG h g λp q e e'=>⟨_,.head _,Sg.sn (a:=[_]) (λ_ m=>List.mem_singleton.mp m▸aEi e' e (Int.le_of_eq l)) (aEi e e' (Int.le_of_eq l.symm))⟩,
  λl=>zG h g λp q e e'=>(Int.lt_or_gt_of_ne l).elim (λl=>⟨_,.tail _ (.head _),aEb e' e l⟩) λl=>⟨_,.head _,aEb e e' l⟩⟩
theorem dn_ok(t:T):(dP xs ns t->Sd xs ns (dn t).1)/\(¬dP xs ns t->Sd xs ns (dn t).2):=by
 induction t with
 |v i=>exact⟨False.elim,λ_=>⟨_,.head _,.nil⟩⟩
 |k n=>exact⟨False.elim,λ_=>⟨_,.head _,.nil⟩⟩
 |o c x y h g=>
  have X:=aGe xs ns x
  have Y:=aGe xs ns y
  cases c with
  |zero=>exact⟨λl=>(aEh X.1 Y.1).1 (Int.ofNat_le.mpr l),λl=>(aEh X.1 Y.1).2 λz=>l (Int.ofNat_le.mp z)⟩
  |succ c=>cases c with
   |zero=>exact⟨λl=>(aFp X.1 Y.1).1 (congrArg Nat.cast l),λl=>(aFp X.1 Y.1).2 λz=>l (Int.ofNat.inj z)⟩
   |succ c=>cases c with
    |zero=>exact aEh X.2 Y.2
    |succ c=>cases c with
     |zero=>exact aFp X.2 Y.2
     |succ c=>cases c with
      |zero=>exact⟨h.2,λl=>h.1 (Classical.not_not.mp l)⟩
      |succ c=>cases c with
       |zero=>exact⟨λl=>(h.1 l.1).cr (g.1 l.2),λl=>.app ((Classical.not_and_iff_not_or_not.mp l).imp h.2 g.2)⟩
       |succ c=>cases c with
        |zero=>exact⟨λl=>.app (l.imp h.1 g.1),λl=>(h.2 λz=>l (.inl z)).cr (g.2 λz=>l (.inr z))⟩
        |succ c=>exact⟨λl=>.app ((Classical.em _).elim (λz=>.inr (g.1 (l z))) λz=>.inl (h.2 z)),λl=>(h.1 (Classical.not_imp.mp l).1).cr (g.2 (Classical.not_imp.mp l).2)⟩
end
noncomputable def sm(g:List Ln):Nat->Ln×Nat:=g.rec (λs=>(lk 0,s)) λl _ r s=>(la (lm (s%64:Nat) l) (r (s/64)).1,(r (s/64)).2)
noncomputable def ng(b:Int->Bool)(l:List Int):Bool:=l.rec true λc _ r=>cond (b c) r false
noncomputable def gd(l:Ln):Bool:=cond (decide (l.1<0)) (cond (ng (λc=>decide (c=0)) l.2.1) (ng (λc=>decide (c<=0)) l.2.2) false) false
noncomputable def ck(d:List (List Ln)):Nat->Bool:=d.rec (λ_=>true) λg _ r s=>cond (gd (sm g s).1) (r (sm g s).2) false
section
variable {xs:List Int}{ns:List Nat}
theorem fD{a b:Bool}(h:cond a b false=true):a=true/\b=true:=by
 cases a with
 |true=>exact⟨rfl,h⟩
 |false=>exact absurd h Bool.false_ne_true
theorem sm_ok{g:List Ln}:∀ (s:Nat),Sg xs ns g->0<=ev xs ns (sm g s).1:=by
 induction g with
 |nil=>exact λs _=>Int.le_of_eq (qQ xs ns 0).symm
 |cons l g ih=>
  intro s h
  show 0<=ev xs ns (la (lm _ l) (sm g (s/64)).1)
  rw [aFn,aFm]
  exact Int.add_nonneg (Int.mul_nonneg (Int.natCast_nonneg _) (h l (.head _))) (ih _ λq m=>h q (.tail _ m))
theorem ng_le{b:Int->Bool}{l:List Int}(k:∀ c x,b c=true->0<=x->c*x<=0):∀ (x:List Int),(∀ y∈x,0<=y)->ng b l=true->dot l x<=0:=by
 induction l with
 |nil=>exact λ_ _ _=>Int.le_refl _
 |cons c l ih=>
  intro x h e
  cases x with
  |nil=>exact Int.le_refl _
  |cons x xs=>exact Int.add_nonpos (k c x (fD e).1 (h x (.head _))) (ih xs (λy m=>h y (.tail _ m)) (fD e).2)
theorem aHp{l:List Int}:∀ (x:List Int),ng (λc=>decide (c=0)) l=true->dot l x<=0:=by
 induction l with
 |nil=>exact λ_ _=>Int.le_refl _
 |cons c l ih=>
  intro x e
  cases x with
  |nil=>exact Int.le_refl _
  |cons x xs=>exact Int.add_nonpos (Int.le_of_eq (of_decide_eq_true (fD e).1▸Int.zero_mul x)) (ih xs (fD e).2)
theorem gd_no{l:Ln}(h:gd l=true): ¬0<=ev xs ns l:=λg=>
 absurd (Int.le_trans g (Int.add_le_add_left (Int.add_nonpos (aHp xs (fD (fD h).2).1)
  (ng_le (λc x e h=>Int.mul_nonpos_of_nonpos_of_nonneg (of_decide_eq_true e) h) (ns.map Nat.cast) (λy m=>by obtain⟨n,_,e⟩:=List.mem_map.mp m;exact e▸Int.natCast_nonneg n) (fD (fD h).2).2)) l.1))
  (Int.not_le.mpr (by rw[Int.add_zero];exact of_decide_eq_true (fD h).1))
theorem ck_no{d:List (List Ln)}:∀ {s:Nat},ck d s=true->¬Sd xs ns d:=by
 induction d with
 |nil=>exact λ_ ⟨_,m,_⟩=>absurd m List.not_mem_nil
 |cons g d ih=>
  intro s h ⟨g',m,k⟩
  cases m with
  |head=>exact gd_no (fD h).1 (sm_ok s k)
  |tail _ m=>exact ih (fD h).2 ⟨g',m,k⟩
end
noncomputable def lit(f:Nat):Nat->Nat×Nat:=f.rec (λs=>(0,s)) λ_ r s=>cond (Nat.ble 32 (s%64)) ((s%64-32)+32*(r (s/64)).1,(r (s/64)).2) (s%64,s/64)
noncomputable def dec(f:Nat):Nat->T×Nat:=f.rec (λs=>(.v 0,s)) λ_ r s=>
 cond (Nat.ble 40 (s%64)) (cond (Nat.ble 61 (s%64)) ((lit 30 (s/64)).rec λn s'=>cond (Nat.ble (s%64) 61) (.k n,s') ((r s').rec λx s=>(.o (n+32) x x,s))) (.v (s%64-40),s/64))
  ((r (s/64)).rec λx s'=>(r s').rec λy s''=>(.o (s%64) x y,s''))
theorem R(k:Nat)(xs:List Int)(ns:List Nat){P:Prop}(h:dP xs ns (dec 99 k).1=P)(c:ck (dn (dec 99 k).1).2 (dec 99 k).2=true):P:=
 h▸Classical.not_not.mp λz=>ck_no c ((dn_ok _).2 z)
end Z
end
section
theorem xA{p0:Prop}{p1:Prop}{G:Prop}(h:p0/\p1)(k:p0->p1->G):G:=k h.1 h.2
theorem xE{α:Sort _}{p0:α->Prop}{G:Prop}(h:∃ a0:α,p0 a0)(k:∀ a0,p0 a0->G):G:=h.elim λa0 h1=>k a0 h1
theorem xAA{p0:Prop}{p1:Prop}{p2:Prop}{G:Prop}(h:p0/\p1/\p2)(k:p0->p1->p2->G):G:=k h.1 h.2.1 h.2.2
theorem xAE{α:Sort _}{p0:Prop}{p1:α->Prop}{G:Prop}(h:p0/\∃ a0:α,p1 a0)(k:p0->∀ a0,p1 a0->G):G:=h.2.elim λa0 h1=>k h.1 a0 h1
theorem xEA{α:Sort _}{p0:α->Prop}{p1:α->Prop}{G:Prop}(h:∃ a0:α,p0 a0/\p1 a0)(k:∀ a0,p0 a0->p1 a0->G):G:=h.elim λa0 h1=>k a0 h1.1 h1.2
theorem xEE{α β:Sort _}{p0:α->β->Prop}{G:Prop}(h:∃ a0:α,∃ a1:β,p0 a0 a1)(k:∀ a0,∀ a1,p0 a0 a1->G):G:=h.elim λa0 h1=>h1.elim λa1 h2=>k a0 a1 h2
theorem xAAA{p0:Prop}{p1:Prop}{p2:Prop}{p3:Prop}{G:Prop}(h:p0/\p1/\p2/\p3)(k:p0->p1->p2->p3->G):G:=k h.1 h.2.1 h.2.2.1 h.2.2.2
theorem xAEA{α:Sort _}{p0:Prop}{p1:α->Prop}{p2:α->Prop}{G:Prop}(h:p0/\∃ a0:α,p1 a0/\p2 a0)(k:p0->∀ a0,p1 a0->p2 a0->G):G:=h.2.elim λa0 h1=>k h.1 a0 h1.1 h1.2
theorem dC{α:Sort _}{p0:α->Prop}{p1:α->Prop}{p2:α->Prop}{G:Prop}(h:∃ a0:α,p0 a0/\p1 a0/\p2 a0)(k:∀ a0,p0 a0->p1 a0->p2 a0->G):G:=h.elim λa0 h1=>k a0 h1.1 h1.2.1 h1.2.2
theorem bP{α β:Sort _}{p0:α->β->Prop}{p1:α->β->Prop}{G:Prop}(h:∃ a0:α,∃ a1:β,p0 a0 a1/\p1 a0 a1)(k:∀ a0,∀ a1,p0 a0 a1->p1 a0 a1->G):G:=h.elim λa0 h1=>h1.elim λa1 h2=>k a0 a1 h2.1 h2.2
theorem xEEE{α β γ:Sort _}{p0:α->β->γ->Prop}{G:Prop}(h:∃ a0:α,∃ a1:β,∃ a2:γ,p0 a0 a1 a2)(k:∀ a0,∀ a1,∀ a2,p0 a0 a1 a2->G):G:=h.elim λa0 h1=>h1.elim λa1 h2=>h2.elim λa2 h3=>k a0 a1 a2 h3
theorem xAAAA{p0:Prop}{p1:Prop}{p2:Prop}{p3:Prop}{p4:Prop}{G:Prop}(h:p0/\p1/\p2/\p3/\p4)(k:p0->p1->p2->p3->p4->G):G:=k h.1 h.2.1 h.2.2.1 h.2.2.2.1 h.2.2.2.2
theorem r6{α:Sort _}{p0:Prop}{p1:Prop}{p2:α->Prop}{p3:α->Prop}{G:Prop}(h:p0/\p1/\∃ a0:α,p2 a0/\p3 a0)(k:p0->p1->∀ a0,p2 a0->p3 a0->G):G:=h.2.2.elim λa0 h1=>k h.1 h.2.1 a0 h1.1 h1.2
theorem xEAAA{α:Sort _}{p0:α->Prop}{p1:α->Prop}{p2:α->Prop}{p3:α->Prop}{G:Prop}(h:∃ a0:α,p0 a0/\p1 a0/\p2 a0/\p3 a0)(k:∀ a0,p0 a0->p1 a0->p2 a0->p3 a0->G):G:=h.elim λa0 h1=>k a0 h1.1 h1.2.1 h1.2.2.1 h1.2.2.2
theorem y5{α β:Sort _}{p0:α->Prop}{p1:α->Prop}{p2:α->β->Prop}{G:Prop}(h:∃ a0:α,p0 a0/\p1 a0/\∃ a1:β,p2 a0 a1)(k:∀ a0,p0 a0->p1 a0->∀ a1,p2 a0 a1->G):G:=h.elim λa0 h1=>h1.2.2.elim λa1 h2=>k a0 h1.1 h1.2.1 a1 h2
theorem aB8{α β:Sort _}{p0:α->Prop}{p1:α->β->Prop}{p2:α->β->Prop}{G:Prop}(h:∃ a0:α,p0 a0/\∃ a1:β,p1 a0 a1/\p2 a0 a1)(k:∀ a0,p0 a0->∀ a1,p1 a0 a1->p2 a0 a1->G):G:=h.elim λa0 h1=>h1.2.elim λa1 h2=>k a0 h1.1 a1 h2.1 h2.2
theorem b8{α β:Sort _}{p0:α->β->Prop}{p1:α->β->Prop}{p2:α->β->Prop}{G:Prop}(h:∃ a0:α,∃ a1:β,p0 a0 a1/\p1 a0 a1/\p2 a0 a1)(k:∀ a0,∀ a1,p0 a0 a1->p1 a0 a1->p2 a0 a1->G):G:=h.elim λa0 h1=>h1.elim λa1 h2=>k a0 a1 h2.1 h2.2.1 h2.2.2
theorem iS{α β γ:Sort _}{p0:α->β->γ->Prop}{p1:α->β->γ->Prop}{G:Prop}(h:∃ a0:α,∃ a1:β,∃ a2:γ,p0 a0 a1 a2/\p1 a0 a1 a2)(k:∀ a0,∀ a1,∀ a2,p0 a0 a1 a2->p1 a0 a1 a2->G):G:=h.elim λa0 h1=>h1.elim λa1 h2=>h2.elim λa2 h3=>k a0 a1 a2 h3.1 h3.2
theorem xEEEE{α β γ δ:Sort _}{p0:α->β->γ->δ->Prop}{G:Prop}(h:∃ a0:α,∃ a1:β,∃ a2:γ,∃ a3:δ,p0 a0 a1 a2 a3)(k:∀ a0,∀ a1,∀ a2,∀ a3,p0 a0 a1 a2 a3->G):G:=h.elim λa0 h1=>h1.elim λa1 h2=>h2.elim λa2 h3=>h3.elim λa3 h4=>k a0 a1 a2 a3 h4
theorem xAAAEA{α:Sort _}{p0:Prop}{p1:Prop}{p2:Prop}{p3:α->Prop}{p4:α->Prop}{G:Prop}(h:p0/\p1/\p2/\∃ a0:α,p3 a0/\p4 a0)(k:p0->p1->p2->∀ a0,p3 a0->p4 a0->G):G:=h.2.2.2.elim λa0 h1=>k h.1 h.2.1 h.2.2.1 a0 h1.1 h1.2
theorem w8{α:Sort _}{p0:Prop}{p1:Prop}{p2:α->Prop}{p3:α->Prop}{p4:α->Prop}{G:Prop}(h:p0/\p1/\∃ a0:α,p2 a0/\p3 a0/\p4 a0)(k:p0->p1->∀ a0,p2 a0->p3 a0->p4 a0->G):G:=h.2.2.elim λa0 h1=>k h.1 h.2.1 a0 h1.1 h1.2.1 h1.2.2
theorem kB{α β:Sort _}{p0:Prop}{p1:Prop}{p2:α->β->Prop}{p3:α->β->Prop}{G:Prop}(h:p0/\p1/\∃ a0:α,∃ a1:β,p2 a0 a1/\p3 a0 a1)(k:p0->p1->∀ a0,∀ a1,p2 a0 a1->p3 a0 a1->G):G:=h.2.2.elim λa0 h1=>h1.elim λa1 h2=>k h.1 h.2.1 a0 a1 h2.1 h2.2
theorem aB9{α:Sort _}{p0:α->Prop}{p1:α->Prop}{p2:α->Prop}{p3:α->Prop}{p4:α->Prop}{G:Prop}(h:∃ a0:α,p0 a0/\p1 a0/\p2 a0/\p3 a0/\p4 a0)(k:∀ a0,p0 a0->p1 a0->p2 a0->p3 a0->p4 a0->G):G:=h.elim λa0 h1=>k a0 h1.1 h1.2.1 h1.2.2.1 h1.2.2.2.1 h1.2.2.2.2
theorem xEEAAA{α β:Sort _}{p0:α->β->Prop}{p1:α->β->Prop}{p2:α->β->Prop}{p3:α->β->Prop}{G:Prop}(h:∃ a0:α,∃ a1:β,p0 a0 a1/\p1 a0 a1/\p2 a0 a1/\p3 a0 a1)(k:∀ a0,∀ a1,p0 a0 a1->p1 a0 a1->p2 a0 a1->p3 a0 a1->G):G:=h.elim λa0 h1=>h1.elim λa1 h2=>k a0 a1 h2.1 h2.2.1 h2.2.2.1 h2.2.2.2
theorem fX{α β γ:Sort _}{p0:α->β->γ->Prop}{p1:α->β->γ->Prop}{p2:α->β->γ->Prop}{G:Prop}(h:∃ a0:α,∃ a1:β,∃ a2:γ,p0 a0 a1 a2/\p1 a0 a1 a2/\p2 a0 a1 a2)(k:∀ a0,∀ a1,∀ a2,p0 a0 a1 a2->p1 a0 a1 a2->p2 a0 a1 a2->G):G:=h.elim λa0 h1=>h1.elim λa1 h2=>h2.elim λa2 h3=>k a0 a1 a2 h3.1 h3.2.1 h3.2.2
theorem oK{α β γ δ:Sort _}{p0:α->β->γ->δ->Prop}{p1:α->β->γ->δ->Prop}{G:Prop}(h:∃ a0:α,∃ a1:β,∃ a2:γ,∃ a3:δ,p0 a0 a1 a2 a3/\p1 a0 a1 a2 a3)(k:∀ a0,∀ a1,∀ a2,∀ a3,p0 a0 a1 a2 a3->p1 a0 a1 a2 a3->G):G:=h.elim λa0 h1=>h1.elim λa1 h2=>h2.elim λa2 h3=>h3.elim λa3 h4=>k a0 a1 a2 a3 h4.1 h4.2
theorem aGj{α β:Sort _}{p0:Prop}{p1:Prop}{p2:α->Prop}{p3:α->β->Prop}{p4:α->β->Prop}{G:Prop}(h:p0/\p1/\∃ a0:α,p2 a0/\∃ a1:β,p3 a0 a1/\p4 a0 a1)(k:p0->p1->∀ a0,p2 a0->∀ a1,p3 a0 a1->p4 a0 a1->G):G:=h.2.2.elim λa0 h1=>h1.2.elim λa1 h2=>k h.1 h.2.1 a0 h1.1 a1 h2.1 h2.2
theorem sS{α β γ:Sort _}{p0:Prop}{p1:Prop}{p2:α->β->γ->Prop}{p3:α->β->γ->Prop}{G:Prop}(h:p0/\p1/\∃ a0:α,∃ a1:β,∃ a2:γ,p2 a0 a1 a2/\p3 a0 a1 a2)(k:p0->p1->∀ a0,∀ a1,∀ a2,p2 a0 a1 a2->p3 a0 a1 a2->G):G:=h.2.2.elim λa0 h1=>h1.elim λa1 h2=>h2.elim λa2 h3=>k h.1 h.2.1 a0 a1 a2 h3.1 h3.2
theorem sR{α:Sort _}{p0:α->Prop}{p1:α->Prop}{p2:α->Prop}{p3:α->Prop}{p4:α->Prop}{p5:α->Prop}{G:Prop}(h:∃ a0:α,p0 a0/\p1 a0/\p2 a0/\p3 a0/\p4 a0/\p5 a0)(k:∀ a0,p0 a0->p1 a0->p2 a0->p3 a0->p4 a0->p5 a0->G):G:=h.elim λa0 h1=>k a0 h1.1 h1.2.1 h1.2.2.1 h1.2.2.2.1 h1.2.2.2.2.1 h1.2.2.2.2.2
theorem cH{α β γ:Sort _}{p0:α->β->γ->Prop}{p1:α->β->γ->Prop}{p2:α->β->γ->Prop}{p3:α->β->γ->Prop}{G:Prop}(h:∃ a0:α,∃ a1:β,∃ a2:γ,p0 a0 a1 a2/\p1 a0 a1 a2/\p2 a0 a1 a2/\p3 a0 a1 a2)(k:∀ a0,∀ a1,∀ a2,p0 a0 a1 a2->p1 a0 a1 a2->p2 a0 a1 a2->p3 a0 a1 a2->G):G:=h.elim λa0 h1=>h1.elim λa1 h2=>h2.elim λa2 h3=>k a0 a1 a2 h3.1 h3.2.1 h3.2.2.1 h3.2.2.2
theorem jS{α β γ δ:Sort _}{p0:α->β->γ->δ->Prop}{p1:α->β->γ->δ->Prop}{p2:α->β->γ->δ->Prop}{G:Prop}(h:∃ a0:α,∃ a1:β,∃ a2:γ,∃ a3:δ,p0 a0 a1 a2 a3/\p1 a0 a1 a2 a3/\p2 a0 a1 a2 a3)(k:∀ a0,∀ a1,∀ a2,∀ a3,p0 a0 a1 a2 a3->p1 a0 a1 a2 a3->p2 a0 a1 a2 a3->G):G:=h.elim λa0 h1=>h1.elim λa1 h2=>h2.elim λa2 h3=>h3.elim λa3 h4=>k a0 a1 a2 a3 h4.1 h4.2.1 h4.2.2
theorem oM{α:Sort _}{p0:Prop}{p1:Prop}{p2:Prop}{p3:α->Prop}{p4:α->Prop}{p5:α->Prop}{p6:α->Prop}{G:Prop}(h:p0/\p1/\p2/\∃ a0:α,p3 a0/\p4 a0/\p5 a0/\p6 a0)(k:p0->p1->p2->∀ a0,p3 a0->p4 a0->p5 a0->p6 a0->G):G:=h.2.2.2.elim λa0 h1=>k h.1 h.2.1 h.2.2.1 a0 h1.1 h1.2.1 h1.2.2.1 h1.2.2.2
theorem uV{α β:Sort _}{p0:α->β->Prop}{p1:α->β->Prop}{p2:α->β->Prop}{p3:α->β->Prop}{p4:α->β->Prop}{p5:α->β->Prop}{G:Prop}(h:∃ a0:α,∃ a1:β,p0 a0 a1/\p1 a0 a1/\p2 a0 a1/\p3 a0 a1/\p4 a0 a1/\p5 a0 a1)(k:∀ a0,∀ a1,p0 a0 a1->p1 a0 a1->p2 a0 a1->p3 a0 a1->p4 a0 a1->p5 a0 a1->G):G:=h.elim λa0 h1=>h1.elim λa1 h2=>k a0 a1 h2.1 h2.2.1 h2.2.2.1 h2.2.2.2.1 h2.2.2.2.2.1 h2.2.2.2.2.2
theorem oJ{α β γ δ:Sort _}{p0:α->β->γ->δ->Prop}{p1:α->β->γ->δ->Prop}{p2:α->β->γ->δ->Prop}{p3:α->β->γ->δ->Prop}{G:Prop}(h:∃ a0:α,∃ a1:β,∃ a2:γ,∃ a3:δ,p0 a0 a1 a2 a3/\p1 a0 a1 a2 a3/\p2 a0 a1 a2 a3/\p3 a0 a1 a2 a3)(k:∀ a0,∀ a1,∀ a2,∀ a3,p0 a0 a1 a2 a3->p1 a0 a1 a2 a3->p2 a0 a1 a2 a3->p3 a0 a1 a2 a3->G):G:=h.elim λa0 h1=>h1.elim λa1 h2=>h2.elim λa2 h3=>h3.elim λa3 h4=>k a0 a1 a2 a3 h4.1 h4.2.1 h4.2.2.1 h4.2.2.2
theorem kW{α β γ δ ε ζ:Sort _}{p0:α->β->γ->δ->ε->ζ->Prop}{p1:α->β->γ->δ->ε->ζ->Prop}{G:Prop}(h:∃ a0:α,∃ a1:β,∃ a2:γ,∃ a3:δ,∃ a4:ε,∃ a5:ζ,p0 a0 a1 a2 a3 a4 a5/\p1 a0 a1 a2 a3 a4 a5)(k:∀ a0,∀ a1,∀ a2,∀ a3,∀ a4,∀ a5,p0 a0 a1 a2 a3 a4 a5->p1 a0 a1 a2 a3 a4 a5->G):G:=h.elim λa0 h1=>h1.elim λa1 h2=>h2.elim λa2 h3=>h3.elim λa3 h4=>h4.elim λa4 h5=>h5.elim λa5 h6=>k a0 a1 a2 a3 a4 a5 h6.1 h6.2
theorem iD{α β γ δ ε:Sort _}{p0:Prop}{p1:Prop}{p2:α->β->γ->δ->ε->Prop}{p3:α->β->γ->δ->ε->Prop}{p4:α->β->γ->δ->ε->Prop}{G:Prop}(h:p0/\p1/\∃ a0:α,∃ a1:β,∃ a2:γ,∃ a3:δ,∃ a4:ε,p2 a0 a1 a2 a3 a4/\p3 a0 a1 a2 a3 a4/\p4 a0 a1 a2 a3 a4)(k:p0->p1->∀ a0,∀ a1,∀ a2,∀ a3,∀ a4,p2 a0 a1 a2 a3 a4->p3 a0 a1 a2 a3 a4->p4 a0 a1 a2 a3 a4->G):G:=h.2.2.elim λa0 h1=>h1.elim λa1 h2=>h2.elim λa2 h3=>h3.elim λa3 h4=>h4.elim λa4 h5=>k h.1 h.2.1 a0 a1 a2 a3 a4 h5.1 h5.2.1 h5.2.2
theorem xEEEEEEEAA{α β γ δ ε ζ η:Sort _}{p0:α->β->γ->δ->ε->ζ->η->Prop}{p1:α->β->γ->δ->ε->ζ->η->Prop}{p2:α->β->γ->δ->ε->ζ->η->Prop}{G:Prop}(h:∃ a0:α,∃ a1:β,∃ a2:γ,∃ a3:δ,∃ a4:ε,∃ a5:ζ,∃ a6:η,p0 a0 a1 a2 a3 a4 a5 a6/\p1 a0 a1 a2 a3 a4 a5 a6/\p2 a0 a1 a2 a3 a4 a5 a6)(k:∀ a0,∀ a1,∀ a2,∀ a3,∀ a4,∀ a5,∀ a6,p0 a0 a1 a2 a3 a4 a5 a6->p1 a0 a1 a2 a3 a4 a5 a6->p2 a0 a1 a2 a3 a4 a5 a6->G):G:=h.elim λa0 h1=>h1.elim λa1 h2=>h2.elim λa2 h3=>h3.elim λa3 h4=>h4.elim λa4 h5=>h5.elim λa5 h6=>h6.elim λa6 h7=>k a0 a1 a2 a3 a4 a5 a6 h7.1 h7.2.1 h7.2.2
theorem aIs{α β γ δ ε ζ η θ ι:Sort _}{p0:α->Prop}{p1:α->β->γ->δ->ε->ζ->η->θ->ι->Prop}{G:Prop}(h:∃ a0:α,p0 a0/\∃ a1:β,∃ a2:γ,∃ a3:δ,∃ a4:ε,∃ a5:ζ,∃ a6:η,∃ a7:θ,∃ a8:ι,p1 a0 a1 a2 a3 a4 a5 a6 a7 a8)(k:∀ a0,p0 a0->∀ a1,∀ a2,∀ a3,∀ a4,∀ a5,∀ a6,∀ a7,∀ a8,p1 a0 a1 a2 a3 a4 a5 a6 a7 a8->G):G:=h.elim λa0 h1=>h1.2.elim λa1 h2=>h2.elim λa2 h3=>h3.elim λa3 h4=>h4.elim λa4 h5=>h5.elim λa5 h6=>h6.elim λa6 h7=>h7.elim λa7 h8=>h8.elim λa8 h9=>k a0 h1.1 a1 a2 a3 a4 a5 a6 a7 a8 h9
theorem uU{α β γ δ ε:Sort _}{p0:α->β->γ->δ->ε->Prop}{p1:α->β->γ->δ->ε->Prop}{p2:α->β->γ->δ->ε->Prop}{p3:α->β->γ->δ->ε->Prop}{p4:α->β->γ->δ->ε->Prop}{p5:α->β->γ->δ->ε->Prop}{G:Prop}(h:∃ a0:α,∃ a1:β,∃ a2:γ,∃ a3:δ,∃ a4:ε,p0 a0 a1 a2 a3 a4/\p1 a0 a1 a2 a3 a4/\p2 a0 a1 a2 a3 a4/\p3 a0 a1 a2 a3 a4/\p4 a0 a1 a2 a3 a4/\p5 a0 a1 a2 a3 a4)(k:∀ a0,∀ a1,∀ a2,∀ a3,∀ a4,p0 a0 a1 a2 a3 a4->p1 a0 a1 a2 a3 a4->p2 a0 a1 a2 a3 a4->p3 a0 a1 a2 a3 a4->p4 a0 a1 a2 a3 a4->p5 a0 a1 a2 a3 a4->G):G:=h.elim λa0 h1=>h1.elim λa1 h2=>h2.elim λa2 h3=>h3.elim λa3 h4=>h4.elim λa4 h5=>k a0 a1 a2 a3 a4 h5.1 h5.2.1 h5.2.2.1 h5.2.2.2.1 h5.2.2.2.2.1 h5.2.2.2.2.2
theorem iC{α β γ δ:Sort _}{p0:α->β->γ->δ->Prop}{p1:α->β->γ->δ->Prop}{p2:α->β->γ->δ->Prop}{p3:α->β->γ->δ->Prop}{p4:α->β->γ->δ->Prop}{p5:α->β->γ->δ->Prop}{p6:α->β->γ->δ->Prop}{p7:α->β->γ->δ->Prop}{G:Prop}(h:∃ a0:α,∃ a1:β,∃ a2:γ,∃ a3:δ,p0 a0 a1 a2 a3/\p1 a0 a1 a2 a3/\p2 a0 a1 a2 a3/\p3 a0 a1 a2 a3/\p4 a0 a1 a2 a3/\p5 a0 a1 a2 a3/\p6 a0 a1 a2 a3/\p7 a0 a1 a2 a3)(k:∀ a0,∀ a1,∀ a2,∀ a3,p0 a0 a1 a2 a3->p1 a0 a1 a2 a3->p2 a0 a1 a2 a3->p3 a0 a1 a2 a3->p4 a0 a1 a2 a3->p5 a0 a1 a2 a3->p6 a0 a1 a2 a3->p7 a0 a1 a2 a3->G):G:=h.elim λa0 h1=>h1.elim λa1 h2=>h2.elim λa2 h3=>h3.elim λa3 h4=>k a0 a1 a2 a3 h4.1 h4.2.1 h4.2.2.1 h4.2.2.2.1 h4.2.2.2.2.1 h4.2.2.2.2.2.1 h4.2.2.2.2.2.2.1 h4.2.2.2.2.2.2.2
theorem fW{α β γ δ ε ζ η θ ι κ μ ν:Sort _}{p0:α->β->γ->δ->ε->ζ->η->θ->ι->κ->μ->ν->Prop}{G:Prop}(h:∃ a0:α,∃ a1:β,∃ a2:γ,∃ a3:δ,∃ a4:ε,∃ a5:ζ,∃ a6:η,∃ a7:θ,∃ a8:ι,∃ a9:κ,∃ a10:μ,∃ a11:ν,p0 a0 a1 a2 a3 a4 a5 a6 a7 a8 a9 a10 a11)(k:∀ a0,∀ a1,∀ a2,∀ a3,∀ a4,∀ a5,∀ a6,∀ a7,∀ a8,∀ a9,∀ a10,∀ a11,p0 a0 a1 a2 a3 a4 a5 a6 a7 a8 a9 a10 a11->G):G:=h.elim λa0 h1=>h1.elim λa1 h2=>h2.elim λa2 h3=>h3.elim λa3 h4=>h4.elim λa4 h5=>h5.elim λa5 h6=>h6.elim λa6 h7=>h7.elim λa7 h8=>h8.elim λa8 h9=>h9.elim λa9 h10=>h10.elim λa10 h11=>h11.elim λa11 h12=>k a0 a1 a2 a3 a4 a5 a6 a7 a8 a9 a10 a11 h12
end
section
variable {a b c d e f g h i j k l:Int}{m n p q r s t u v w x y:Nat}
theorem A0:m+(10*n)<=700->m<1000:=Z.R 0x417e8f41f6800057cf692bea00007 [] [m,n] ⋯ ⋯
theorem A1:m+(40*n)<=8000->m+64<9900:=Z.R 0x1049d6cf41f4283da000001fa83da41a3ea00007 [] [m,n] ⋯ ⋯
theorem A2:m<100->m<=16777216:=Z.R 0x1050820820f6800393d07da00007 [] [m] ⋯ ⋯
theorem A3:m<1000000->m<=16777216:=Z.R 0x1050820820f6801ec3283d07da00007 [] [m] ⋯ ⋯
theorem A4:m+n<1000000->p=m->q=n->p+q<=16777216:=Z.R 0x1001001050820820f6ba80029ac11e8a811dec3283d07da68000007 [] [m,n,p,q] ⋯ ⋯
theorem A5:(((0:Int)<=a+((m:Nat):Int))/\(a+((m:Nat):Int)<((m:Nat):Int)))->(a<0)/\((-((m:Nat):Int)<=a)/\((Int.toNat (a+((m:Nat):Int))=Int.toNat (a+((m:Nat):Int)))/\(Int.toNat (a+((m:Nat):Int))<m))):=Z.R 0x40041040040040000001000000040040001000001040000041040000040000001000000040041040a01f68a28128004000a28a04a00128a28128004045a28a2810508503d07da00085a28101f68a04a00002a28128000f42147 [a] [m] ⋯ ⋯
theorem A6:(((0:Int)<=a)/\(a<((m:Nat):Int)))->((0:Int)<=a)/\((Int.toNat a=Int.toNat a)/\(Int.toNat a<m)):=Z.R 0x4004104004004000000100000004004000104000004004000104000004000000100000004006807da28100028a04a2810116803d085a28101f68002a00f42147 [a] [m] ⋯ ⋯
theorem A7:m=n-> -((n:Nat):Int)<=a-> -((m:Nat):Int)<=a:=Z.R 0x1041028a28a04142a28a29105087a68047 [a] [m,n] ⋯ ⋯
theorem A8:m<1000000->¬((16777216:Nat)<m):=Z.R 0x41a2807d42082083d00011ec3283d07da00007 [] [m] ⋯ ⋯
theorem A9: ¬(m-1<n)->n<=m-1:=Z.R 0x4004004104004104004004007da01a40a2907d07da01000107 [] [m,n] ⋯ ⋯
theorem A10:((-1000000):Int)<a->b<1000000->Int.toNat (b-a)<2000000:=Z.R 0x1000001001041f61920f41f68a290440007b0ca0f41f690021e807da1ec3283d140087 [a,b] [] ⋯ ⋯
theorem A11:a<1000000->((-1000000):Int)<b->Int.toNat (b-a)<2000000->((((((-9223372036854775808):Int)<=a)/\(a<9223372036854775808))/\((((-9223372036854775808):Int)<=b)/\(b<9223372036854775808)))/\((((-9223372036854775808):Int)<=max (b-a) 0)/\(max (b-a) 0<9223372036854775808)))/\((max (b-a) 0=0)∨((((-9223372036854775808):Int)<=b)/\(b<9223372036854775808))):=Z.R 0x40000000001000000000040000000001000000000041000000001040000000040001000001000040001000000001000040001000000001040000001001001040001001000001040041000040000000001000000000040000000001000000000040001000001000040001000040001040000001001000000001001000001000000001000040001040001040001001000001041001008820820820820820820f41f69002a6822082082082082082083d142140f40f68a41083188820820820820820820f41f40f68a41080080f68a410a822082082082082082083d142148820820820820820820f41f69002a6822082082082082082083d142148820820820820820820f41f68002a2822082082082082082083d14214514507d86483d07da28a41100007a41f687b0ca0f450021dec3283d07da00087 [a,b] [] ⋯ ⋯
theorem A12:m<1000000->n=m->n<=16777216:=Z.R 0x1001050820820f69028a411dec3283d07da00007 [] [m,n] ⋯ ⋯
theorem A13: ¬((1:Int)<0):=Z.R 0x1a00f41f41f40084 [] [] ⋯ ⋯
theorem A14: ¬(((m:Nat):Int)<0):=Z.R 0x6803d07da28100084 [] [m] ⋯ ⋯
theorem A15:(0:Int)<1:=Z.R 0x107d07d03d002 [] [] ⋯ ⋯
theorem A16:m<=n->min (p-q) (m-q)<=n:=Z.R 0x1000000040000001000000041000001040000040000001040001040000069ae806ba810c0a68007 [] [m,n,p,q] ⋯ ⋯
theorem A17:(1:Nat)<=m->¬(((m:Nat):Int)=0):=Z.R 0x106803da2810312807d007 [] [m] ⋯ ⋯
theorem A18:(((1:Int)<=a)/\((a<=b)/\((b<=((m:Nat):Int))/\(m<1000))))->(0:Int)<=a:=Z.R 0x1000001a00f427e8f41f68000a28129085a68085a01f42147 [a,b] [m] ⋯ ⋯
theorem A19:(((1:Int)<=((m:Nat):Int))/\((((m:Nat):Int)<=a)/\((a<=((n:Nat):Int))/\(n<1000))))->(0:Int)<=a:=Z.R 0x1000041a00f427e8f41f69000a29128085a28a04085a28101f42147 [a] [m,n] ⋯ ⋯
theorem A20:(((1:Int)<=((m:Nat):Int))/\((((m:Nat):Int)<=((n:Nat):Int))/\((((n:Nat):Int)<=((p:Nat):Int))/\(p<1000))))->(1:Nat)<=m:=Z.R 0x1000001a01f407e8f41f6a000a2a128a44085a29128a04085a28101f42147 [] [m,n,p] ⋯ ⋯
theorem A21:(((1:Int)<=((m:Nat):Int))/\((((m:Nat):Int)<=((n:Nat):Int))/\((((n:Nat):Int)<=((p:Nat):Int))/\(p<1000))))->m<=n:=Z.R 0x40001029a007e8f41f6a000a2a128a44085a29128a04085a28101f42147 [] [m,n,p] ⋯ ⋯
theorem A22:m=n->(((1:Int)<=((p:Nat):Int))/\((((p:Nat):Int)<=((q:Nat):Int))/\((((q:Nat):Int)<=((n:Nat):Int))/\(n<1000))))->q<=m:=Z.R 0x40040001028ac07e8f41f69000a29128ac4085a2b128a84085a2a101f42147a68047 [] [m,n,p,q] ⋯ ⋯
theorem A23:m=n->(((1:Int)<=((p:Nat):Int))/\((((p:Nat):Int)<=((q:Nat):Int))/\((((q:Nat):Int)<=((n:Nat):Int))/\(n<1000))))->m<=16777216:=Z.R 0x104000000142082083da007e8f41f69000a29128ac4085a2b128a84085a2a101f42147a68047 [] [m,n,p,q] ⋯ ⋯
theorem A24:(((1:Int)<=a)/\((a<=((m:Nat):Int))/\(m<1000)))->(0:Int)<=a:=Z.R 0x40001a00f427e8f41f68000a28128085a01f42147 [a] [m] ⋯ ⋯
theorem A25:(((1:Int)<=((m:Nat):Int))/\((((m:Nat):Int)<=((n:Nat):Int))/\(n<1000)))->(1:Nat)<=m:=Z.R 0x40001a01f407e8f41f69000a29128a04085a28101f42147 [] [m,n] ⋯ ⋯
theorem A26:m=n->(((1:Int)<=((p:Nat):Int))/\((((p:Nat):Int)<=((n:Nat):Int))/\(n<1000)))->p<=m:=Z.R 0x1001001028a807e8f41f69000a29128a84085a2a101f42147a68047 [] [m,n,p] ⋯ ⋯
theorem A27:m=n->(((1:Int)<=((p:Nat):Int))/\((((p:Nat):Int)<=((n:Nat):Int))/\(n<1000)))->m<=16777216:=Z.R 0x4100000142082083da007e8f41f69000a29128a84085a2a101f42147a68047 [] [m,n,p] ⋯ ⋯
theorem A28:m<50->n+(40*p)<=8000->n+1+(min q m)<9900:=Z.R 0x1041041001049d6cf41f68ac307da40000007ea0f6a068fa90001c1cbd07da00007 [] [m,n,p,q] ⋯ ⋯
theorem A29:m<1000000->n<=m->n<=16777216:=Z.R 0x41050820820f69028a401dec3283d07da00007 [] [m,n] ⋯ ⋯
theorem A30:m+(10*(n+1))<=700->m+1+(10*n)<=700:=Z.R 0x1055f3da4af81f68000015f3d07da402bea00007 [] [m,n] ⋯ ⋯
theorem A31:m+(40*(n+1))<=8000->m+3+(40*n)<=8000:=Z.R 0x1047ea0f69068f83f68000007ea0f41f69001a3ea00007 [] [m,n] ⋯ ⋯
theorem A32:m+1<=n->m<=n:=Z.R 0x41a6802907da00007 [] [m,n] ⋯ ⋯
theorem A33:m=n->n<1000000->m<=16777216:=Z.R 0x1040050820820f6801ec3283d07da40007a68047 [] [m,n] ⋯ ⋯
theorem A34:m+(10*(n+1))<=700->m+0+1+(10*n)<=700:=Z.R 0x4157cf692be07d03da00000015f3d07da402bea00007 [] [m,n] ⋯ ⋯
theorem A35:m+(40*(n+1))<=8000->m+0+3+(40*n)<=8000:=Z.R 0x411fa83da41a3e0fd03da00000007ea0f41f69001a3ea00007 [] [m,n] ⋯ ⋯
theorem A36:m+(10*(n+1))<=700->m+(1+0)+0+(10*n)<=700:=Z.R 0x1055f3da4af80f40f41f40a00000015f3d07da402bea00007 [] [m,n] ⋯ ⋯
theorem A37:m+(40*(n+1))<=8000->m+(3+0)+0+(40*n)<=8000:=Z.R 0x1047ea0f69068f80f40f43f40a00000007ea0f41f69001a3ea00007 [] [m,n] ⋯ ⋯
theorem A38:m+(10*(n+2))<=700->m+(10*(n+1))<=700:=Z.R 0x1055f3d07da402bea00015f3d0bda402bea00007 [] [m,n] ⋯ ⋯
theorem A39:m+(40*(n+2))<=8000->m+1+(40*(n+1))<=8000:=Z.R 0x411fa83d07da40068f81f68000007ea0f42f69001a3ea00007 [] [m,n] ⋯ ⋯
theorem A40:m+2<=n->p+(10*n)<=700->p+(10*(m+2))<=700:=Z.R 0x41295f3d0bda002bea80015f3da4afaa0001e90bda00007 [] [m,n,p] ⋯ ⋯
theorem A41:m+2<=n->p+(40*n)<=8000->p+(40*(m+2))<=8000:=Z.R 0x41a07ea0f42f68001a3ea80007ea0f69068faa0001e90bda00007 [] [m,n,p] ⋯ ⋯
theorem A42:m+(10*(n+1))<=700->m+(10*n)<=700:=Z.R 0x4157cf692bea00015f3d07da402bea00007 [] [m,n] ⋯ ⋯
theorem A43:m+(40*(n+1))<=8000->m+1+1+(40*n)<=8000:=Z.R 0x411fa83da41a3e07d07da00000007ea0f41f69001a3ea00007 [] [m,n] ⋯ ⋯
theorem A44:m+(40*(n+1))<=8000->m+1+(40*n)<=8000:=Z.R 0x1047ea0f69068f81f68000007ea0f41f69001a3ea00007 [] [m,n] ⋯ ⋯
theorem A45:((m:Nat):Int)<a->¬(a<=((m:Nat):Int)):=Z.R 0x41a28a04a0212807da28100087 [a] [m] ⋯ ⋯
theorem A46:m+1<=n->p+(10*n)<=700->p+(10*m)<=700:=Z.R 0x104a57cf682bea80015f3da4afaa0001e907da00007 [] [m,n,p] ⋯ ⋯
theorem A47:m+1<=n->p+(40*n)<=8000->p+1+(40*m)<=8000:=Z.R 0x41a07ea0f68068f81f6a000007ea0f69068faa0001e907da00007 [] [m,n,p] ⋯ ⋯
theorem A48:m=n->n<64->m<=16777216:=Z.R 0x1040050820820f6800283d07da40007a68047 [] [m,n] ⋯ ⋯
theorem A49:m<64->n=p->p=m->n<=16777216:=Z.R 0x1001001050820820f69028a811eaa411c283d07da00007 [] [m,n,p] ⋯ ⋯
theorem A50:m<2->m=n+1+1->False:=Z.R 0x4006807d07da400280470bd07da00007 [] [m,n] ⋯ ⋯
theorem A51: ¬(m<2)->(2:Nat)<=m:=Z.R 0x41a02f40a02f41f68000107 [] [m] ⋯ ⋯
theorem A52:a<b->b<c->a<c:=Z.R 0x1041a81f68002a81f690021e907da00087 [a,b,c] [] ⋯ ⋯
theorem A53:m<n->n<p->m<p:=Z.R 0x1041a81f68000a81f690001e907da00007 [] [m,n,p] ⋯ ⋯
theorem A54: ¬(a=b)->(a<b)∨(b<a):=Z.R 0x4104006807da400a907da00086a29a03107 [a,b] [] ⋯ ⋯
theorem A55: ¬(a=b)->(b<a)∨(a<b):=Z.R 0x100100106907da000a807da40086a29a03107 [a,b] [] ⋯ ⋯
theorem A56:a<b->a<=b:=Z.R 0x41a680a907da00087 [a,b] [] ⋯ ⋯
theorem A57:(2:Nat)<=m->m=n->(1:Nat)<=n:=Z.R 0x100106907d029a011e80bd007 [] [m,n] ⋯ ⋯
theorem A58:((a<b)∨(b<a))->¬(a=b):=Z.R 0x41040068a680c4a01f69002a41f68002187 [a,b] [] ⋯ ⋯
theorem A59:m+(40*(n+1))<=8000->m+1<9900:=Z.R 0x1049d6cf41f41f68000007ea0f41f69001a3ea00007 [] [m,n] ⋯ ⋯
theorem A60:m<=n->p+(10*n)<=700->p+(10*m)<=700:=Z.R 0x41295f3da0afaa00057cf692bea80007a68007 [] [m,n,p] ⋯ ⋯
theorem A61:m<=n->p+(40*n)<=8000->p+(40*m)<=8000:=Z.R 0x41a07ea0f68068faa0001fa83da41a3ea80007a68007 [] [m,n,p] ⋯ ⋯
theorem A62: ¬(m<=63)->(63:Int)<((m:Nat):Int):=Z.R 0x41a28101f41ffd002a01ffda00107 [] [m] ⋯ ⋯
theorem A63:m<n+1->n<=m->m=n:=Z.R 0x1040040069a01a2900707da4007da00007 [] [m,n] ⋯ ⋯
theorem A64:m<n-1->n-1<n:=Z.R 0x100100000100004100002907d07da4100007da4107da00007 [] [m,n] ⋯ ⋯
theorem A65:m<n->n-1<=m->m=n-1:=Z.R 0x4000000104000104000100100000104000000104000104004000100000107da41a01a01f690401e907da00007 [] [m,n] ⋯ ⋯
theorem A66:m+(n+1)<=p->m<p:=Z.R 0x106a07da0002a07da40a00007 [] [m,n,p] ⋯ ⋯
theorem A67:m+(n+1)<=p->m-1<p:=Z.R 0x40041001a81f41f6804002a07da40a00007 [] [m,n,p] ⋯ ⋯
theorem A68:(1:Nat)<=m->m=m-1->False:=Z.R 0x4004004002807da01a011e807d007 [] [m] ⋯ ⋯
theorem A69:m<=m+(n+1):=Z.R 0x107da40a00a00 [] [m,n] ⋯ ⋯
theorem A70:(1:Nat)<=m+1:=Z.R 0x41f68001f40 [] [m] ⋯ ⋯
theorem A71:m+(n+1)<=p->m+1+n<=p:=Z.R 0x106aa41f6800002a07da40a00007 [] [m,n,p] ⋯ ⋯
theorem A72:(1:Nat)<=m->¬(m=m-1):=Z.R 0x4004004002807da01a0112807d007 [] [m] ⋯ ⋯
theorem A73:m<=n+1+p->m<=n+(p+1):=Z.R 0x1041f6a02902802a07da40028007 [] [m,n,p] ⋯ ⋯
theorem A74:m<n+(p+1)->m<n+1+p:=Z.R 0x106a07da40001f6800007da80a4007da00007 [] [m,n,p] ⋯ ⋯
theorem A75: ¬((0:Nat)<0):=Z.R 0x1a00f41f40f40004 [] [] ⋯ ⋯
theorem A76:(1:Nat)<=m->m-1=m->False:=Z.R 0x1000041000028a01f680411e807d007 [] [m] ⋯ ⋯
theorem A77:0+m-1-n=m-1-n:=Z.R 0x40000001000000040000001040000040000001000000040000041040000040001001000000040000001000000040001001000000040000041001000040000001000000040000001040000040000001000000040001001040000040001001001000040000041001000040001001040000040000001000000a41f68041a41f6803d001041 [] [m,n] ⋯ ⋯
theorem A78:m<n->n<p->p-1-n<p-1-m:=Z.R 0x40001040001000041001000001041000000041040000000041000000001040000000040000040001000040001040001000041001000001041000000041040040000041001000001041000000041000000001a01f6a04107da41f6a041000a81f690001e907da00007 [] [m,n,p] ⋯ ⋯
theorem A79:m<n->n-1-p<n:=Z.R 0x40001040001040040040000a41f6a07da4104002907da00007 [] [m,n,p] ⋯ ⋯
theorem A80:(1:Nat)<=m->1+(m-1)<=m:=Z.R 0x40041000a01f68041f4002807d007 [] [m] ⋯ ⋯
theorem A81:m<n->n<1->False:=Z.R 0x41a01f41f690001e907da00007 [] [m,n] ⋯ ⋯
theorem A82:(1:Nat)<=m->n<=1+(m-1)->n<=m:=Z.R 0x41001041000a29001f68041f40a401e807d007 [] [m,n] ⋯ ⋯
theorem A83:m<=1+(n-1)->(1:Nat)<m->(0:Nat)<n:=Z.R 0x4100100006907d03d000a01f41f4000707da4107d028007 [] [m,n] ⋯ ⋯
theorem A84:m<=1+(n-1)->(1:Nat)<m->m-1<n:=Z.R 0x4100000004100100000104000102907d07da01000a01f41f4000707da4107d028007 [] [m,n] ⋯ ⋯
theorem A85:(1:Nat)<m->(0:Nat)=m-1->False:=Z.R 0x104100006807da0103d047a01f41f40007 [] [m] ⋯ ⋯
theorem A86:(1:Nat)<m->(0:Nat)<m-1:=Z.R 0x104100107da0107d03d000a01f41f40007 [] [m] ⋯ ⋯
theorem A87:(1:Nat)<m->m-1<m:=Z.R 0x4104002807d07da01000a01f41f40007 [] [m] ⋯ ⋯
theorem A88:m<=1+(n-1)->(1:Nat)<m->m<=n:=Z.R 0x41001001029a00a01f41f4000707da4107d028007 [] [m,n] ⋯ ⋯
theorem A89:(1:Nat)<=m->¬((1:Nat)<m)->m=1:=Z.R 0x1001041001f68068a01f41f400041e807d007 [] [m] ⋯ ⋯
theorem A90:m<n->n<2->n=1:=Z.R 0x1001041001f69042f41f690001e907da00007 [] [m,n] ⋯ ⋯
theorem A91:m<1->m=0:=Z.R 0x4004103da0107d07da00007 [] [m] ⋯ ⋯
theorem A92:(1:Nat)<=m->¬((1:Nat)=m)->(1:Nat)<1+(m-1):=Z.R 0x41001001000001040001041f68041f4007d07d000a2807d0441e807d007 [] [m] ⋯ ⋯
theorem A93:(1:Nat)<=2:=Z.R 0x42f41f40 [] [] ⋯ ⋯
theorem A94:(1:Nat)<=m->¬((1:Nat)=m)->2+(m-(1+1))<=m:=Z.R 0x40040040000000041040000a01f41f40a010bd000a2807d0441e807d007 [] [m] ⋯ ⋯
theorem A95:m=0->¬((0:Nat)<m):=Z.R 0x1001a2807d03d000100f68047 [] [m] ⋯ ⋯
theorem A96:(1:Nat)<=m->¬((1:Nat)=m)->n<=2+(m-(1+1))->n<=m:=Z.R 0x41001001040000000001041040000a29001f41f40a010bd029007a2807d0441e807d007 [] [m,n] ⋯ ⋯
theorem A97:(2:Nat)<=m->(1:Nat)<=m:=Z.R 0x106807d0280bd007 [] [m] ⋯ ⋯
theorem A98:m<=n->m+(n-m)<=n:=Z.R 0x1001040029a29068000a68007 [] [m,n] ⋯ ⋯
theorem A99:(2:Nat)<=m->m<=n->(1:Nat)<=n:=Z.R 0x4106907d029a001e80bd007 [] [m,n] ⋯ ⋯
theorem A100:m<=n->p<=m+(n-m)->p<=n:=Z.R 0x1040041040029a80a2906802a007a68007 [] [m,n,p] ⋯ ⋯
theorem A101:m<=n->n<=p->m<=p:=Z.R 0x4106aa00aa9007a68007 [] [m,n,p] ⋯ ⋯
theorem A102:m-n<=0->n<=p->m<=p:=Z.R 0x41001041040aa802aa401c0f69a01007 [] [m,n,p] ⋯ ⋯
theorem A103:m-n<=m:=Z.R 0x1001028a68040 [] [m,n] ⋯ ⋯
theorem A104:m<=n->n-(n-m)=m:=Z.R 0x1040041000001000041001001040001000001000001000028a29069041a68007 [] [m,n] ⋯ ⋯
theorem A105:m+0=n->m=n:=Z.R 0x41001001a6806903da00047 [] [m,n] ⋯ ⋯
theorem A106:m+(n+1)=p->m<p:=Z.R 0x4006a07da0002a07da40a00047 [] [m,n,p] ⋯ ⋯
theorem A107:m-0<=m:=Z.R 0x40040a00f68040 [] [m] ⋯ ⋯
theorem A108:m<n->¬(n<=m):=Z.R 0x41a28a4012907da00007 [] [m,n] ⋯ ⋯
theorem A109:m+(n+1)=p->m+1+n=p:=Z.R 0x104004006aa41f6800006a07da40a00047 [] [m,n,p] ⋯ ⋯
theorem A110:m<n->m=p->¬(n=p):=Z.R 0x41001a2aa4112aa011e907da00007 [] [m,n,p] ⋯ ⋯
theorem A111:m<n->n<p+1->m=q->(q<n)/\(n<=p):=Z.R 0x100004004100006aa40a41f6b00016ba011c1f6a001f690001e907da00007 [] [m,n,p,q] ⋯ ⋯
theorem A112:m<n->m=p->p<=n-1:=Z.R 0x1041001040040041f6906a02aa011e907da00007 [] [m,n,p] ⋯ ⋯
theorem A113:m<n->n<p+1->n-1<p:=Z.R 0x40041040040a81f41f69040001f6a001f690001e907da00007 [] [m,n,p] ⋯ ⋯
theorem A114:m<n->((p<m)/\(m<=q))->¬(n=p):=Z.R 0x1001068aa9044ae802807da800051e907da00007 [] [m,n,p,q] ⋯ ⋯
theorem A115:m<n->n<p+1->((q<m)/\(m<=p))->(q<n)/\(n<=p):=Z.R 0x40001001001001aa902907dac0005aa802807dac00051c1f6a001f690001e907da00007 [] [m,n,p,q] ⋯ ⋯
theorem A116:m<n->((p<m)/\(m<=q))->m-1<n-1:=Z.R 0x100004104000004104100000104000000107da4107d07da01000ae802807da800051e907da00007 [] [m,n,p,q] ⋯ ⋯
theorem A117:m<n+1->((p<q)/\(q<=n))->m-1<n:=Z.R 0x40041001000001a41f41f68040029ac0ac1f6a00014707da4007da00007 [] [m,n,p,q] ⋯ ⋯
theorem A118:m<n->n=p->m<p:=Z.R 0x100106a07da0002aa411e907da00007 [] [m,n,p] ⋯ ⋯
theorem A119:m<n->¬(m=p)->(¬((p<m)/\(m<=q)))->((p<n)/\(n<=q))->m<p:=Z.R 0x4004004100000100004004004000004102a07da0002ba40a41f6a000147a2ba00a01f6a0001441e8aa80441e907da00007 [] [m,n,p,q] ⋯ ⋯
theorem A120:((m<n)/\(n<=p))->q<m->q<n-1:=Z.R 0x41001040040041f69041f6b000a01f6b0001eaa40a41f68000147 [] [m,n,p,q] ⋯ ⋯
theorem A121:((m<n)/\(n<=p))->n-1<p:=Z.R 0x40041040040a81f41f6904002aa40a41f68000147 [] [m,n,p] ⋯ ⋯
theorem A122:m<=n->p<n+1->¬(p=m)->(¬((m<p)/\(p<=n)))->p<n:=Z.R 0x4004004004004004004000104002907da80028a6a02a07da00005107a28a8110707da4007da80007a68007 [] [m,n,p] ⋯ ⋯
theorem A123:(1:Nat)<=m->max m 1=m:=Z.R 0x104004004100004002807da0206807d007 [] [m] ⋯ ⋯
theorem A124:m<n->m+(n-m)=n:=Z.R 0x1040041040001000a68a41a0006907da00007 [] [m,n] ⋯ ⋯
theorem A125:m<=n->¬(m<n)->m=n:=Z.R 0x41001001a68068a41f68000107a68007 [] [m,n] ⋯ ⋯
theorem A126:a<b->b<a->False:=Z.R 0x1068a01f690021e907da00087 [a,b] [] ⋯ ⋯
theorem A127: ¬(a<b)->¬(b=a)->b<a:=Z.R 0x104000106807da400a8a290c41e8a41f68002107 [a,b] [] ⋯ ⋯
theorem A128:a<=b+1->a<=b-0+1:=Z.R 0x4107d03da41028081f69028087 [a,b] [] ⋯ ⋯
theorem A129:a-(b+1)=a-1-b:=Z.R 0x106907da01041f69028043 [a,b] [] ⋯ ⋯
theorem A130:a=b->c-1-b+1+a=c:=Z.R 0x104004006aa01f6907da81040003a680c7 [a,b,c] [] ⋯ ⋯
theorem A131:a-1-b+1+c=a->d-1-b+1+c=d:=Z.R 0x104004006ba81f6907dac1040003a2a07da41f680410000c7 [a,b,c,d] [] ⋯ ⋯
theorem A132:a<b+1->¬(a=b)->a<b:=Z.R 0x41000041a41f68002a29a0310707da4007da00087 [a,b] [] ⋯ ⋯
theorem A133:a<b->(0:Int)<=b-1-a:=Z.R 0x41a01f6904103d0a907da00087 [a,b] [] ⋯ ⋯
theorem A134:(0:Int)<=a->b-1-a<b:=Z.R 0x41a41f6807da410400a803d087 [a,b] [] ⋯ ⋯
theorem A135:a+b=c+1->a+(b-1-d)=c-d:=Z.R 0x104004006ba81ac1f69041a000c1f6a029a000c7 [a,b,c,d] [] ⋯ ⋯
theorem A136:a<b->c+(b-1-a)=d-a->e<=c->e<=d-a:=Z.R 0x41001068ac1b02aac087a2b06807da4106a0031e907da00087 [a,b,c,d,e] [] ⋯ ⋯
theorem A137:a<=b->a+0<=b:=Z.R 0x41a40f68002a68087 [a,b] [] ⋯ ⋯
theorem A138:(0:Int)<a->(0:Int)<=a-1:=Z.R 0x1041f68040f42a01f40f40087 [a] [] ⋯ ⋯
theorem A139:a-1<a:=Z.R 0x6807d07da01002 [a] [] ⋯ ⋯
theorem A140:((a+b<=c)∨((a+b=c+1)/\(d+b<=e)))->(¬((a+b<=c)∨((a+b=c+1)/\(d+b<=f))))->a+(b-1)=c:=Z.R 0x40040000040000001040040000001040000040040000001000001000041000041000041000041000041000041a81f69068003a2da6b00207da80a6800316aa680021841eca6b00207da80a6800316aa68002187 [a,b,c,d,e,f] [] ⋯ ⋯
theorem A141:(¬((a+b<=c)∨((a+b=c+1)/\(d+b<=e))))->a+(b-1)=c->e<=d+(b-1):=Z.R 0x100004000100100000104007da41ac0b02a81f690680031e8b29ac0081f6a029a000c5aa9a00086107 [a,b,c,d,e] [] ⋯ ⋯
theorem A142:((a+b<=c)∨((a+b=c+1)/\(d+b<=e)))->a+(b-1)=c->d+(b-1)<e:=Z.R 0x100004000004006c07d07da41ac0002a81f690680031eca6b00207da80a6800316aa68002187 [a,b,c,d,e] [] ⋯ ⋯
theorem A143:(0:Int)<a->b<=c->b<=c+(a-1):=Z.R 0x104107da01a80a42aa9087a01f40f40087 [a,b,c] [] ⋯ ⋯
theorem A144:a+b<=c->a+(b-1)<c:=Z.R 0x106a07d07da41a00002aa9a00087 [a,b,c] [] ⋯ ⋯
theorem A145:a<b->a-c+1+c<=b:=Z.R 0x1069a81f6aa010000a907da00087 [a,b,c] [] ⋯ ⋯
theorem A146:(0:Int)<a->a=0->False:=Z.R 0x41a00f680c7a01f40f40087 [a] [] ⋯ ⋯
theorem A147:a-b+1+b=a+1:=Z.R 0x1041f6802907da68040003 [a,b] [] ⋯ ⋯
theorem A148:a-b+1+b<=a+1:=Z.R 0x41f6802907da68040002 [a,b] [] ⋯ ⋯
theorem A149:((a+b=c+1)/\(d+b=e+1))->b=f->c-f+1=a:=Z.R 0x41000000041001000040a01f6da81003b690c707db00a6b00307da80a68003147 [a,b,c,d,e,f] [] ⋯ ⋯
theorem A150:((a+b=c+1)/\(d+b=e+1))->b=f->e-f+1<=d:=Z.R 0x1001040000ac1f6db01002b690c707db00a6b00307da80a68003147 [a,b,c,d,e,f] [] ⋯ ⋯
theorem A151:((a+b=c+1)/\(d+b<=e))->d+b<=e+1:=Z.R 0x1040001f6c029ac00aca6b00207da80a68003147 [a,b,c,d,e] [] ⋯ ⋯
theorem A152:((a+b=c+1)/\(d+b=e+1))->b=f->g+f<=c->g<a:=Z.R 0x41001000040a01f6e002aadb80087b690c707db00a6b00307da80a68003147 [a,b,c,d,e,f,g] [] ⋯ ⋯
theorem A153:((a+b=c+1)/\(d+b=e+1))->b=f->((g+f=c+1)/\(h+f<=e))->g=a:=Z.R 0x40040040000001040001001000040a2e0ecb6f00207da80b6e003147b690c707db00a6b00307da80a68003147 [a,b,c,d,e,f,g,h] [] ⋯ ⋯
theorem A154:((a+b=c+1)/\(d+b=e+1))->b=f->((g+f=c+1)/\(h+f<=e))->h<=d:=Z.R 0x41000001040000aef0acb6f00207da80b6e003147b690c707db00a6b00307da80a68003147 [a,b,c,d,e,f,g,h] [] ⋯ ⋯
theorem A155:a<=b->((c<=d)/\((d<a)/\((e<=f)/\(g=h))))->d<b:=Z.R 0x4000004006907dac00afb83b6c085a01f6b00216ba82147a68087 [a,b,c,d,e,f,g,h] [] ⋯ ⋯
theorem A156:a<a+1:=Z.R 0x41f68001f68002 [a] [] ⋯ ⋯
theorem A157:((a<=b)/\((b<c)/\((d<=e)/\(f=g))))->b<c+1:=Z.R 0x4000004007da8007da400aeb43b2b085a81f69002169a02147 [a,b,c,d,e,f,g] [] ⋯ ⋯
theorem A158: ¬(a=b)->((c<=a)/\((a<b+1)/\((d<=e)/\(f=g))))->a<b:=Z.R 0x40000000040000001001a41f68002bad0ecac2141f69001f68002168a82147a29a03107 [a,b,c,d,e,f,g] [] ⋯ ⋯
theorem A159:a<=b->a<=b-1+1:=Z.R 0x1041f41f69040a02a68087 [a,b] [] ⋯ ⋯
theorem A160:a<b->a-1<b:=Z.R 0x41a41f41f680400a907da00087 [a,b] [] ⋯ ⋯
theorem A161:((a<b)∨(c<=d))->¬((d<=e)/\((e<c)/\((b<=a)/\(f=g)))):=Z.R 0x41040001000068bad0e8a4216a07db00085b2b08512ba82a41f68002187 [a,b,c,d,e,f,g] [] ⋯ ⋯
theorem A162:a+((0:Nat):Int)=b->a=b:=Z.R 0x41001001a680e9a00f44a000c7 [a,b] [] ⋯ ⋯
theorem A163:a+((m+1:Nat):Int)=b->a<b:=Z.R 0x4006907da000a9a01f68004a000c7 [a,b] [m] ⋯ ⋯
theorem A164:a+((m+1:Nat):Int)=b->a+1+((m:Nat):Int)=b:=Z.R 0x1040040069a28101f680000e9a01f68004a000c7 [a,b] [m] ⋯ ⋯
theorem A165:(0:Int)<=a->((-1000000):Int)<a:=Z.R 0x106807da1ec3283d1400a803d087 [a] [] ⋯ ⋯
theorem A166:a<((m:Nat):Int)->m<1000000->a<1000000:=Z.R 0x10417b0ca0f41f680027b0ca0f41f680001e8a0407da00087 [a] [m] ⋯ ⋯
theorem A167:a<=b->b+1+((m:Nat):Int)<=((n:Nat):Int)->a+((m+1:Nat):Int)<=((n:Nat):Int):=Z.R 0x41068a44a01f68004a000a8a44a28101f69000087a68087 [a,b] [m,n] ⋯ ⋯
theorem A168:a<=b->a+((Int.toNat (b-a):Nat):Int)=b:=Z.R 0x1040040041000040029a28a29044128003a68087 [a,b] [] ⋯ ⋯
theorem A169:a<b->a<=b-1:=Z.R 0x1041f690680a907da00087 [a,b] [] ⋯ ⋯
theorem A170:a+b<=c->a-1+(b+1)<=c:=Z.R 0x106a07da4007da01002aa9a00087 [a,b,c] [] ⋯ ⋯
theorem A171:(0:Int)<=a->(0:Int)<=a+1:=Z.R 0x4107da0003d0a803d087 [a] [] ⋯ ⋯
theorem A172:(0:Int)<=a->(0:Int)<a+1:=Z.R 0x1041f68001f40f400a803d087 [a] [] ⋯ ⋯
theorem A173:(0:Int)<=a->¬(a=0)->(0:Int)<=a-1:=Z.R 0x41041001f68040f42a00f680c41e803d087 [a] [] ⋯ ⋯
theorem A174:a<b+1->a-1<b:=Z.R 0x106907d07da0100207da4007da00087 [a,b] [] ⋯ ⋯
theorem A175:a-1+b=a+(b-1):=Z.R 0x1041f6906802907da01003 [a,b] [] ⋯ ⋯
theorem A176:a<=b->a<=b:=Z.R 0x1069a02a68087 [a,b] [] ⋯ ⋯
theorem A177:a+b<c->a+(b+1)<=c:=Z.R 0x106a07da40a000aa07da68000087 [a,b,c] [] ⋯ ⋯
theorem A178:(0:Int)<=a->a<b->(0:Int)<=b-1:=Z.R 0x41041f69040f42a41f680021e803d087 [a,b] [] ⋯ ⋯
theorem A179:a+b<=c->(0:Int)<=b->c<=((m:Nat):Int)->a-1<((m:Nat):Int):=Z.R 0x41041a28101f41f680400a8a04a821e903d087aa9a00087 [a,b,c] [m] ⋯ ⋯
theorem A180:a<=b->(0:Int)<=c->(0:Int)<=a->(0:Int)<=b+c:=Z.R 0x41041aa9000f42a00f421ea03d087a68087 [a,b,c] [] ⋯ ⋯
theorem A181:a<=((m:Nat):Int)->b+c<a->b+c<((m:Nat):Int):=Z.R 0x41068a0407daa90000a807daa9000087a28128087 [a,b,c] [m] ⋯ ⋯
theorem A182:m<200->¬((200:Int)<=((m:Nat):Int)):=Z.R 0x41a28a041a8f42106a3d07da00007 [] [m] ⋯ ⋯
theorem A183:(0:Int)<a->b<=c->c+a<=d->m<=2*(Int.toNat (c-b))+1+n->p<=2*(Int.toNat (d-(c+a)))+1+m->q=2*(Int.toNat (d-b))+1+n->p+1<=q:=Z.R 0x400000010410410000400400820800000400000010410410000400400020800000400000410010410000400400800800000400000410010410000400400000ab07da8002907da29ac1102f8002b047a01f68a2a02b0440be000a801e907da29a81102f80028007ae8a80087aa9087a01f40f40087 [a,b,c,d] [m,n,p,q] ⋯ ⋯
theorem A184:m+n<=1000->p<=n->p<1000000:=Z.R 0x10417b0ca0f41f6a000a6a0077e8f69a00007 [] [m,n,p] ⋯ ⋯
theorem A185:m<=n->(1:Nat)<=p->m=p+q->q<n:=Z.R 0x4100106907dac002ba80a011ea07d007a68007 [] [m,n,p,q] ⋯ ⋯
theorem A186:m+n<=1000->n=p+q->m+q<=1000:=Z.R 0x104005fa3dae8000aea0290477e8f69a00007 [] [m,n,p,q] ⋯ ⋯
theorem A187: ¬(a=0)->(0:Int)<=a->(0:Int)<a:=Z.R 0x4104006807d03d002a00f421e803da03107 [a] [] ⋯ ⋯
theorem A188:m+n<=1000->m<1000000:=Z.R 0x417b0ca0f41f680007e8f69a00007 [] [m,n] ⋯ ⋯
theorem A189:m+n<=1000->p+1<=n->m+1+p<=1000:=Z.R 0x4105fa3da81f6800002907da800077e8f69a00007 [] [m,n,p] ⋯ ⋯
theorem A190:m+(n+1)<=1000->m+n<=1000:=Z.R 0x417e8f69a0001fa3d07da40a00007 [] [m,n] ⋯ ⋯
theorem A191:m+(n+1)<=1000->m<1000000:=Z.R 0x105ec3283d07da0001fa3d07da40a00007 [] [m,n] ⋯ ⋯
theorem A192:m+(n+1)<=1000->m+1+n<=1000:=Z.R 0x105fa3da41f6800001fa3d07da40a00007 [] [m,n] ⋯ ⋯
theorem A193:m+0<=1000->m<999999:=Z.R 0x105ec31ffd07da0001fa3d03da00007 [] [m] ⋯ ⋯
theorem A194:m+n<=1000->p<=1->q=m+p->q+1<1000000:=Z.R 0x10010417b0ca0f41f41f6b00002aa00ac11c1f6a0077e8f69a00007 [] [m,n,p,q] ⋯ ⋯
theorem A195:m<64->2*(Int.toNat (((m:Nat):Int)-0))+1+0<=1000:=Z.R 0x100004009fa3d03d07da00f68a040440be00000283d07da00007 [] [m] ⋯ ⋯
theorem A196:m<64->0+(2*(Int.toNat (((m:Nat):Int)-0))+1+0)<=1000:=Z.R 0x400010027e8f40f41f6803da28101102f80000f4000283d07da00007 [] [m] ⋯ ⋯
theorem A197:m+(2*(n+1))<=100000->m<999999:=Z.R 0x105ec31ffd07da0000387583d07da400bea00007 [] [m,n] ⋯ ⋯
theorem A198:m+(2*(n+1))<=100000->p<=1->q<=1->m+(p+q)+(2*n)<=100000:=Z.R 0x410410e1d60f690beaea028000001f6b00707da801c387583d07da400bea00007 [] [m,n,p,q] ⋯ ⋯
theorem A199:m<=2*n->p<=1->q<=1->p+(q+m)<=2*(n+1):=Z.R 0x4104107da400bea2b02a00007dac01c1f6a007a42fa8007 [] [m,n,p,q] ⋯ ⋯
theorem A200:m<=1000->0+(2*m)<=100000:=Z.R 0x420e1d60f680be03d0007e8f68007 [] [m] ⋯ ⋯
theorem A201:a<=b->b+c+((m:Nat):Int)<=((n:Nat):Int)->(0:Int)<c->a+((m+1:Nat):Int)<=((n:Nat):Int):=Z.R 0x41041a2912807da00128002a81f40f40087a29128a04aa9000087a68087 [a,b,c] [m,n] ⋯ ⋯
theorem A202:0+((m:Nat):Int)<=((n:Nat):Int)->m<=n:=Z.R 0x41a68028a44a28100f40087 [] [m,n] ⋯ ⋯
theorem A203:a+(b-a)=b:=Z.R 0x1069a29068003 [a,b] [] ⋯ ⋯
theorem A204: ¬(((m+1+1:Nat):Int)=1):=Z.R 0x1a01f6807d07da000040c4 [] [m] ⋯ ⋯
theorem A205:m+0<=1000->m<1000000:=Z.R 0x105ec3283d07da0001fa3d03da00007 [] [m] ⋯ ⋯
theorem A206:m<=900->1+(m-n)<=1000:=Z.R 0x400010017e8f69a0107d000724f68007 [] [m,n] ⋯ ⋯
theorem A207:m<=n->p<=900->n<q->q<=p->m<1000000:=Z.R 0x4104105ec3283d07da0002aac01eb07da40007724f6a007a68007 [] [m,n,p,q] ⋯ ⋯
theorem A208:m-n<p+1->n<q->q<=m->m-q<p:=Z.R 0x104004000104004100104100100004102a07dae8040028ac01eb07da4000707da8007da68040007 [] [m,n,p,q] ⋯ ⋯
theorem A209:m<=n->n<p->m+1<=p:=Z.R 0x4106a07da0002a07da40007a68007 [] [m,n,p] ⋯ ⋯
theorem A210:m<=n->n<=p->p<=900->m<1000000:=Z.R 0x410417b0ca0f41f68000724f6a007aa9007a68007 [] [m,n,p] ⋯ ⋯
theorem A211:(-1)+((m+1:Nat):Int)=((m:Nat):Int):=Z.R 0x1068a04a01f68004a01f45003 [] [m] ⋯ ⋯
theorem A212:((m:Nat):Int)<((m+1:Nat):Int):=Z.R 0x6807da00101f68a04002 [] [m] ⋯ ⋯
theorem A213:(0:Int)<((m+1:Nat):Int):=Z.R 0x1a01f6800407d03d002 [] [m] ⋯ ⋯
theorem A214:a+b-a=b:=Z.R 0x1069a29a00043 [a,b] [] ⋯ ⋯
theorem A215:(0:Int)<=a->¬(a+a<min b (c+a)-c):=Z.R 0x1041040068aa8a80a43041f68a0000212803d087 [a,b,c] [] ⋯ ⋯
theorem A216:a=0->a=((m:Nat):Int)->m=0:=Z.R 0x1000000041000040f68068a04a031c0f680c7 [a] [m] ⋯ ⋯
theorem A217:a=((m:Nat):Int)->a=((n:Nat):Int)->m=n:=Z.R 0x1040001040041029a01a291280c7a281280c7 [a] [m,n] ⋯ ⋯
theorem A218:a=((m:Nat):Int)->n<m->((n:Nat):Int)<a:=Z.R 0x104102807da291000a807da40007a281280c7 [a] [m,n] ⋯ ⋯
theorem A219:(0:Int)<=a->¬(a+a<b-(max c (b-a))):=Z.R 0x1001041068a2906a0a9041f68a0000212803d087 [a,b,c] [] ⋯ ⋯
theorem A220:m+(0+1+1)+(2*n)+p+q=m+(2*n+(2*1))+p+q:=Z.R 0x106ba81f42fa90be02800002baa90be07d07d03d000a00000001 [] [m,n,p,q] ⋯ ⋯
theorem A221:m+1=1+1+(2*n)+p+q->r+(0+1)+m+1=r+(2*(n+1))+(p+1)+q:=Z.R 0x104004006b07da8007da400beb0000007da01f40f40b0000006baa90be07d07d00000007da00047 [] [m,n,p,q,r] ⋯ ⋯
theorem A222:m+1=1+(2*n)+p+q->r+q=1->s=1+r->t=n+1->m+s=2*t+p:=Z.R 0x40081001001001080001001001aae0be02da00041f6902e047b01f40b411c1f6bb00047aeaa42f81f4000007da00047 [] [m,n,p,q,r,s,t] ⋯ ⋯
theorem A223:m+1=1+1+(2*n)+p+q->r+q=1->s=r->t=n+1->m+s=2*t+p:=Z.R 0x40081001001001080001001001aae0be02da00041f6902e047b2d04707daec0011ebaa90be07d07d00000007da00047 [] [m,n,p,q,r,s,t] ⋯ ⋯
theorem A224:(0:Int)<a->b+a=((m:Nat):Int)->b<=((m:Nat):Int):=Z.R 0x1001068a04a42a28128a400c7a01f40f40087 [a,b] [m] ⋯ ⋯
theorem A225:(0:Int)<a->b+a<=c->((c<=((m:Nat):Int))/\(d<=((n:Nat):Int)))->b<=((m:Nat):Int):=Z.R 0x40041068a04a42a2912b0a8a04a82147aa8a40087a01f40f40087 [a,b,c,d] [m,n] ⋯ ⋯
theorem A226:(0:Int)<a->b+a<=c->((d<=((m:Nat):Int))/\(c<=((n:Nat):Int)))->b<=((n:Nat):Int):=Z.R 0x41001068a44a42a2912a0a8a04ac2147aa8a40087a01f40f40087 [a,b,c,d] [m,n] ⋯ ⋯
theorem A227:(0:Int)<a->b+a<=c->(0:Int)<=b->(0:Int)<=c:=Z.R 0x104106a03d0a903d087aa8a40087a01f40f40087 [a,b,c] [] ⋯ ⋯
theorem A228:(0:Int)<=a->max 0 (0-a)=0:=Z.R 0x1040040041000040000f6803d040f420e803d087 [a] [] ⋯ ⋯
theorem A229:(0:Int)<a->a<=b->(0:Int)<=b:=Z.R 0x1041a40f42a68087a01f40f40087 [a,b] [] ⋯ ⋯
theorem A230:(0:Int)<=a->Int.toNat (a+((m:Nat):Int))=Int.toNat a+m:=Z.R 0x40041040000040040041000040001041000040000040000a28a04028a2812800406803d087 [a] [m] ⋯ ⋯
theorem A231:((m:Nat):Int)=a+b-a->((n:Nat):Int)=c+b-c->m=n:=Z.R 0x1001040041000069a01aa9a80068a440c7a29a00068a040c7 [a,b,c] [m,n] ⋯ ⋯
theorem A232:((m:Nat):Int)=a+b-a->n<m->((n:Nat):Int)<b:=Z.R 0x104006907da291000a807da40007a29a00068a040c7 [a,b] [m,n] ⋯ ⋯
theorem A233:(0:Int)<=a->a+b<=((m:Nat):Int)->((n:Nat):Int)<b->Int.toNat a+n<m:=Z.R 0x40041041001040a01f69a28100000a41f68a440021e8a04a680021e803d087 [a,b] [m,n] ⋯ ⋯
theorem A234:a+(min b c)+(b-(min b c))=a+b:=Z.R 0x1000040001040040041040040041000040029a00aa90e906aa43a00003 [a,b,c] [] ⋯ ⋯
theorem A235:(0:Int)<a->b+b<a->b<=a:=Z.R 0x2041a290a807da69000087a01f40f40087 [a,b] [] ⋯ ⋯
theorem A236:a+a<b->(0:Int)<b-a-a:=Z.R 0x41a28a41041f40f400a907da28000087 [a,b] [] ⋯ ⋯
theorem A237:a+b+(c-b-b)=a+(c-b):=Z.R 0x1069a81a00a69a81069a00003 [a,b,c] [] ⋯ ⋯
theorem A238:a+(b-c)+c=a+b:=Z.R 0x1069a00aaaa41a00003 [a,b,c] [] ⋯ ⋯
theorem A239:(0:Int)<=a->b-a-a<=b-a:=Z.R 0x41a29068a290410a803d087 [a,b] [] ⋯ ⋯
theorem A240:a<=b->(0:Int)<=b-a:=Z.R 0x41a29040f42a68087 [a,b] [] ⋯ ⋯
theorem A241:a<=b-(b-a):=Z.R 0x68a41a41a02 [a,b] [] ⋯ ⋯
theorem A242:max 0 (0+a-b)=0+(a-(min a b)):=Z.R 0x40041040040001000040001000040041040a680e8040f40a6803d00103d083 [a,b] [] ⋯ ⋯
theorem A243:0+a=0+(a-(min a b))+(min a b):=Z.R 0x1000040001040040041040040041000040029a03a680e8040f4002803d003 [a,b] [] ⋯ ⋯
theorem A244:min a b<=a-(a-(min a b)):=Z.R 0x1000040041001040029a03a01a01a680c2 [a,b] [] ⋯ ⋯
theorem A245:0+(a-(min a b))+(min a b)=a:=Z.R 0x40001000040041040040041040040001000a29a03a680e8040f40003 [a,b] [] ⋯ ⋯
theorem A246:a-(b+c)=a-(b+c)-d+(e+c)+(d-(e+c)):=Z.R 0x106ab00ac1aac02baa9028041000aa9028043 [a,b,c,d,e] [] ⋯ ⋯
theorem A247:a+b-a+(c+(d-(a+b)))+(e-d+f)=e-a+(c+f):=Z.R 0x106da80a2c040b6bb01029a00ac1a80a29a00040003 [a,b,c,d,e,f] [] ⋯ ⋯
theorem A248:m+(n+p)<1000000->m+n<1000000:=Z.R 0x105ec3283d07da6800001ec3283d07daa9028000007 [] [m,n,p] ⋯ ⋯
theorem A249:m+(n+p)<1000000->m+n+p<1000000:=Z.R 0x105ec3283d07daa9a0000001ec3283d07daa9028000007 [] [m,n,p] ⋯ ⋯
theorem A250:m+1<900000->0+m<900000:=Z.R 0x105bbbd83d07da00f400006eef60f41f41f68000007 [] [m] ⋯ ⋯
theorem A251:m+(n+1)<900000->m+1<1000000:=Z.R 0x105ec3283d07d07da000006eef60f41f41f69028000007 [] [m,n] ⋯ ⋯
theorem A252:m+(n+1)<900000->m+1+n<900000:=Z.R 0x105bbbd83d07da41f680000006eef60f41f41f69028000007 [] [m,n] ⋯ ⋯
theorem A253:m+(n+1)<900000->m<999999:=Z.R 0x417b0c7ff41f680006eef60f41f41f69028000007 [] [m,n] ⋯ ⋯
theorem A254:m+(n+1)<900000->m<1000000:=Z.R 0x417b0ca0f41f680006eef60f41f41f69028000007 [] [m,n] ⋯ ⋯
theorem A255:m+(n+1)<900000->m+n<900000:=Z.R 0x416eef60f41f69a000006eef60f41f41f69028000007 [] [m,n] ⋯ ⋯
theorem A256:m+n+p<900000->m+n<1000000:=Z.R 0x105ec3283d07da6800001bbbd83d07daa9a00000007 [] [m,n,p] ⋯ ⋯
theorem A257:m<900000->m<1000000:=Z.R 0x105ec3283d07da0001bbbd83d07da00007 [] [m] ⋯ ⋯
theorem A258:m<100000->m<1000000:=Z.R 0x105ec3283d07da0000387583d07da00007 [] [m] ⋯ ⋯
theorem A259:a+(b-c)<=((m:Nat):Int)->c<=b->a<=((m:Nat):Int):=Z.R 0x41068a04a02a6a087a2812aa41a00087 [a,b,c] [m] ⋯ ⋯
theorem A260:m<100000->n<100000->p<=m->p+n<1000000:=Z.R 0x410417b0ca0f41f69a80000a2a0070e1d60f41f690001c387583d07da00007 [] [m,n,p] ⋯ ⋯
theorem A261:(0:Int)<=a->b<=c->(0:Int)<=a+(c-b):=Z.R 0x41069a81a0003d0aaa421e803d087 [a,b,c] [] ⋯ ⋯
theorem A262:m<100000->n<100000->p<=m->p+n+(m-(Int.toNat (a+(b-c))))<1000000:=Z.R 0x400010410400010420400010410400410427b0ca0f41f68aa9068004a01a6a000000a2a0070e1d60f41f690001c387583d07da00007 [a,b,c] [m,n,p] ⋯ ⋯
theorem A263:m<1000000->((m:Nat):Int)<1000000:=Z.R 0x105ec3283d07da2810009ec3283d07da00007 [] [m] ⋯ ⋯
theorem A264:((-1000000):Int)<((m:Nat):Int):=Z.R 0x1a28101f687b0ca0f45002 [] [m] ⋯ ⋯
theorem A265:m<100000->n<m->((n:Nat):Int)<1000000:=Z.R 0x10417b0ca0f41f68a44002a01f690001c387583d07da00007 [] [m,n] ⋯ ⋯
theorem A266:m<n->((m:Nat):Int)<((n:Nat):Int):=Z.R 0x1068a4407da281000a907da00007 [] [m,n] ⋯ ⋯
theorem A267:(0:Int)<=a->b+a=((m:Nat):Int)->b<=((m:Nat):Int):=Z.R 0x40041a281290a8a04a290031e803d087 [a,b] [m] ⋯ ⋯
theorem A268:m+(n+p)+q<900000->n+p<1000000:=Z.R 0x105ec3283d07daa900001bbbd83d07daeaa40a00000007 [] [m,n,p,q] ⋯ ⋯
theorem A269:m+n<900000->m+n<1000000:=Z.R 0x105ec3283d07da6800001bbbd83d07da68000007 [] [m,n] ⋯ ⋯
theorem A270:((-1000000000):Int)<((m:Nat):Int):=Z.R 0x1a28101f68779d72c20f45002 [] [m] ⋯ ⋯
theorem A271:m<24->((m:Nat):Int)<1000000000:=Z.R 0x41779d72c20f41f68a0400263d07da00007 [] [m] ⋯ ⋯
theorem A272:m<1000->m<1000000:=Z.R 0x105ec3283d07da0001fa3d07da00007 [] [m] ⋯ ⋯
theorem A273:m<=24->n<=m->n<1000000:=Z.R 0x4105ec3283d07da40028a401d8f68007 [] [m,n] ⋯ ⋯
theorem A274:m<=24->n<=m->n<=24:=Z.R 0x41058f69028a401d8f68007 [] [m,n] ⋯ ⋯
theorem A275:m<64->m<100000:=Z.R 0x104387583d07da0000283d07da00007 [] [m] ⋯ ⋯
theorem A276:m<100000->n<=m->p<=m->n+p<1000000:=Z.R 0x104109ec3283d07daa9000028a801e8a401c387583d07da00007 [] [m,n,p] ⋯ ⋯
theorem A277:m<10000->n<10000->p+q=2*m+n->p<1000000:=Z.R 0x10010427b0ca0f41f6a000a680be02ba80047278c3d07da40007278c3d07da00007 [] [m,n,p,q] ⋯ ⋯
theorem A278:m<10000->m<100000:=Z.R 0x410e1d60f41f68000278c3d07da00007 [] [m] ⋯ ⋯
theorem A279:m<100000->m<100000:=Z.R 0x104387583d07da0000387583d07da00007 [] [m] ⋯ ⋯
theorem A280:m+n=2*p+q->((m:Nat):Int)=2*((p:Nat):Int)+((q:Nat):Int)-((n:Nat):Int):=Z.R 0x1040040068a44a2b128a840be001a28103aea0be029a00047 [] [m,n,p,q] ⋯ ⋯
theorem A281:m<100000->n+p=m->n<1000000:=Z.R 0x100105ec3283d07da40028aa90011c387583d07da00007 [] [m,n,p] ⋯ ⋯
theorem A282:m<64->m<1000000:=Z.R 0x105ec3283d07da0000283d07da00007 [] [m] ⋯ ⋯
theorem A283:(0:Nat)<m->(0:Int)<((m:Nat):Int):=Z.R 0x1068a0407d03d002a01f40f40007 [] [m] ⋯ ⋯
theorem A284:(0:Nat)<m->¬(((m:Nat):Int)=0):=Z.R 0x41a00f68a040c4a01f40f40007 [] [m] ⋯ ⋯
theorem A285:m<100000->n<=m->n<1000000:=Z.R 0x4105ec3283d07da40028a401c387583d07da00007 [] [m,n] ⋯ ⋯
theorem A286:m=n->m<100000->n<100000:=Z.R 0x104100387583d07da4000387583d07da00007a68047 [] [m,n] ⋯ ⋯
theorem A287:m<n->n<100000->m<1000000:=Z.R 0x10417b0ca0f41f680000e1d60f41f690001e907da00007 [] [m,n] ⋯ ⋯
theorem A288:m<n->n<100000->p<=m->p<1000000:=Z.R 0x410417b0ca0f41f6a000a2a0070e1d60f41f690001e907da00007 [] [m,n,p] ⋯ ⋯
theorem A289:(0:Int)<=a->b+a=((m:Nat):Int)->c+a=((n:Nat):Int)->((m-(Int.toNat b):Nat):Int)<=((m:Nat):Int)-b+(((n:Nat):Int)-c):=Z.R 0x40000040042040040040001040000040042040000040001aa8a44069a28101028a291280440a8a44a2a0031e8a04a290031e803d087 [a,b,c] [m,n] ⋯ ⋯
theorem A290:((a+b<=c)/\(d+b<=e))->c-(a+b)<=c-(a+b)+(e-(d+b)):=Z.R 0x41029ac0b01a6802a040a6802a042b29ac00aaa68002147 [a,b,c,d,e] [] ⋯ ⋯
theorem A291:((a+b<=c)/\(d+b<=e))->e-(d+b)<=c-(a+b)+(e-(d+b)):=Z.R 0x40069ac0b01a6802a040a6b02c042b29ac00aaa68002147 [a,b,c,d,e] [] ⋯ ⋯
theorem A292:((m:Nat):Int)<=((n:Nat):Int)-a+(((p:Nat):Int)-b)->((q:Nat):Int)=c+d-c->((r:Nat):Int)<=a-(c+d)+(b-(e+d))->((q+r+m:Nat):Int)<=((n:Nat):Int)-c+(((p:Nat):Int)-e):=Z.R 0x4100206ca2a101aa8a44040a28b2b000102aec02906ba80a01028b04087aaba80068ac40c7a68a84068a29101028a04087 [a,b,c,d,e] [m,n,p,q,r] ⋯ ⋯
theorem A293:((m+n+p:Nat):Int)=((m:Nat):Int)+((n:Nat):Int)+((p:Nat):Int):=Z.R 0x1068a84a29128a04000a2aa68000103 [] [m,n,p] ⋯ ⋯
theorem A294:m<64->n<64->((p:Nat):Int)<=((m:Nat):Int)-0+(((n:Nat):Int)-0)->p<100000:=Z.R 0x410410e1d60f41f6a00003da2910103da28101028a840870a0f41f690001c283d07da00007 [] [m,n,p] ⋯ ⋯
theorem A295:((m:Nat):Int)=((n:Nat):Int)+((p:Nat):Int)+((q:Nat):Int)->((n:Nat):Int)+((p:Nat):Int)<=((m:Nat):Int):=Z.R 0x41028a04a2a128a44002a2b128a84a29100028a040c7 [] [m,n,p,q] ⋯ ⋯
theorem A296:m<100000->n=m->n<100000:=Z.R 0x100104387583d07da40028a411c387583d07da00007 [] [m,n] ⋯ ⋯
theorem A297:((m:Nat):Int)<=((n:Nat):Int)-0+(((p:Nat):Int)-0)->n<64->p<64->m<900000:=Z.R 0x410416eef60f41f680000a0f41f6a0001c283d07da4000703da2a10103da29101028a04087 [] [m,n,p] ⋯ ⋯
theorem A298:m<=n->n<100000->m<1000000:=Z.R 0x4105ec3283d07da0000387583d07da40007a68007 [] [m,n] ⋯ ⋯
theorem A299:m<=24->n<=p->p<100000->q<=n->m+q<1000000:=Z.R 0x10410417b0ca0f41f6ba00000a6b0070e1d60f41f6a0001eaa401d8f68007 [] [m,n,p,q] ⋯ ⋯
theorem A300:m<=24->n<=p->p<100000->q<=n->m+q+p<1000000:=Z.R 0x10420417b0ca0f41f6aae8000000a6b0070e1d60f41f6a0001eaa401d8f68007 [] [m,n,p,q] ⋯ ⋯
theorem A301:m<=200->n<=m->p=q->q<=n->p<=200:=Z.R 0x1040041046a3da80a6b007aea047a290071a8f68007 [] [m,n,p,q] ⋯ ⋯
theorem A302:m<=200->n<=m->p<=200->q+r=2*n+p->q<=600:=Z.R 0x1001042092e3dac0aa90be02cac00471a8f6a007a290071a8f68007 [] [m,n,p,q,r] ⋯ ⋯
theorem A303:m<=200->m<100000:=Z.R 0x410e1d60f41f680001a8f68007 [] [m] ⋯ ⋯
theorem A304:m<=200->n<=m->n<100000:=Z.R 0x10410e1d60f41f69000a290071a8f68007 [] [m,n] ⋯ ⋯
theorem A305:m<=200->n<=m->n<10000:=Z.R 0x41049e30f41f69000a290071a8f68007 [] [m,n] ⋯ ⋯
theorem A306:m<=200->m<10000:=Z.R 0x1049e30f41f680001a8f68007 [] [m] ⋯ ⋯
theorem A307:m<=200->n<=m+m->n<100000:=Z.R 0x10420e1d60f41f69000a280290071a8f68007 [] [m,n] ⋯ ⋯
theorem A308:m<=63->m<1000:=Z.R 0x417e8f41f6800007ff68007 [] [m] ⋯ ⋯
theorem A309:m<64->n<=p+1->p<=m->q<=2*(n+1)->q<=200:=Z.R 0x10420821a8f6b001f69002fab007a2a00707da80a401c283d07da00007 [] [m,n,p,q] ⋯ ⋯
theorem A310:m<=200->m<1000000:=Z.R 0x417b0ca0f41f680001a8f68007 [] [m] ⋯ ⋯
theorem A311:m<=201->0+m<=1000:=Z.R 0x417e8f6803d0001a9f68007 [] [m] ⋯ ⋯
theorem A312:m<=201->m-n<1999:=Z.R 0x1000040041faff41f69a010001a9f68007 [] [m,n] ⋯ ⋯
end
section
inductive V where
 |none |bool (b:Bool) |int (i:Int) |str (s:Str)
 |tup (vs:List V) |mat (i j k:Int)
 |ref (n:Nat) |dget (n:Nat) |scon (n:Nat) |rng (a b c:Int) |raw (a:Addr)
 deriving Inhabited
inductive Gn where
 |fresh (lo:Str->Option V)
 |loop (it:Nat) (lo:Str->Option V)
 |last (lo:Str->Option V)
 |run
 |fin
 deriving Inhabited
inductive MO where
 |list (vs:List V) |ro (vs:List V)
 |dict (n:Nat) (f:Int->Option V) |eset
 |inst (fs:Str->Option V)
 |gen (g:Gn)
 |itr (o:Option (Nat×Nat))
 deriving Inhabited
noncomputable abbrev MH:=List MO
structure Lc where
 a:Addr
 d:Addr
 g:Option Nat:=none
noncomputable def Lc.has(l:Lc)(b:Addr):Prop:=b=l.a∨b=l.d
noncomputable def Own(ρ:List Lc)(b:Addr):Prop:=∃ l∈ρ,l.has b
noncomputable def aW(o:Obj):Prop:=match o.data with
 | .seq _ _=>o.cls≠ .type "list"
 | .fields _=>o.cls= .type "builtin_function_or_method" ∨o.cls= .type "range"
 |_=>False
noncomputable def Imm(h h':Heap):Prop:=∀ b o,h.get? b=some o->aW o->h'.get? b=some o
theorem Imm.refl(h:Heap):Imm h h:=λ_ _ e _=>e
theorem Imm.trans{h1 h2 h3:Heap}(a:Imm h1 h2)(b:Imm h2 h3):Imm h1 h3:=λx o e i=>b x o (a x o e i) i
noncomputable abbrev aE:Addr:=135
noncomputable abbrev dY:Addr:=242
mutual
inductive VR(ρ:List Lc)(h:Heap):Value->V->Prop
 |none:VR ρ h .none .none
 |bool (b):VR ρ h (.bool b) (.bool b)
 |int (i t):VR ρ h (.int i t) (.int i)
 |str (s t):VR ρ h (.str s t) (.str s)
 |tup {a xs n vs}:h.get? a=some {cls:=.type "tuple",data:=.seq xs n}->VRs ρ h xs.toList vs->VR ρ h (.ref a) (.tup vs)
 |mat {a n i j k t u v dd}:h.get? a=some {cls:=.ref aE,dict:=dd,data:=.seq #[.int i t,.int j u,.int k v] n}->VR ρ h (.ref a) (.mat i j k)
 |ref {n l}:ρ[n]? =some l->VR ρ h (.ref l.a) (.ref n)
 |dget {a n l}:ρ[n]? =some l->h.get? a=some {cls:=.type "builtin_function_or_method",data:=.fields #[.builtin "dict.get",.ref l.a]}->VR ρ h (.ref a) (.dget n)
 |scon {a n l}:ρ[n]? =some l->h.get? a=some {cls:=.type "builtin_function_or_method",data:=.fields #[.builtin "set.__contains__",.ref l.a]}->VR ρ h (.ref a) (.scon n)
 |rng {a i j k t u v}:IsRange h a i j k t u v->VR ρ h (.ref a) (.rng i j k)
 |raw (a):VR ρ h (.ref a) (.raw a)
inductive VRs(ρ:List Lc)(h:Heap):List Value->List V->Prop
 |nil:VRs ρ h [] []
 |cons {u us v vs}:VR ρ h u v->VRs ρ h us vs->VRs ρ h (u :: us) (v :: vs)
end
theorem aQ{α:Type}{a:α}{P:Prop}(e:none=some a):P:=nomatch e
noncomputable def VRI(ρ:List Lc)(h:Heap)(x:Value):V->Prop
 | .none=>x= .none
 | .bool b=>x= .bool b
 | .int i=>∃ t,x= .int i t
 | .str s=>∃ t,x= .str s t
 | .tup vs=>∃ a xs n,x= .ref a/\h.get? a=some {cls:=.type "tuple",data:=.seq xs n}/\VRs ρ h xs.toList vs
 | .mat i j k=>∃ a n t u v dd,x= .ref a/\h.get? a=some {cls:=.ref aE,dict:=dd,data:=.seq #[.int i t,.int j u,.int k v] n}
 | .ref n=>∃ l,x= .ref l.a/\ρ[n]? =some l
 | .dget n=>∃ a l,x= .ref a/\ρ[n]? =some l/\h.get? a=some {cls:=.type "builtin_function_or_method",data:=.fields #[.builtin "dict.get",.ref l.a]}
 | .scon n=>∃ a l,x= .ref a/\ρ[n]? =some l/\h.get? a=some {cls:=.type "builtin_function_or_method",data:=.fields #[.builtin "set.__contains__",.ref l.a]}
 | .rng i j k=>∃ a t u v,x= .ref a/\IsRange h a i j k t u v
 | .raw a=>x= .ref a
theorem VR.inv{ρ:List Lc}{h:Heap}{u:Value}{v:V}(r:VR ρ h u v):VRI ρ h u v:=by
 cases r with
 |none=>exact rfl
 |bool=>exact rfl
 |int i t=>exact⟨t,rfl⟩
 |str s t=>exact⟨t,rfl⟩
 |tup g rs=>exact⟨_,_,_,rfl,g,rs⟩
 |mat g=>exact⟨_,_,_,_,_,_,rfl,g⟩
 |ref g=>exact⟨_,rfl,g⟩
 |dget g g'=>exact⟨_,_,rfl,g,g'⟩
 |scon g g'=>exact⟨_,_,rfl,g,g'⟩
 |rng g=>exact⟨_,_,_,_,rfl,g⟩
 |raw=>exact rfl
theorem aO{ρ ρ':List Lc}(e:ρ<+:ρ'){n:Nat}{l:Lc}(h:ρ[n]? =some l):ρ'[n]? =some l:=by
 refine xE e λt z1=>?_;clear e;subst z1
 rw [List.getElem?_append_left (List.getElem?_eq_some_iff.mp h).1];exact h
theorem VR.mono{ρ ρ':List Lc}{h h':Heap}(e:ρ<+:ρ')(i:Imm h h'){u:Value}{v:V}(r:VR ρ h u v):VR ρ' h' u v:=by
 refine VR.rec (motive_1:=λu v _=>VR ρ' h' u v) (motive_2:=λus vs _=>VRs ρ' h' us vs) .none .bool .int .str ?_ ?_ ?_ ?_ ?_ ?_ .raw .nil ?_ r
 ·intro a xs n vs g _ ih;exact .tup (i _ _ g (by simp [aW])) ih
 ·intro a n x y z t u v dd g;exact .mat (i _ _ g (by simp [aW]))
 ·intro n l g;exact .ref (aO e g)
 ·intro a n l g g';exact .dget (aO e g) (i _ _ g' (by simp [aW]))
 ·intro a n l g g';exact .scon (aO e g) (i _ _ g' (by simp [aW]))
 ·intro a x y z t u v g;exact .rng (i _ _ g (by simp [aW]))
 ·intro u us v vs _ _ a b;exact .cons a b
theorem VRs.mono{ρ ρ':List Lc}{h h':Heap}(e:ρ<+:ρ')(i:Imm h h'):∀ {us:List Value}{vs:List V},VRs ρ h us vs->VRs ρ' h' us vs
 |_,_,.nil=>.nil
 |_,_,.cons a b=>.cons (a.mono e i) (b.mono e i)
theorem VRs.length{ρ:List Lc}{h:Heap}:∀ {us:List Value}{vs:List V},VRs ρ h us vs->us.length=vs.length
 |_,_,.nil=>rfl
 |_,_,.cons _ b=>by simp [b.length]
theorem VRs.get{ρ:List Lc}{h:Heap}:∀ {us:List Value}{vs:List V},VRs ρ h us vs->∀ {i:Nat}{v:V},vs[i]? =some v->∃ u,us[i]? =some u/\VR ρ h u v
 |_,_,.nil,i,v,e=>by simp at e
 |_,_,.cons a b,0,v,e=>by simp at e;subst e;exact⟨_,rfl,a⟩
 |_,_,.cons a b,i+1,v,e=>by simp at e;refine xEA (b.get e) λu h1 h2=>?_;exact⟨u,by simpa using h1,h2⟩
theorem VRs.append{ρ:List Lc}{h:Heap}:∀ {us us':List Value}{vs vs':List V},VRs ρ h us vs->VRs ρ h us' vs'->VRs ρ h (us++us') (vs++vs')
 |_,_,_,_,.nil,b=>b
 |_,_,_,_,.cons a c,b=>.cons a (c.append b)
theorem VRs.take{ρ:List Lc}{h:Heap}:∀ {us:List Value}{vs:List V},VRs ρ h us vs->∀ n:Nat,VRs ρ h (us.take n) (vs.take n)
 |_,_,.nil,n=>by simp;exact .nil
 |_,_,.cons a b,0=>.nil
 |_,_,.cons a b,n+1=>.cons a (b.take n)
theorem VRs.drop{ρ:List Lc}{h:Heap}:∀ {us:List Value}{vs:List V},VRs ρ h us vs->∀ n:Nat,VRs ρ h (us.drop n) (vs.drop n)
 |_,_,.nil,n=>by simp;exact .nil
 |_,_,.cons a b,0=>.cons a b
 |_,_,.cons a b,n+1=>b.drop n
noncomputable def OV(ρ:List Lc)(h:Heap):Option Value->Option V->Prop
 |none,none=>True
 |some u,some v=>VR ρ h u v
 |_,_=>False
theorem OV.mono{ρ ρ':List Lc}{h h':Heap}(e:ρ<+:ρ')(i:Imm h h'):∀ {u:Option Value}{v:Option V},OV ρ h u v->OV ρ' h' u v
 |none,none,_=>trivial
 |some _,some _,x=>VR.mono e i x
 |none,some _,x=>x.elim
 |some _,none,x=>x.elim
noncomputable def dQ:List Str:=["isjunk","a","b","autojunk","matching_blocks","opcodes","fullbcount","b2j","bjunk","bpopular"]
end
section
structure Cx where
 prog:Program
 w:World
 base:Shared
 lim:base.heap.NoLimit
 GR:List Lc->Shared->Lc->Gn->Prop
 mono:∀ {ρ ρ':List Lc}{s s':Shared}{l:Lc}{g:Gn},ρ<+:ρ'->Imm s.heap s'.heap->(∀ o,s.heap.get? l.a=some o->s'.heap.get? l.a=some o)->(∀ o,s.heap.get? l.d=some o->s'.heap.get? l.d=some o)->
  (∀ k x,l.g=some k->s.gens[k]? =some x->s'.gens[k]? =some x)->GR ρ s l g->GR ρ' s' l g
 here:∀ {ρ s l g},GR ρ s l g->∃ o o',s.heap.get? l.a=some o/\s.heap.get? l.d=some o'/\¬aW o/\¬aW o'
noncomputable abbrev Cx.M(C:Cx):Model:=model C.prog C.w
noncomputable def OR(C:Cx)(ρ:List Lc)(s:Shared)(l:Lc):MO->Prop
 | .list vs=>l.d=l.a/\l.g=none/\∃ xs n,IsL s.heap l.a xs n/\VRs ρ s.heap xs.toList vs
 | .ro vs=>l.d=l.a/\l.g=none/\∃ xs,C.base.heap.IsList l.a xs/\VRs ρ s.heap xs.toList vs
 | .dict n f=>l.d=l.a/\l.g=none/\∃ kvs:List (Int×Value),s.heap.DictOf (intKind C.prog C.w) l.a kvs/\kvs.length<=n/\∀ k,OV ρ s.heap (valueAt kvs k) (f k)
 | .eset=>l.d=l.a/\l.g=none/\∃ n t,s.heap.get? l.a=some {cls:=.type "set",data:=.set #[] n t}/\t.fits 0=true
 | .inst fs=>l.g=none/\l.d≠l.a/\(∃ o,s.heap.get? l.a=some o/\o.cls= .ref dY/\o.data= .plain/\o.dict=some l.d)/\∃ m,s.heap.Ns1 l.d m/\s.heap.ExactDictFk l.d/\Within m dQ/\∀ x,OV ρ s.heap (m x) (fs x)
 | .gen g=>C.GR ρ s l g
 | .itr none=>l.d=l.a/\l.g=none/\∃ o,s.heap.get? l.a=some o/\¬aW o
 | .itr (some p)=>l.d=l.a/\l.g=none/\∃ li,ρ[p.1]? =some li/\s.heap.IsListIter l.a li.a p.2
structure Sim(C:Cx)(H:MH)(ρ:List Lc)(s:Shared):Prop where
 len:ρ.length=H.length
 keep:∀ b o,C.base.heap.get? b=some o->s.heap.get? b=some o
 objs:∀ (i:Nat) (m:MO) (l:Lc),H[i]? =some m->ρ[i]? =some l->OR C ρ s l m
 ro:∀ (i:Nat) (l:Lc),ρ[i]? =some l->(∃ vs,H[i]? =some (.ro vs))∨(C.base.heap.get? l.a=none/\C.base.heap.get? l.d=none)
 disj:∀ (i j:Nat) (li lj:Lc),ρ[i]? =some li->ρ[j]? =some lj->i≠j->∀ b,li.has b->¬lj.has b
 disjG:∀ (i j:Nat) (li lj:Lc) (k:Nat),ρ[i]? =some li->ρ[j]? =some lj->i≠j->li.g=some k->lj.g≠some k
 os:s.os=C.base.os
 bare:AllBare s.gens
structure Nx(ρ:List Lc)(W:Addr->Prop)(s:Shared)(ρ':List Lc)(s':Shared):Prop where
 pre:ρ<+:ρ'
 new:∀ l∈ρ'.drop ρ.length,s.heap.get? l.a=none/\s.heap.get? l.d=none
 kp:∀ b o,s.heap.get? b=some o->¬Own ρ b->¬W b->s'.heap.get? b=some o
 imm:Imm s.heap s'.heap
 al:∀ b o,s.heap.get? b=some o->∃ o',s'.heap.get? b=some o'
theorem Nx.own{ρ ρ':List Lc}{W:Addr->Prop}{s s':Shared}(N:Nx ρ W s ρ' s'){b:Addr}{o:Obj}(hb:s.heap.get? b=some o)(h: ¬Own ρ b): ¬Own ρ' b:=by
 rintro ⟨l,hl,hh⟩
 refine xE N.pre λt z2=>?_;subst z2
 refine Or.elim (List.mem_append.mp hl) (λq=>?_) λq=>?_
 ·exact h ⟨l,q,hh⟩
 ·have:=N.new l (by simpa using q)
  rcases hh with rfl |rfl
  ·rw[this.1]at hb;cases hb
  ·rw[this.2]at hb;cases hb
theorem Nx.refl{ρ:List Lc}{W:Addr->Prop}{s:Shared}:Nx ρ W s ρ s:=
 ⟨List.prefix_refl _,λl hl=>by simp at hl,λ_ _ e _ _=>e,.refl _,λ_ o e=>⟨o,e⟩⟩
theorem Nx.trans{ρ ρ1 ρ2:List Lc}{W:Addr->Prop}{s s1 s2:Shared}(a:Nx ρ W s ρ1 s1)(b:Nx ρ1 W s1 ρ2 s2):Nx ρ W s ρ2 s2:=by
 refine⟨a.pre.trans b.pre,λl hl=>?_,λx o e ho hw=>b.kp x o (a.kp x o e ho hw) (a.own e ho) hw,a.imm.trans b.imm,λx o e=>let ⟨o',e'⟩:=a.al x o e;b.al x o' e'⟩
 refine xE a.pre λt z3=>?_;subst z3
 refine xE b.pre λt' z4=>?_;subst z4
 rw [List.append_assoc,List.drop_left]at hl
 refine Or.elim (List.mem_append.mp hl) (λq=>?_) λq=>?_
 ·exact a.new l (by simpa using q)
 ·have n:=b.new l (by simpa using q)
  refine⟨?_,?_⟩
  ·cases e:s.heap.get? l.a with
   |none=>rfl
   |some o=>refine xE (a.al _ _ e) λo' e'=>?_;rw[n.1]at e';cases e'
  ·cases e:s.heap.get? l.d with
   |none=>rfl
   |some o=>refine xE (a.al _ _ e) λo' e'=>?_;rw[n.2]at e';cases e'
theorem Nx.weaken{ρ ρ':List Lc}{W W':Addr->Prop}{s s':Shared}(a:Nx ρ W s ρ' s')(h:∀ b,W b->W' b):Nx ρ W' s ρ' s':=
 ⟨a.pre,a.new,λb o e ho hw=>a.kp b o e ho λq=>hw (h b q),a.imm,a.al⟩
noncomputable def noW:Addr->Prop:=λ_=>False
theorem OR.mono{C:Cx}{ρ ρ':List Lc}{s s':Shared}{l:Lc}{m:MO}(e:ρ<+:ρ')(i:Imm s.heap s'.heap)(h1:∀ o,s.heap.get? l.a=some o->s'.heap.get? l.a=some o)
  (h2:∀ o,s.heap.get? l.d=some o->s'.heap.get? l.d=some o) (h3:∀ k x,l.g=some k->s.gens[k]? =some x->s'.gens[k]? =some x) (r:OR C ρ s l m):OR C ρ' s' l m:=by
 cases m with
 |list vs=>refine kB r λa g xs n x y=>?_;exact⟨a,g,xs,n,h1 _ x,y.mono e i⟩
 |ro vs=>refine r6 r λa g xs x y=>?_;exact⟨a,g,xs,x,y.mono e i⟩
 |dict n f=>refine w8 r λa g kvs z5 x y=>?_;obtain⟨o,es,ep,ho,q⟩:=z5;exact⟨a,g,kvs,⟨o,es,ep,h1 _ ho,q⟩,x,λk=>(y k).mono e i⟩
 |eset=>refine kB r λa g n t x y=>?_;exact⟨a,g,n,t,h1 _ x,y⟩
 |inst fs=>refine oM r λg ne z6 m z7 z8 w y=>?_;obtain⟨o,a,b⟩:=z6;obtain⟨o',es,ep,ho,q⟩:=z7;obtain⟨od,hd,x⟩:=z8;exact⟨g,ne,⟨o,h1 _ a,b⟩,m,⟨o',es,ep,h2 _ ho,q⟩,⟨od,h2 _ hd,x⟩,w,λk=>(y k).mono e i⟩
 |gen g=>exact C.mono e i h1 h2 h3 r
 |itr p=>cases p with
  |none=>refine r6 r λa g o y z=>?_;exact⟨a,g,o,h1 _ y,z⟩
  |some p=>refine aGj r λa g li x o y z=>?_;exact⟨a,g,li,aO e x,o,h1 _ y,z⟩
theorem Sim.same{C:Cx}{H:MH}{ρ:List Lc}{s s':Shared}(S:Sim C H ρ s)(hk:∀ b o,s.heap.get? b=some o->(Own ρ b∨(C.base.heap.get? b).isSome=true)->s'.heap.get? b=some o)(i:Imm s.heap s'.heap)
  (hg:∀ (k:Nat) (x:GenState),s.gens[k]? =some x->s'.gens[k]? =some x) (hos:s'.os=s.os) (hb:AllBare s'.gens):Sim C H ρ s':=by
 refine⟨S.len,λb o e=>hk b o (S.keep b o e) (.inr (by rw[e];rfl)),λj m l hm hj=>?_,S.ro,S.disj,S.disjG,hos.trans S.os,hb⟩
 have hmem:l∈ρ:=List.mem_of_getElem? hj
 exact(S.objs j m l hm hj).mono (List.prefix_refl _) i (λo e=>hk _ o e (.inl ⟨l,hmem,.inl rfl⟩)) (λo e=>hk _ o e (.inl ⟨l,hmem,.inr rfl⟩)) (λk x _ e=>hg k x e)
end
section
variable {C:Cx}
noncomputable abbrev Lo:=Str->Option V
noncomputable def Wr(env:Env)(b:Addr):Prop:=b=env.locals∨∃ x,env.cells.lookup x=some b
structure Fm(C:Cx)(env:Env)(ρ:List Lc)(s:Shared)(lo:Lo):Prop where
 fn:env.scope.kind= .function
 gl:env.globals=mainGlobals
 bi:env.builtins=builtinsNs
 ns:∃ m,s.heap.Ns env.locals m/\∀ x,env.kindOf x=some .local->OV ρ s.heap (m x) (lo x)
 cl:∀ x,env.kindOf x=some .cell∨env.kindOf x=some .free->∃ c o u,env.cells.lookup x=some c/\s.heap.get? c=some o/\o.data= .cell u/\OV ρ s.heap u (lo x)
 own:∀ b,Wr env b->¬Own ρ b/\C.base.heap.get? b=none
 dis:∀ x c,env.cells.lookup x=some c->c≠env.locals
 inj:∀ x y c,env.cells.lookup x=some c->env.cells.lookup y=some c->x=y
 alv:∀ b,Wr env b->∃ o,s.heap.get? b=some o
theorem Fm.next{env:Env}{ρ ρ':List Lc}{s s':Shared}{lo:Lo}{W:Addr->Prop}(F:Fm C env ρ s lo)(N:Nx ρ W s ρ' s')(hw:∀ b,Wr env b->¬W b):Fm C env ρ' s' lo:=by
 refine xEA F.ns λm z9 hm=>?_;obtain⟨o,es,ep,ho,hr⟩:=z9
 have k:∀ b o,Wr env b->s.heap.get? b=some o->s'.heap.get? b=some o:=λb o hb e=>N.kp b o e (F.own b hb).1 (hw b hb)
 refine⟨F.fn,F.gl,F.bi,⟨m,⟨o,es,ep,k _ _ (.inl rfl) ho,hr⟩,λx hx=>(hm x hx).mono N.pre N.imm⟩,λx hx=>?_,λb hb=>⟨(let ⟨o,e⟩:=F.alv b hb;N.own e (F.own b hb).1),(F.own b hb).2⟩,F.dis,F.inj,λb hb=>let ⟨o,e⟩:=F.alv b hb;N.al b o e⟩
 refine cH (F.cl x hx) λc o u h1 h2 h3 h4=>?_
 exact⟨c,o,u,h1,k _ _ (.inr ⟨x,h1⟩) h2,h3,h4.mono N.pre N.imm⟩
noncomputable def Room(r:Nat)(A:Around):Prop:=A.handled=none/\A.depth+10*r<=700/\A.units+40*r<=8000
theorem Room.lt{r:Nat}{A:Around}(h:Room r A):A.depth<recursionLimit:=by have:=h.2.1;show A.depth<1000;exact A0 this
noncomputable abbrev NoE:Value->Shared->Prop:=λ_ _=>False
noncomputable abbrev EK:=V->MH->Prop
noncomputable abbrev EF:=Lo->MH->EK->Prop
inductive EPo(C:Cx)(ρ:List Lc)(s:Shared)(H':MH)(v:V)(x:Value)(s':Shared):Prop
 |mk (ρ':List Lc) (S:Sim C H' ρ' s') (N:Nx ρ noW s ρ' s') (r:VR ρ' s'.heap x v):EPo C ρ s H' v x s'
inductive bZ(C:Cx)(ρ:List Lc)(s:Shared)(Q:EK)(x:Value)(s':Shared):Prop
 |mk {ρ':List Lc}{v:V}{H':MH} (S:Sim C H' ρ' s') (N:Nx ρ noW s ρ' s') (r:VR ρ' s'.heap x v) (q:Q v H'):bZ C ρ s Q x s'
noncomputable def EV(C:Cx)(r:Nat)(env:Env)(e:Expr)(f:EF):Prop:=
 ∀ ⦃A:Around⦄⦃s:Shared⦄⦃ρ:List Lc⦄⦃H:MH⦄⦃lo:Lo⦄⦃Q:EK⦄,Room r A->Sim C H ρ s->Fm C env ρ s lo->f lo H Q->
  wpAny C.M A (eval e env) (bZ C ρ s Q) NoE s
theorem wmN{M:Model}{A:Around}{α:Type}{t:Sem α}{P Q:α->Shared->Prop}{E:Value->Shared->Prop}{s:Shared}(h:wpAny M A t P NoE s)(k:∀ a s',P a s'->Q a s'):wpAny M A t Q E s:=
 wpAny_mono h k λ_ _ z=>z.elim
theorem bZ.run{M:Model}{A:Around}{t:Sem Value}{E:Value->Shared->Prop}{ρ:List Lc}{s:Shared}{Q:EK}{K:Value->Shared->Prop}(h:wpAny M A t (bZ C ρ s Q) NoE s)
  (k:∀ {x s' ρ' v H'},Sim C H' ρ' s'->Nx ρ noW s ρ' s'->VR ρ' s'.heap x v->Q v H'->K x s'):wpAny M A t K E s:=wmN h λ_ _ ⟨S,N,r,q⟩=>k S N r q
theorem EV.run{env:Env}{r:Nat}{e:Expr}{f:EF}(h:EV C r env e f){A:Around}{s:Shared}{ρ:List Lc}{H:MH}{lo:Lo}{Q:EK}{K E:Value->Shared->Prop}(hr:Room r A)(S:Sim C H ρ s)(F:Fm C env ρ s lo)(q:f lo H Q)
  (k:∀ {x s' ρ' v H'},Sim C H' ρ' s'->Nx ρ noW s ρ' s'->VR ρ' s'.heap x v->Q v H'->K x s'):wpAny C.M A (eval e env) K E s:=bZ.run (h hr S F q) k
theorem EPo.post{ρ:List Lc}{s:Shared}{H':MH}{v:V}{Q:EK}{x:Value}{s':Shared}(h:EPo C ρ s H' v x s')(q:Q v H'):bZ C ρ s Q x s':=let ⟨_,S,N,r⟩:=h;⟨S,N,r,q⟩
theorem Fm.nx{env:Env}{ρ ρ':List Lc}{s s':Shared}{lo:Lo}(F:Fm C env ρ s lo)(N:Nx ρ noW s ρ' s'):Fm C env ρ' s' lo:=F.next N λ_ _ z=>z
theorem VR.nx{ρ ρ':List Lc}{s s':Shared}{W:Addr->Prop}{u:Value}{v:V}(r:VR ρ s.heap u v)(N:Nx ρ W s ρ' s'):VR ρ' s'.heap u v:=r.mono N.pre N.imm
theorem VRs.nx{ρ ρ':List Lc}{s s':Shared}{W:Addr->Prop}{us:List Value}{vs:List V}(r:VRs ρ s.heap us vs)(N:Nx ρ W s ρ' s'):VRs ρ' s'.heap us vs:=r.mono N.pre N.imm
theorem bZ.from{ρ ρ1:List Lc}{s s1:Shared}{Q:EK}{x:Value}{s':Shared}(N:Nx ρ noW s ρ1 s1)(p:bZ C ρ1 s1 Q x s'):bZ C ρ s Q x s':=let ⟨S,N',r,q⟩:=p;⟨S,N.trans N',r,q⟩
theorem EPo.from{ρ ρ1:List Lc}{s s1:Shared}{H':MH}{v:V}{x:Value}{s':Shared}(N:Nx ρ noW s ρ1 s1)(p:EPo C ρ1 s1 H' v x s'):EPo C ρ s H' v x s':=let ⟨ρ',S,N',r⟩:=p;⟨ρ',S,N.trans N',r⟩
theorem bJ(h:Heap):h.get? h.objs.size=none:=by
 cases e:h.get? h.objs.size with
 |none=>rfl
 |some o=>exact absurd (Heap.lt_size e) (Nat.lt_irrefl _)
theorem Sim.toks{H:MH}{ρ:List Lc}{s:Shared}(S:Sim C H ρ s)(k:Nat):Sim C H ρ {s with toks:=k}:=
 S.same (λ_ _ e _=>e) (.refl _) (λ_ _ e=>e) rfl S.bare
theorem Nx.toks{ρ:List Lc}{W:Addr->Prop}{s:Shared}(k:Nat):Nx ρ W s ρ {s with toks:=k}:=
 ⟨List.prefix_refl _,λl hl=>by simp at hl,λ_ _ e _ _=>e,.refl _,λ_ o e=>⟨o,e⟩⟩
theorem e9(h:Heap)(o:Obj):Imm h (h.push o):=λb x e _=>Heap.get?_push_of_some o e
theorem Sim.push{H:MH}{ρ:List Lc}{s:Shared}(S:Sim C H ρ s)(o:Obj):Sim C H ρ {s with heap:=s.heap.push o}:=
 S.same (λ_ _ e _=>Heap.get?_push_of_some o e) (e9 _ _) (λ_ _ e=>e) rfl S.bare
theorem Nx.push{ρ:List Lc}{W:Addr->Prop}{s:Shared}(o:Obj):Nx ρ W s ρ {s with heap:=s.heap.push o}:=
 ⟨List.prefix_refl _,λl hl=>by simp at hl,λ_ _ e _ _=>Heap.get?_push_of_some o e,e9 _ _,λ_ x e=>⟨x,Heap.get?_push_of_some o e⟩⟩
theorem Sim.live{H:MH}{ρ:List Lc}{s:Shared}(S:Sim C H ρ s){i:Nat}{l:Lc}(hl:ρ[i]? =some l):(∃ o,s.heap.get? l.a=some o/\¬aW o)/\∃ o,s.heap.get? l.d=some o/\¬aW o:=by
 have hlt:i<H.length:=by rw[<-S.len];exact(List.getElem?_eq_some_iff.mp hl).1
 have r:=S.objs i H[i] l (List.getElem?_eq_getElem hlt) hl
 revert r
 cases H[i] with
 |list vs=>rintro ⟨a,g,xs,n,x,y⟩;rw[a];exact⟨⟨_,x,by simp [aW]⟩,⟨_,x,by simp [aW]⟩⟩
 |ro vs=>rintro ⟨a,g,xs,⟨o,x,hc,n,hd⟩,y⟩;rw[a];have:=S.keep _ _ x;exact⟨⟨_,this,by simp [aW,hd,hc]⟩,⟨_,this,by simp [aW,hd,hc]⟩⟩
 |dict n f=>rintro ⟨a,g,kvs,⟨o,es,ep,ho,hc,hd,_⟩,_⟩;rw[a];exact⟨⟨_,ho,by simp [aW,hd]⟩,⟨_,ho,by simp [aW,hd]⟩⟩
 |eset=>rintro ⟨a,g,n,t,x,y⟩;rw[a];exact⟨⟨_,x,by simp [aW]⟩,⟨_,x,by simp [aW]⟩⟩
 |inst fs=>rintro ⟨g,ne,⟨o,a,_,b,_⟩,m,⟨o',es,ep,ho,hd,q⟩,_⟩;exact⟨⟨_,a,by simp [aW,b]⟩,⟨_,ho,by simp [aW,hd]⟩⟩
 |gen g=>intro r;refine xEEAAA (C.here r) λo o' h1 h2 h3 h4=>?_;exact⟨⟨o,h1,h3⟩,⟨o',h2,h4⟩⟩
 |itr p=>cases p with
  |none=>rintro ⟨a,g,o,y,z⟩;rw[a];exact⟨⟨o,y,z⟩,⟨o,y,z⟩⟩
  |some p=>rintro ⟨a,g,li,x,o,y,z1,z2⟩;rw[a];exact⟨⟨o,y,by simp [aW,z1,z2]⟩,⟨o,y,by simp [aW,z1,z2]⟩⟩
theorem eE{h h':Heap}(hk:∀ b o,h.get? b=some o->h'.get? b=some o):Imm h h':=λb o e _=>hk b o e
theorem hR{α:Type}{ρ:List α}{l l':α}{i:Nat}(h:(ρ++[l])[i]? =some l'):ρ[i]? =some l'∨(i=ρ.length/\l'=l):=by
 refine Or.elim (Nat.lt_or_ge i ρ.length) (λq=>?_) λq=>?_
 ·rw[List.getElem?_append_left q]at h;exact .inl h
 ·rw[List.getElem?_append_right q]at h
  cases e:i-ρ.length with
  |zero=>rw [e]at h;exact .inr ⟨Nat.le_antisymm (Nat.le_of_sub_eq_zero e) q,(Option.some.inj h).symm⟩
  |succ n=>rw [e]at h;cases h
theorem kU{H:MH}{ρ:List Lc}{s:Shared}(S:Sim C H ρ s){b:Addr}(h:s.heap.get? b=none):C.base.heap.get? b=none:=by
 cases e:C.base.heap.get? b with
 |none=>rfl
 |some o=>rw [S.keep _ _ e]at h;cases h
theorem sF{H:MH}{ρ:List Lc}{s:Shared}(S:Sim C H ρ s){l:Lc}(ha:s.heap.get? l.a=none)(hd:s.heap.get? l.d=none){b:Addr}(h:l.has b): ¬Own ρ b:=by
 rintro ⟨l',hl,hb⟩
 refine xE (List.getElem?_of_mem hl) λi hi=>?_
 refine xAEA (S.live hi) λz11 o' h2 _=>?_;obtain⟨o,h1,_⟩:=z11
 have q:s.heap.get? b=none:=by rcases h with rfl |rfl<;>assumption
 rcases hb with rfl |rfl
 ·rw[q]at h1;cases h1
 ·rw[q]at h2;cases h2
theorem Sim.new{H:MH}{ρ:List Lc}{s s':Shared}{l:Lc}{m:MO}(S:Sim C H ρ s)(hk:∀ b o,s.heap.get? b=some o->s'.heap.get? b=some o)(hg:∀ (k:Nat) (x:GenState),s.gens[k]? =some x->s'.gens[k]? =some x)(hos:s'.os=s.os)(hb:AllBare s'.gens)
  (ha:s.heap.get? l.a=none) (hd:s.heap.get? l.d=none) (hf:∀ k,l.g=some k->∀ l'∈ρ,l'.g≠some k) (hm:OR C (ρ++[l]) s' l m):Sim C (H++[m]) (ρ++[l]) s'/\∀ W,Nx ρ W s (ρ++[l]) s':=by
 have fo:= @sF C H ρ s S l ha hd
 refine⟨⟨by rw[List.length_append,List.length_append,S.len];rfl,λb o e=>hk b o (S.keep b o e),λi x l' hx hl=>?_,λi l' hl=>?_,λi j li lj hi hj hne b h1 h2=>?_,λi j li lj k hi hj hne h1 h2=>?_,hos.trans S.os,hb⟩,
  λW=>⟨List.prefix_append _ _,λl' hl=>?_,λb o e _ _=>hk b o e,eE hk,λb o e=>⟨o,hk b o e⟩⟩⟩
 ·rcases hR hl with q |⟨rfl,rfl⟩
  ·rw[List.getElem?_append_left (by rw[<-S.len];exact(List.getElem?_eq_some_iff.mp q).1)]at hx
   exact(S.objs i x l' hx q).mono (List.prefix_append _ _) (eE hk) (λo e=>hk _ o e) (λo e=>hk _ o e) (λk y _ e=>hg k y e)
  ·rw[S.len,List.getElem?_append_right (Nat.le_refl _),Nat.sub_self]at hx
   cases hx;exact hm
 ·rcases hR hl with q |⟨rfl,rfl⟩
  ·rw[List.getElem?_append_left (by rw[<-S.len];exact(List.getElem?_eq_some_iff.mp q).1)];exact S.ro i l' q
  ·exact .inr ⟨kU S ha,kU S hd⟩
 ·rcases hR hi with q |⟨e1,rfl⟩<;>rcases hR hj with q' |⟨e2,rfl⟩
  ·exact S.disj i j li lj q q' hne b h1 h2
  ·exact fo h2 ⟨li,List.mem_of_getElem? q,h1⟩
  ·exact fo h1 ⟨lj,List.mem_of_getElem? q',h2⟩
  ·exact hne (e1.trans e2.symm)
 ·rcases hR hi with q |⟨e1,rfl⟩<;>rcases hR hj with q' |⟨e2,rfl⟩
  ·exact S.disjG i j li lj k q q' hne h1 h2
  ·exact hf k h2 li (List.mem_of_getElem? q) h1
  ·exact hf k h1 lj (List.mem_of_getElem? q') h2
  ·exact hne (e1.trans e2.symm)
 ·rw[List.drop_left]at hl;cases List.mem_singleton.mp hl;exact⟨ha,hd⟩
theorem Sim.grow{H:MH}{ρ:List Lc}{s:Shared}{h':Heap}{k:Nat}{l:Lc}{m:MO}(S:Sim C H ρ s)(hk:∀ b o,s.heap.get? b=some o->h'.get? b=some o)(ha:s.heap.get? l.a=none)(hd:s.heap.get? l.d=none)(hlg:l.g=none)
  (hm:OR C (ρ++[l]) {s with heap:=h',toks:=k} l m):Sim C (H++[m]) (ρ++[l]) {s with heap:=h',toks:=k}/\∀ W,Nx ρ W s (ρ++[l]) {s with heap:=h',toks:=k}:=
 S.new (s':= {s with heap:=h',toks:=k}) hk (λ_ _ e=>e) rfl S.bare ha hd (λk e=>by rw[hlg]at e;cases e) hm
theorem Sim.last{H:MH}{ρ:List Lc}{s:Shared}(S:Sim C H ρ s){l:Lc}:(ρ++[l])[H.length]? =some l:=by rw[<-S.len];simp
theorem Sim.alloc{H:MH}{ρ:List Lc}{s:Shared}(S:Sim C H ρ s)(o:Obj)(m:MO)(hm:OR C (ρ++[⟨s.heap.objs.size,s.heap.objs.size,none⟩]) {s with heap:=s.heap.push o} ⟨s.heap.objs.size,s.heap.objs.size,none⟩ m):
  Sim C (H++[m]) (ρ++[⟨s.heap.objs.size,s.heap.objs.size,none⟩]) {s with heap:=s.heap.push o}:=
 (S.grow (k:=s.toks) (λ_ _ e=>Heap.get?_push_of_some o e) (bJ _) (bJ _) rfl hm).1
theorem Nx.alloc{ρ:List Lc}{W:Addr->Prop}{s:Shared}(o:Obj):Nx ρ W s (ρ++[⟨s.heap.objs.size,s.heap.objs.size,none⟩]) {s with heap:=s.heap.push o}:=
 ⟨List.prefix_append _ _,λl hl=>by simp at hl;subst hl;exact⟨bJ _,bJ _⟩,λ_ _ e _ _=>Heap.get?_push_of_some o e,e9 _ _,λ_ x e=>⟨x,Heap.get?_push_of_some o e⟩⟩
theorem Sim.upd{H:MH}{ρ:List Lc}{s s':Shared}(S:Sim C H ρ s){i:Nat}{l:Lc}{m m':MO}(hl:ρ[i]? =some l)(hH:H[i]? =some m)(hro:∀ vs,m≠ .ro vs)
  (hk:∀ b o,s.heap.get? b=some o->¬l.has b->s'.heap.get? b=some o) (hi:Imm s.heap s'.heap)
  (hg:s'.gens=s.gens) (hos:s'.os=s.os) (hm:OR C ρ s' l m') (hnr:∀ vs,m'≠ .ro vs):Sim C (H.set i m') ρ s':=by
 have hil:i<H.length:=(List.getElem?_eq_some_iff.mp hH).1
 have hbase:C.base.heap.get? l.a=none/\C.base.heap.get? l.d=none:=by
  rcases S.ro i l hl with ⟨vs,e⟩ |e
  ·rw[hH]at e;exact absurd (Option.some.inj e) (hro vs)
  ·exact e
 refine⟨by simp [S.len],λb o e=>hk b o (S.keep b o e) (λq=>by rcases q with rfl |rfl<;>simp_all),λj x lj hx hj=>?_,λj lj hj=>?_,S.disj,S.disjG,hos.trans S.os,by rw[hg];exact S.bare⟩
 ·by_cases e:j=i
  ·subst e
   rw [hl]at hj;cases hj
   rw [List.getElem?_set_self hil]at hx;cases hx
   exact hm
  ·rw[List.getElem?_set_ne (Ne.symm e)]at hx
   have d:=S.disj j i lj l hj hl e
   exact(S.objs j x lj hx hj).mono (List.prefix_refl _) hi (λo q=>hk _ o q (d _ (.inl rfl))) (λo q=>hk _ o q (d _ (.inr rfl))) (λk y _ q=>by rw[hg];exact q)
 ·by_cases e:j=i
  ·subst e
   rw [hl]at hj;cases hj
   exact .inr hbase
  ·rw[List.getElem?_set_ne (Ne.symm e)];exact S.ro j lj hj
end
section
variable {C:Cx}{r:Nat}{env:Env}
theorem EPo.here{ρ:List Lc}{s:Shared}{H:MH}{v:V}{x:Value}(S:Sim C H ρ s)(r:VR ρ s.heap x v):EPo C ρ s H v x s:=⟨ρ,S,.refl,r⟩
theorem EPo.tok{ρ:List Lc}{s:Shared}{H:MH}{v:V}{x:Value}{k:Nat}(S:Sim C H ρ s)(r:VR ρ s.heap x v):EPo C ρ s H v x {s with toks:=k}:=⟨ρ,S.toks _,.toks _,r⟩
theorem bZ.here{ρ:List Lc}{s:Shared}{H:MH}{v:V}{Q:EK}{x:Value}(S:Sim C H ρ s)(r:VR ρ s.heap x v)(q:Q v H):bZ C ρ s Q x s:=⟨S,.refl,r,q⟩
theorem bZ.tok{ρ:List Lc}{s:Shared}{H:MH}{v:V}{Q:EK}{x:Value}{k:Nat}(S:Sim C H ρ s)(r:VR ρ s.heap x v)(q:Q v H):bZ C ρ s Q x {s with toks:=k}:=⟨S.toks _,.toks _,r,q⟩
noncomputable def eK(v:V):EF:=λ_ H Q=>Q v H
theorem EV.int{i:Int}{k pos}:EV C r env (.Constant (.int i) k pos) (eK (.int i)):=λ_ _ _ _ _ _ _ S _ q=>wpAny_Constant_int (.tok S (.int _ _) q)
theorem EV.none{k pos}:EV C r env (.Constant .none k pos) (eK .none):=λ_ _ _ _ _ _ _ S _ q=>wpAny_Constant_none (.here S .none q)
theorem EV.bool{b k pos}:EV C r env (.Constant (.bool b) k pos) (eK (.bool b)):=λ_ _ _ _ _ _ _ S _ q=>wpAny_Constant_bool (.here S (.bool b) q)
theorem EV.str{x:Str}{k pos}:EV C r env (.Constant (.str x) k pos) (eK (.str x)):=λ_ _ _ _ _ _ _ S _ q=>wpAny_Constant_str (.tok S (.str _ _) q)
noncomputable def Lf{α:Type}(o:Option α)(Q:α->Prop):Prop:=match o with |some p=>Q p |none=>False
theorem Lf.elim{α:Type}{o:Option α}{Q:α->Prop}{P:Prop}(h:Lf o Q)(k:∀ p,o=some p->Q p->P):P:=match o,h,k with
 |some p,h,k=>k p rfl h
theorem Lf.mk{α:Type}{o:Option α}{Q:α->Prop}{p:α}(e:o=some p)(q:Q p):Lf o Q:=by subst e;exact q
noncomputable def Lp(o:Option (V×MH))(Q:EK):Prop:=Lf o λp=>Q p.1 p.2
noncomputable def eN(x:Str):EF:=λlo H Q=>Lf (lo x) λv=>Q v H
theorem OV.elim{ρ:List Lc}{h:Heap}{u:Option Value}{w:Option V}{v:V}{P:Prop}(e:w=some v)(o:OV ρ h u w)(k:∀ x,u=some x->VR ρ h x v->P):P:=by
 subst e
 cases u with
 |none=>exact False.elim o
 |some x=>exact k x rfl o
theorem aAl{A:Around}{s:Shared}{ρ:List Lc}{lo:Lo}{x:Str}{v:V}{P:Prop}(F:Fm C env ρ s lo)(hx:lo x=some v)(hk:env.kindOf x=some .cell∨env.kindOf x=some .free)
  (k:∀ c o u,env.cells.lookup x=some c->s.heap.get? c=some o->o.data= .cell (some u)->VR ρ s.heap u v->P):P:=by
 refine cH (F.cl x hk) λc o u h1 h2 h3 h4=>?_
 exact h4.elim hx λu e r=>k c o u h1 h2 (h3.trans (by rw[e])) r
theorem sC{A:Around}{s:Shared}{ρ:List Lc}{lo:Lo}{x:Str}{v:V}{Q E:Value->Shared->Prop}(hk:env.kindOf x=some .local∨env.kindOf x=some .cell∨env.kindOf x=some .free)(hc:(x==("__classdict__" :Str))=false)
  (F:Fm C env ρ s lo) (hx:lo x=some v) (k:∀ u,VR ρ s.heap u v->Q u s):wpAny C.M A (loadName env x) Q E s:=by
 refine Or.elim hk (λhk=>?_) λz12=>Or.elim z12 (λhk=>?_) λhk=>?_
 ·refine xEA F.ns λm hns hm=>?_
  exact(hm x hk).elim hx λu e r=>wpAny_loadName_local F.fn hk hns e (k u r)
 ·exact aAl (A:=A) F hx (.inl hk) λc o u h1 h2 h3 r=>wpAny_loadName_cell F.fn hk h1 ⟨o,h2,h3⟩ (k u r)
 ·exact aAl (A:=A) F hx (.inr hk) λc o u h1 h2 h3 r=>wpAny_loadName_free F.fn hk h1 ⟨o,h2,h3⟩ (k u r) hc
theorem EV.name{x:Str}{pos}(hk:env.kindOf x=some .local∨env.kindOf x=some .cell∨env.kindOf x=some .free)(hd:(x==("__debug__" :Str))=false)(hc:(x==("__classdict__" :Str))=false):
  EV C r env (.Name x pos) (eN x):=λ_ _ _ _ _ _ _ S F q=>q.elim λ_ hx q=>wpAny_Name (sC hk hc F hx λ_ rv=>.here S rv q) hd
noncomputable abbrev OpF:=V->V->MH->Option (V×MH)
noncomputable def OpR(C:Cx)(r:Nat)(op:Value->Value->Sem Value)(g:OpF):Prop:=
 ∀ ⦃A:Around⦄⦃s:Shared⦄⦃ρ:List Lc⦄⦃H:MH⦄⦃a b:Value⦄⦃va vb:V⦄⦃Q:EK⦄,Room r A->Sim C H ρ s->VR ρ s.heap a va->VR ρ s.heap b vb->Lp (g va vb H) Q->
  wpAny C.M A (op a b) (bZ C ρ s Q) NoE s
theorem OpR.of{op:Value->Value->Sem Value}{g:OpF}(h:∀ {A:Around}{s:Shared}{ρ:List Lc}{H:MH}{a b:Value}{va vb v:V}{H':MH},Room r A->Sim C H ρ s->VR ρ s.heap a va->VR ρ s.heap b vb->g va vb H=some (v,H')->
  wpAny C.M A (op a b) (EPo C ρ s H' v) NoE s):OpR C r op g:=λ_ _ _ _ _ _ _ _ _ hr S ra rb q=>q.elim λ_ e q=>wmN (h hr S ra rb e) λ_ _ p=>p.post q
noncomputable def aB(g:OpF)(f1 f2:EF):EF:=λlo H Q=>f1 lo H λa H1=>f2 lo H1 λb H2=>Lp (g a b H2) Q
theorem EV.two{e1 e2:Expr}{f1 f2:EF}(h1:EV C r env e1 f1)(h2:EV C r env e2 f2){A:Around}{s:Shared}{ρ:List Lc}{H:MH}{lo:Lo}{Q:V->V->MH->Prop}{K:Value->Value->Shared->Prop}
  (hr:Room r A) (S:Sim C H ρ s) (F:Fm C env ρ s lo) (g:f1 lo H λa H1=>f2 lo H1 λb H2=>Q a b H2)
  (k:∀ {x y s2 ρ2 a b H2},Sim C H2 ρ2 s2->Nx ρ noW s ρ2 s2->VR ρ2 s2.heap x a->VR ρ2 s2.heap y b->Q a b H2->K x y s2):
  wpAny C.M A (eval e1 env) (λx s1=>wpAny C.M A (eval e2 env) (λy s2=>K x y s2) NoE s1) NoE s:=
 h1.run hr S F g λS1 N1 r1 g=>h2.run hr S1 (F.nx N1) g λS2 N2 r2 q=>k S2 (N1.trans N2) (r1.nx N2) r2 q
theorem EV.binOp{e1 e2:Expr}{op:Operator}{pos:Pos}{f1 f2:EF}{g:OpF}(h1:EV C r env e1 f1)(h2:EV C r env e2 f2)(ho:OpR C r (binaryOp op) g):EV C r env (.BinOp e1 op e2 pos) (aB g f1 f2):=
 λ_ _ _ _ _ _ hr S F q=>wpAny_BinOp (EV.two h1 h2 hr S F q λS2 N2 rx ry q=>wmN (ho hr S2 rx ry q) λ_ _ p=>p.from N2)
theorem EV.cmp1{e1 e2:Expr}{op:CmpOp}{pos:Pos}{f1 f2:EF}{g:OpF}(h1:EV C r env e1 f1)(h2:EV C r env e2 f2)(ho:OpR C r (compareOp op) g)(hm:behindInMarks op e2=false:=by exact rfl):EV C r env (.Compare e1 [op] [e2] pos) (aB g f1 f2):=
 λ_ _ _ _ _ _ hr S F q=>wpAny_Compare1 (EV.two h1 h2 hr S F q λS2 N2 rx ry q=>wmN (ho hr S2 rx ry q) λ_ _ p=>p.from N2) hm
noncomputable def Ti(v:V):Option Int:=match v with | .int x=>some x |_=>none
theorem VR.tiE{ρ:List Lc}{h:Heap}{u:Value}{v:V}{i:Int}(r:VR ρ h u v)(e:Ti v=some i):∃ t,u= .int i t:=by
 cases v with
 |int j=>cases e;exact r.inv
 |_=>first |exact aQ e |cases e
theorem VR.ti{ρ:List Lc}{h:Heap}{u:Value}{v:V}{i:Int}{P:Value->Prop}(r:VR ρ h u v)(e:Ti v=some i)(k:∀ t,P (.int i t)):P u:=let ⟨t,e⟩:=r.tiE e;e▸k t
noncomputable def o2(p:Int->Int->Bool)(f:Int->Int->V):OpF:=λa b H=>match Ti a,Ti b with |some x,some y=>if p x y then some (f x y,H) else none |_,_=>none
theorem aHl{p:Int->Int->Bool}{f:Int->Int->V}{a b v:V}{H H':MH}{P:Prop}(e:o2 p f a b H=some (v,H'))(k:∀ x y,Ti a=some x->Ti b=some y->p x y=true->v=f x y->H'=H->P):P:=by
 unfold o2 at e
 split at e
 ·rename_i x y h1 h2
  split at e
  ·rename_i hp;cases e;exact k x y h1 h2 hp rfl rfl
  ·first |exact aQ e |cases e
 ·first |exact aQ e |cases e
noncomputable def oAdd:OpF:=o2 (λ_ _=>true) λx y=>.int (x+y)
noncomputable def cI:OpF:=o2 (λ_ _=>true) λx y=>.int (x-y)
noncomputable def oMul:OpF:=o2 (λx _=>decide (-1000000000<x/\x<1000000000)) λx y=>.int (x*y)
noncomputable def k7:OpF:=o2 (λ_ y=>decide (0<y/\y<1000000000)) λx y=>.int (x/y)
noncomputable def i9:OpF:=o2 (λ_ y=>decide (0<y)) λx y=>.int (x%y)
theorem OpR.i2{op:Value->Value->Sem Value}{p:Int->Int->Bool}{f:Int->Int->V}
  (h:∀ {A:Around}{s:Shared}{ρ:List Lc}{x y:Int}{t u:Tok}{Q:Value->Shared->Prop},Room r A->p x y=true->(∀ z k,VR ρ s.heap z (f x y)->Q z {s with toks:=k})->wpAny C.M A (op (.int x t) (.int y u)) Q NoE s):OpR C r op (o2 p f):=
 by
  refine OpR.of ?_
  intro A s ρ H a b va vb v H' hr S ra rb e
  refine aHl e λx y h1 h2 hp hv hH=>?_
  subst hv hH
  exact VR.ti (P:=λa=>wpAny C.M A (op a b) _ _ _) ra h1 λt=>VR.ti (P:=λb=>wpAny C.M A (op _ b) _ _ _) rb h2 λu=>h hr hp λz k rz=>EPo.tok S rz
theorem OpR.sub:OpR C r (binaryOp .Sub) cI:=OpR.i2 λ_ _ k=>sub_int (k _ _ (.int _ _))
theorem OpR.mul:OpR C r (binaryOp .Mult) oMul:=OpR.i2 λ_ hp k=>by
 have hb:=of_decide_eq_true hp
 exact mul_int (k _ _ (.int _ _)) (.of_left (intBits_le_64 (Int.le_of_lt (Int.lt_trans (by decide) hb.1)) (Int.lt_trans hb.2 (by decide))))
theorem OpR.div:OpR C r (binaryOp .FloorDiv) k7:=OpR.i2 λ_ hp k=>by
 have hb:=of_decide_eq_true hp
 refine floordiv_int (Int.ne_of_gt hb.1) (k _ _ ?_) (.inl (PyProof.noPylong_small (by omega)))
 rw [Int.fdiv_eq_ediv_of_nonneg _ (Int.le_of_lt hb.1)]
 exact .int _ _
theorem OpR.mod:OpR C r (binaryOp .Mod) i9:=OpR.i2 λ_ hp k=>by
 have hb:=of_decide_eq_true hp
 refine mod_int' (Int.ne_of_gt hb) (k _ _ ?_)
 rw [Int.fmod_eq_emod_of_nonneg _ (Int.le_of_lt hb)]
 exact .int _ _
noncomputable def bW(f:Int->Int->Bool):OpF:=o2 (λ_ _=>true) λx y=>.bool (f x y)
theorem OpR.lt:OpR C r (compareOp .Lt) (bW λx y=>decide (x<y)):=OpR.i2 λ_ _ k=>lt_int (k _ _ (.bool _))
theorem OpR.le:OpR C r (compareOp .LtE) (bW λx y=>decide (x<=y)):=OpR.i2 λ_ _ k=>le_int (k _ _ (.bool _))
theorem OpR.gt:OpR C r (compareOp .Gt) (bW λx y=>decide (x>y)):=OpR.i2 λ_ _ k=>gt_int (k _ _ (.bool _))
theorem OpR.ge:OpR C r (compareOp .GtE) (bW λx y=>decide (x>=y)):=OpR.i2 λ_ _ k=>ge_int (k _ _ (.bool _))
end
section
open PySem PySem.W PyProof.Rows PySem.Calls PyProof
variable {C:Cx}{r:Nat}{env:Env}
noncomputable def MO.vs:MO->Option (List V) | .list vs=>some vs | .ro vs=>some vs |_=>none
noncomputable def MO.own:MO->Option (List V) | .list vs=>some vs |_=>none
noncomputable def V.rf:V->Option Nat | .ref i=>some i |_=>Option.none
noncomputable def lst(H:MH)(v:V):Option (List V):=v.rf.bind λi=>H[i]?.bind MO.vs
noncomputable def own(H:MH)(v:V):Option (List V):=v.rf.bind λi=>H[i]?.bind MO.own
theorem VR.toRef{ρ:List Lc}{h:Heap}{u:Value}{v:V}{i:Nat}(r:VR ρ h u v)(e:v.rf=some i):∃ l,v= .ref i/\u= .ref l.a/\ρ[i]? =some l:=by
 cases v with
 |ref n=>cases e;refine xEA r.inv λl h1 h2=>?_;exact⟨l,rfl,h1,h2⟩
 |_=>first |exact aQ e |cases e
theorem lst_mo{H:MH}{i:Nat}{vs:List V}(e:H[i]?.bind MO.vs=some vs):H[i]? =some (.list vs)∨H[i]? =some (.ro vs):=by
 refine xEA (Option.bind_eq_some_iff.mp e) λm h1 h2=>?_
 cases m with
 |list ws=>cases h2;exact .inl h1
 |ro ws=>cases h2;exact .inr h1
 |_=>cases h2
theorem i8{H:MH}{i:Nat}{vs:List V}(e:H[i]?.bind MO.own=some vs):H[i]? =some (.list vs):=by
 refine xEA (Option.bind_eq_some_iff.mp e) λm h1 h2=>?_
 cases m with
 |list ws=>cases h2;exact h1
 |_=>cases h2
theorem cZ{H:MH}{ρ:List Lc}{s:Shared}(S:Sim C H ρ s){u:Value}{v:V}{vs:List V}(r:VR ρ s.heap u v)(e:lst H v=some vs):
  ∃ a xs,u= .ref a/\s.heap.IsList a xs/\VRs ρ s.heap xs.toList vs:=by
 refine xEA (Option.bind_eq_some_iff.mp e) λi hi e=>?_
 refine dC (r.toRef hi) λl hv hu g=>?_
 refine Or.elim (lst_mo (i:=i) e) (λh=>?_) λh=>?_
 ·refine kB (S.objs i _ l h g) λ_ _ xs k hx rs=>?_;exact⟨_,xs,hu,⟨_,hx,rfl,_,rfl⟩,rs⟩
 ·refine r6 (S.objs i _ l h g) λ_ _ xs z13 rs=>?_;obtain⟨o,hx,q⟩:=z13;exact⟨_,xs,hu,⟨o,S.keep _ _ hx,q⟩,rs⟩
structure jR(H:MH)(ρ:List Lc)(s:Shared)(i:Nat)(l:Lc)(vs:List V)(xs:Array Value)(n:Nat):Prop where
 g:ρ[i]? =some l
 d:l.d=l.a
 gn:l.g=none
 h:H[i]? =some (.list vs)
 x:IsL s.heap l.a xs n
 r:VRs ρ s.heap xs.toList vs
theorem gP{H:MH}{ρ:List Lc}{s:Shared}(S:Sim C H ρ s){i:Nat}{l:Lc}{vs:List V}(g:ρ[i]? =some l)(h:H[i]? =some (.list vs)):∃ xs n,jR H ρ s i l vs xs n:=
 let ⟨h1,h2,xs,k,hx,rs⟩:=S.objs i _ l h g;⟨xs,k,g,h1,h2,h,hx,rs⟩
theorem xW{H:MH}{ρ:List Lc}{s:Shared}(S:Sim C H ρ s){u:Value}{v:V}{vs:List V}(r:VR ρ s.heap u v)(e:own H v=some vs):
  ∃ i l xs n,v= .ref i/\u= .ref l.a/\jR H ρ s i l vs xs n:=by
 refine xEA (Option.bind_eq_some_iff.mp e) λi hi e=>?_
 refine dC (r.toRef hi) λl hv hu g=>?_
 refine xEE (gP S g (i8 (i:=i) e)) λxs n h=>?_;exact⟨i,l,xs,n,hv,hu,h⟩
theorem VRs.sz{ρ:List Lc}{h:Heap}{xs:Array Value}{vs:List V}(r:VRs ρ h xs.toList vs):xs.size=vs.length:=by rw[<-r.length];exact Array.length_toList.symm
noncomputable def aEg:V->Option PyData | .none=>some .none | .bool b=>some (.bool b) | .int i=>some (.int i) | .str s=>some (.str s) |_=>none
noncomputable def rd(H:MH):Nat->V->Option PyData
 |0,v=>aEg v
 |n+1,.tup vs=>(vs.mapM (rd H n)).map .tuple
 |n+1,.ref i=>(lst H (.ref i)).bind λvs=>(vs.mapM (rd H n)).map .list
 |_+1,v=>aEg v
theorem fA{ρ:List Lc}{h:Heap}{u:Value}{v:V}{d:PyData}(r:VR ρ h u v)(e:aEg v=some d):∃ as,Reads h u d as:=by
 cases v with
 |none=>cases e;cases(show u= .none from r.inv);exact⟨_,.none⟩
 |bool b=>cases e;cases(show u= .bool b from r.inv);exact⟨_,.bool b⟩
 |int i=>cases e;refine xE r.inv λt z14=>?_;subst z14;exact⟨_,.int i t⟩
 |str x=>cases e;refine xE r.inv λt z15=>?_;subst z15;exact⟨_,.str x t⟩
 |_=>first |exact aQ e |cases e
theorem i6{H:MH}{ρ:List Lc}{h:Heap}{n:Nat}(ih:∀ {u:Value}{v:V}{d:PyData},VR ρ h u v->rd H n v=some d->∃ as,Reads h u d as):
  ∀ {us:List Value}{vs:List V}{ds:List PyData},VRs ρ h us vs->vs.mapM (rd H n)=some ds->∃ as,ReadsAll h us ds as
 |_,_,_,.nil,e=>by cases e;exact⟨_,.nil⟩
 |_,_,_,.cons a b,e=>by
  simp only[List.mapM_cons,Option.bind_eq_bind,Option.bind_eq_some_iff,Option.pure_def,Option.some.injEq]at e
  refine aB8 e λd h1 ds h2 z16=>?_;clear e;subst z16
  refine xE (ih a h1) λas r1=>?_
  refine xE (i6 ih b h2) λbs r2=>?_
  exact⟨_,.cons r1 r2⟩
theorem hU{H:MH}{ρ:List Lc}{s:Shared}(S:Sim C H ρ s):∀ (n:Nat){u:Value}{v:V}{d:PyData},VR ρ s.heap u v->rd H n v=some d->∃ as,Reads s.heap u d as
 |0,_,_,_,r,e=>fA r e
 |n+1,u,v,d,r,e=>by
  cases r with
  |tup g rs=>
   refine xEA (Option.map_eq_some_iff.mp e) λds hm z17=>?_;subst z17
   refine xE (i6 (hU S n) rs hm) λas r2=>?_
   exact⟨_,.tuple g rfl rfl r2⟩
  |ref g=>
   refine xEA (Option.bind_eq_some_iff.mp e) λvs hl e=>?_
   refine xEA (Option.map_eq_some_iff.mp e) λds hm z18=>?_;subst z18
   refine b8 (cZ S (.ref g) hl) λa xs hu z19 rs=>?_;obtain⟨o,hx,hc,k,hd⟩:=z19
   refine xE (i6 (hU S n) rs hm) λas r2=>?_
   cases hu
   exact⟨_,.list hx hc hd r2⟩
  |none=>exact fA (ρ:=ρ) .none e
  |bool b=>exact fA (ρ:=ρ) (.bool b) e
  |int i t=>exact fA (ρ:=ρ) (.int i t) e
  |str x t=>exact fA (ρ:=ρ) (.str x t) e
  |_=>first |exact aQ e |cases e
noncomputable def eqD:Nat:=8
noncomputable def eqv(H:MH)(a b:V):Option Bool:=(rd H eqD a).bind λda=>(rd H eqD b).bind λdb=>if PySem.SeqAt.shaped da && PySem.SeqAt.shaped db then some (PyData.eqv da db) else none
noncomputable def bB(f:Bool->Bool):OpF:=λa b H=>(eqv H a b).map λt=>(.bool (f t),H)
theorem Room.units{r:Nat}{A:Around}(h:Room r A):A.units+64<cLine:=by have:=h.2.2;show A.units+64<9900;exact A1 this
theorem eqv_ok{H:MH}{ρ:List Lc}{s:Shared}{a b:Value}{va vb:V}{t:Bool}{P:Prop}(S:Sim C H ρ s)(ra:VR ρ s.heap a va)(rb:VR ρ s.heap b vb)(e:eqv H va vb=some t)
  (k:∀ da db as bs,Reads s.heap a da as->Reads s.heap b db bs->PySem.SeqAt.shaped da=true->PySem.SeqAt.shaped db=true->t=PyData.eqv da db->P):P:=by
 refine xEA (Option.bind_eq_some_iff.mp e) λda h1 e=>?_
 refine xEA (Option.bind_eq_some_iff.mp e) λdb h2 e=>?_
 refine xE (hU S _ ra h1) λas r1=>?_
 refine xE (hU S _ rb h2) λbs r2=>?_
 split at e
 ·rename_i hs
  exact k da db as bs r1 r2 (Bool.and_eq_true_iff.mp hs).1 (Bool.and_eq_true_iff.mp hs).2 (Option.some.inj e).symm
 ·first |exact aQ e |cases e
theorem OpR.eqB{op:Value->Value->Sem Value}{f:Bool->Bool}(h:∀ {A:Around}{s:Shared}{a b:Value}{da db:PyData}{as bs:List Addr}{Q:Value->Shared->Prop},Room r A->Reads s.heap a da as->Reads s.heap b db bs->PySem.SeqAt.shaped da=true->PySem.SeqAt.shaped db=true->
  Q (.bool (f (PyData.eqv da db))) s->wpAny C.M A (op a b) Q NoE s):OpR C r op (bB f):=by
 refine OpR.of ?_
 intro A s ρ H a b va vb v H' hr S ra rb e
 refine xEA (Option.map_eq_some_iff.mp e) λt e1 e2=>?_
 exact eqv_ok S ra rb e1 λda db as bs r1 r2 s1 s2 ht=>h hr r1 r2 s1 s2 (by cases e2;subst ht;exact .here S (.bool _))
theorem OpR.eq:OpR C r (compareOp .Eq) (bB id):=OpR.eqB λhr r1 r2 s1 s2 q=>eq_dataH r1 r2 s1 s2 hr.units q
theorem OpR.ne:OpR C r (compareOp .NotEq) (bB not):=OpR.eqB λhr r1 r2 s1 s2 q=>ne_dataH r1 r2 s1 s2 hr.units q
noncomputable def tr(v:V)(H:MH):Option Bool:=match v with
 | .none=>some false
 | .bool b=>some b
 | .int i=>some (i != 0)
 | .str x=>if x.length<1000000 then some ((x.length:Int) != 0) else none
 | .ref i=>(lst H (.ref i)).bind λvs=>if vs.length<1000000 then some (!vs.isEmpty) else none
 |_=>none
noncomputable abbrev TF:=Lo->MH->(Bool->MH->Prop)->Prop
inductive SN(C:Cx)(ρ:List Lc)(s:Shared)(H:MH)(s':Shared):Prop
 |mk (ρ':List Lc) (S:Sim C H ρ' s') (N:Nx ρ noW s ρ' s'):SN C ρ s H s'
inductive nN(C:Cx)(ρ:List Lc)(s:Shared)(Q:Bool->MH->Prop)(b:Bool)(s':Shared):Prop
 |mk {ρ':List Lc}{H':MH} (S:Sim C H' ρ' s') (N:Nx ρ noW s ρ' s') (q:Q b H'):nN C ρ s Q b s'
noncomputable def TV(C:Cx)(r:Nat)(env:Env)(e:Expr)(f:TF):Prop:=
 ∀ ⦃A:Around⦄⦃s:Shared⦄⦃ρ:List Lc⦄⦃H:MH⦄⦃lo:Lo⦄⦃Q:Bool->MH->Prop⦄,Room r A->Sim C H ρ s->Fm C env ρ s lo->f lo H Q->
  wpAny C.M A (isTrue e env (eval e env)) (nN C ρ s Q) NoE s
theorem TV.run{e:Expr}{f:TF}(h:TV C r env e f){A:Around}{s:Shared}{ρ:List Lc}{H:MH}{lo:Lo}{Q:Bool->MH->Prop}{K:Bool->Shared->Prop}{E:Value->Shared->Prop}(hr:Room r A)(S:Sim C H ρ s)(F:Fm C env ρ s lo)(q:f lo H Q)
  (k:∀ {b s' ρ' H'},Sim C H' ρ' s'->Nx ρ noW s ρ' s'->Q b H'->K b s'):wpAny C.M A (isTrue e env (eval e env)) K E s:=wmN (h hr S F q) λ_ _ ⟨S,N,q⟩=>k S N q
theorem nN.from{ρ ρ1:List Lc}{s s1:Shared}{Q:Bool->MH->Prop}{b:Bool}{s':Shared}(N:Nx ρ noW s ρ1 s1)(p:nN C ρ1 s1 Q b s'):nN C ρ s Q b s':=let ⟨S,N',q⟩:=p;⟨S,N.trans N',q⟩
theorem mB{A:Around}{s:Shared}{ρ:List Lc}{H:MH}{u:Value}{v:V}{b:Bool}{E:Value->Shared->Prop}{K:Bool->Shared->Prop}(S:Sim C H ρ s)(rv:VR ρ s.heap u v)(e:tr v H=some b)
  (k:∀ n,K b {s with toks:=n}):wpAny C.M A (truthy u) K E s:=by
 cases v with
 |none=>cases e;cases(show u= .none from rv.inv);exact PyProof.Rows.truthy_none (k s.toks)
 |bool b'=>cases e;cases(show u= .bool b from rv.inv);exact wpAny_truthy_bool (k s.toks)
 |int i=>cases e;refine xE rv.inv λt z20=>?_;subst z20;exact truthy_int (k s.toks)
 |str x=>
  refine xE rv.inv λt z21=>?_;subst z21
  have e:(if x.length<1000000 then some ((x.length:Int) != 0) else none)=some b:=e
  by_cases hl:x.length<1000000
  ·rw[if_pos hl]at e
   have e:=Option.some.inj e
   subst e
   exact PySem.P.truthy_str (by omega) (k _)
  ·rw[if_neg hl]at e;cases e
 |ref g=>
  refine xEA (Option.bind_eq_some_iff.mp e) λvs hl e=>?_
  refine b8 (cZ S rv hl) λa xs z22 h2 h3=>?_;subst z22
  by_cases hlen:vs.length<1000000
  ·rw[if_pos hlen]at e
   have hsz:=h3.sz
   refine wpAny_truthy_list h2 (by omega) ?_
   have hb:(! xs.isEmpty)=b:=by
    rw [<-Option.some.inj e]
    unfold Array.isEmpty
    rw [hsz]
    cases vs<;>rfl
   exact hb▸k _
  ·rw[if_neg hlen]at e;cases e
 |_=>first |exact aQ e |cases e
noncomputable def tE(f:EF):TF:=λlo H Q=>f lo H λv H1=>Lf (tr v H1) λb=>Q b H1
theorem m8{A:Around}{s s1:Shared}{ρ ρ1:List Lc}{H:MH}{u:Value}{v:V}{Q:Bool->MH->Prop}{E:Value->Shared->Prop}(S:Sim C H ρ1 s1)(N:Nx ρ noW s ρ1 s1)(rv:VR ρ1 s1.heap u v)(e:Lf (tr v H) λb=>Q b H):
  wpAny C.M A (truthy u) (nN C ρ s Q) E s1:=e.elim λb e q=>mB S rv e λ_=>⟨S.toks _,N.trans (.toks _),q⟩
theorem TV.val{e:Expr}{f:EF}(h:EV C r env e f)(he:isTrue e env (eval e env)=(do let v<-eval e env;standAt e.pos;holding [v] (truthy v)):=by exact rfl):TV C r env e (tE f):=
 λ_ _ _ _ _ _ hr S F g=>wpAny_isTrue_value (h.run hr S F g λS1 N1 r1 q=>m8 S1 N1 r1 q) he
noncomputable def sU(f:TF):TF:=λlo H Q=>f lo H λb H'=>Q (!b) H'
theorem TV.not{e:Expr}{pos:Pos}{f:TF}(h:TV C r env e f):TV C r env (.UnaryOp .Not e pos) (sU f):=
 λ_ _ _ _ _ _ hr S F g=>wpAny_isTrue_Not (h.run hr S F g λS N q=>⟨S,N,q⟩)
theorem TV.cmp1{e1 e2:Expr}{op:CmpOp}{pos:Pos}{f1 f2:EF}{g:OpF}(h1:EV C r env e1 f1)(h2:EV C r env e2 f2)(ho:OpR C r (compareOp op) g)(hm:behindInMarks op e2=false:=by exact rfl):TV C r env (.Compare e1 [op] [e2] pos) (tE (aB g f1 f2)):=
 λ_ _ _ _ _ _ hr S F q=>wpAny_isTrue_Compare1 (EV.two h1 h2 hr S F q λS2 N2 rx ry q=>bZ.run (ho hr S2 rx ry q) λS3 N3 r3 q=>m8 S3 (N2.trans N3) r3 q) hm
end
section
variable {C:Cx}{r:Nat}{env:Env}
noncomputable def aU(f g:TF):TF:=λlo H Q=>f lo H λb H1=>bif b then g lo H1 Q else Q false H1
noncomputable def tK(b:Bool):TF:=λ_ H Q=>Q b H
noncomputable def bK(C:Cx)(r:Nat)(env:Env)(op:BoolOp)(es:List Expr)(f:TF):Prop:=
 ∀ ⦃A:Around⦄⦃s:Shared⦄⦃ρ:List Lc⦄⦃H:MH⦄⦃lo:Lo⦄⦃Q:Bool->MH->Prop⦄,Room r A->Sim C H ρ s->Fm C env ρ s lo->f lo H Q->
  wpAny C.M A (allTrue op es env) (nN C ρ s Q) NoE s
theorem bK.and_nil:bK C r env .And [] (tK true):=λ_ _ _ _ _ _ _ S _ q=>wpAny_allTrue_And_nil ⟨S,.refl,q⟩
theorem bK.and_cons{e:Expr}{es:List Expr}{f g:TF}(h:TV C r env e f)(hs:bK C r env .And es g):bK C r env .And (e :: es) (aU f g):=
 λ_ _ _ _ _ _ hr S F q=>wpAny_allTrue_And_cons (h.run hr S F q λ{b _ _ _} S1 N1 q=>match b,q with
  |true,q=>wmN (hs hr S1 (F.nx N1) q) λ_ _ p=>p.from N1
  |false,q=>⟨S1,N1,q⟩)
theorem TV.boolOp{op:BoolOp}{es:List Expr}{pos:Pos}{f:TF}(h:bK C r env op es f):TV C r env (.BoolOp op es pos) f:=λ_ _ _ _ _ _ hr S F e=>wpAny_isTrue_BoolOp (h hr S F e)
noncomputable def eIf(t:TF)(f g:EF):EF:=λlo H Q=>t lo H λb H1=>bif b then f lo H1 Q else g lo H1 Q
theorem EV.ifExp{t e1 e2:Expr}{pos:Pos}{ft:TF}{f1 f2:EF}(ht:TV C r env t ft)(h1:EV C r env e1 f1)(h2:EV C r env e2 f2):EV C r env (.IfExp t e1 e2 pos) (eIf ft f1 f2):=
 λ_ _ _ _ _ _ hr S F q=>wpAny_IfExp (ht.run hr S F q λ{b _ _ _} S1 N1 q=>match b,q with
  |true,q=>wmN (h1 hr S1 (F.nx N1) q) λ_ _ p=>p.from N1
  |false,q=>wmN (h2 hr S1 (F.nx N1) q) λ_ _ p=>p.from N1)
noncomputable def eT(t:TF):EF:=λlo H Q=>t lo H λb H1=>Q (.bool b) H1
theorem EV.not{e:Expr}{pos:Pos}{f:EF}(h:EV C r env e f):EV C r env (.UnaryOp .Not e pos) (eT (sU (tE f))):=
 λ_ _ _ _ _ _ hr S F q=>wpAny_UnaryOp (h.run hr S F q λS1 N1 r1 q=>not_value (q.elim λ_ e q=>mB S1 r1 e λ_=>⟨S1.toks _,N1.trans (.toks _),.bool _,q⟩))
noncomputable def jV(f:EF):EF:=λlo H Q=>f lo H λv H1=>Lf (Ti v) λi=>Q (.int (-i)) H1
theorem EV.neg{e:Expr}{pos:Pos}{f:EF}(h:EV C r env e f):EV C r env (.UnaryOp .USub e pos) (jV f):=
 λ_ _ _ _ _ _ hr S F q=>wpAny_UnaryOp (h.run hr S F q λ{x s' _ _ _} S1 N1 r1 q=>q.elim λi e q=>VR.ti (P:=λx=>wpAny C.M _ (unaryOp .USub x) _ _ s') r1 e λt=>neg_int ⟨S1.toks _,N1.trans (.toks _),.int _ _,q⟩)
noncomputable abbrev EFs:=Lo->MH->(List V->MH->Prop)->Prop
noncomputable def esN:EFs:=λ_ H Q=>Q [] H
noncomputable def esC(f:EF)(g:EFs):EFs:=λlo H Q=>f lo H λv H1=>g lo H1 λvs H2=>Q (v :: vs) H2
inductive y4(C:Cx)(ρ:List Lc)(s:Shared)(Q:List V->MH->Prop)(xs:List Value)(s':Shared):Prop
 |mk {ρ':List Lc}{vs:List V}{H':MH} (S:Sim C H' ρ' s') (N:Nx ρ noW s ρ' s') (r:VRs ρ' s'.heap xs vs) (q:Q vs H'):y4 C ρ s Q xs s'
noncomputable def EVs(C:Cx)(r:Nat)(env:Env)(es:List Expr)(f:EFs):Prop:=
 ∀ ⦃A:Around⦄⦃s:Shared⦄⦃ρ:List Lc⦄⦃H:MH⦄⦃lo:Lo⦄⦃Q:List V->MH->Prop⦄⦃pos:Pos⦄,Room r A->Sim C H ρ s->Fm C env ρ s lo->f lo H Q->
  wpAny C.M A (spliced (backTo pos (starEach es env))) (y4 C ρ s Q) NoE s
theorem EVs.nil:EVs C r env [] esN:=λ_ _ _ _ _ _ _ _ S _ q=>wpAny_items_nil ⟨S,.refl,.nil,q⟩
theorem EVs.cons{e:Expr}{es:List Expr}{f:EF}{g:EFs}(h:EV C r env e f)(hs:EVs C r env es g)(he:starEach (e :: es) env=(false,eval e env) :: starEach es env:=by exact rfl):EVs C r env (e :: es) (esC f g):=
 λ_ _ _ _ _ _ _ hr S F q=>wpAny_items_cons (h.run hr S F q λS1 N1 r1 q=>wmN (hs hr S1 (F.nx N1) q) λ_ _ ⟨S2,N2,r2,q⟩=>⟨S2,N1.trans N2,.cons (r1.nx N2) r2,q⟩) he
noncomputable def bT(g:EFs):EF:=λlo H Q=>g lo H λvs H1=>vs.length<100/\Q (.tup vs) H1
theorem EV.tuple{es:List Expr}{k:Nat}{pos:Pos}{g:EFs}(h:EVs C r env es g):EV C r env (.Tuple es k pos) (bT g):=
 λ_ _ _ _ _ _ hr S F q=>wpAny_Tuple (wmN (h hr S F q) λxs s1 ⟨S1,N1,r1,hl,q⟩=>⟨by rw[r1.length,sizeLine_eq];exact A2 hl,S1.push _,N1.trans (.push _),.tup (Heap.get?_push_size _ rfl) (by simpa using r1.mono (List.prefix_refl _) (e9 _ _)),q⟩)
noncomputable def mkL(vs:List V)(H:MH):Option (V×MH):=if vs.length<1000000 then some (.ref H.length,H++[.list vs]) else none
theorem jA{vs:List V}{H:MH}{p:V×MH}{P:Prop}(e:mkL vs H=some p)(k:vs.length<1000000->p=(.ref H.length,H++[.list vs])->P):P:=by
 unfold mkL at e
 split at e
 ·rename_i h;exact k h (Option.some.inj e).symm
 ·first |exact aQ e |cases e
noncomputable def gU(g:EFs):EF:=λlo H Q=>g lo H λvs H1=>Lp (mkL vs H1) Q
theorem Sim.newList{H:MH}{ρ:List Lc}{s:Shared}{xs:Array Value}{vs:List V}(S:Sim C H ρ s)(hr:VRs ρ s.heap xs.toList vs):
  EPo C ρ s (H++[.list vs]) (.ref H.length) (.ref s.heap.objs.size) {s with heap:=s.heap.push {cls:=.type "list",data:=.seq xs}}:=by
 refine⟨ρ++[⟨s.heap.objs.size,s.heap.objs.size,none⟩],S.alloc {cls:=.type "list",data:=.seq xs} (.list vs) ⟨rfl,rfl,xs,0,Heap.get?_push_size _ rfl,hr.mono (List.prefix_append _ _) (e9 _ _)⟩,.alloc _,?_⟩
 exact VR.ref (l:=⟨s.heap.objs.size,s.heap.objs.size,none⟩) (by rw[<-S.len];simp)
theorem EV.list{es:List Expr}{pos:Pos}{g:EFs}(h:EVs C r env es g):EV C r env (.List es pos) (gU g):=
 λ_ _ _ _ _ _ hr S F q=>wpAny_List (wmN (h hr S F q) λxs s1 ⟨S1,N1,r1,q⟩=>q.elim λp e q=>jA e λhl e=>by
  subst e
  exact⟨by rw[r1.length,sizeLine_eq];exact A3 hl,((S1.newList (by simpa using r1)).from N1).post q⟩)
noncomputable def aH:OpF:=λa b H=>match Ti a,Ti b with
 |some x,some y=>some (.int (x+y),H)
 |_,_=>(own H a).bind λxs=>(own H b).bind λys=>mkL (xs++ys) H
theorem OpR.add:OpR C r (binaryOp .Add) aH:=by
 refine OpR.of ?_
 intro A s ρ H a b va vb v H' hr S ra rb e
 unfold aH at e
 split at e
 ·rename_i x y h1 h2
  cases e
  exact VR.ti (P:=λa=>wpAny C.M A (binaryOp .Add a b) _ _ _) ra h1 λt=>VR.ti (P:=λb=>wpAny C.M A (binaryOp .Add _ b) _ _ _) rb h2 λu=>add_int (.tok S (.int _ _))
 ·refine xEA (Option.bind_eq_some_iff.mp e) λxs h1 e=>?_
  refine xEA (Option.bind_eq_some_iff.mp e) λys h2 e=>?_
  refine jA e λhl e=>?_
  cases e
  refine jS (xW S ra h1) λi l us n _ z23 o1=>?_;subst z23
  refine jS (xW S rb h2) λj l' us' n' _ z24 o2=>?_;subst z24
  have e1:=o1.r.sz;have e2:=o2.r.sz
  rw [List.length_append]at hl
  exact PySem.P.add_list o1.x o2.x (S.newList (by rw[Array.toList_append];exact o1.r.append o2.r)) (by rw[sizeLine_eq];exact A4 hl e1 e2)
end
section
variable {C:Cx}{r:Nat}{env:Env}
inductive Fl where
 |next |brk |cont |ret (v:V)
inductive FlR(ρ:List Lc)(h:Heap):Flow->Fl->Prop
 |next:FlR ρ h .next .next
 |brk:FlR ρ h .brk .brk
 |cont:FlR ρ h .cont .cont
 |ret {u v} (r:VR ρ h u v):FlR ρ h (.ret u) (.ret v)
noncomputable abbrev SK:=Fl->Lo->MH->Prop
noncomputable abbrev SF:=Lo->MH->SK->Prop
inductive nO(C:Cx)(env:Env)(ρ:List Lc)(s:Shared)(Q:SK)(f:Flow)(s':Shared):Prop
 |mk {ρ':List Lc}{fl:Fl}{lo':Lo}{H':MH} (S:Sim C H' ρ' s') (N:Nx ρ (Wr env) s ρ' s') (F:Fm C env ρ' s' lo') (r:FlR ρ' s'.heap f fl) (q:Q fl lo' H'):nO C env ρ s Q f s'
noncomputable def SV(C:Cx)(r:Nat)(env:Env)(st:Stmt)(f:SF):Prop:=
 ∀ ⦃A:Around⦄⦃s:Shared⦄⦃ρ:List Lc⦄⦃H:MH⦄⦃lo:Lo⦄⦃Q:SK⦄,Room r A->Sim C H ρ s->Fm C env ρ s lo->f lo H Q->
  wpAny C.M A (exec st env) (nO C env ρ s Q) NoE s
noncomputable def SVs(C:Cx)(r:Nat)(env:Env)(st:List Stmt)(f:SF):Prop:=
 ∀ ⦃A:Around⦄⦃s:Shared⦄⦃ρ:List Lc⦄⦃H:MH⦄⦃lo:Lo⦄⦃Q:SK⦄,Room r A->Sim C H ρ s->Fm C env ρ s lo->f lo H Q->
  wpAny C.M A (execs st env) (nO C env ρ s Q) NoE s
theorem nO.from{ρ ρ1:List Lc}{s s1:Shared}{Q:SK}{f:Flow}{s':Shared}(N:Nx ρ (Wr env) s ρ1 s1)(p:nO C env ρ1 s1 Q f s'):nO C env ρ s Q f s':=let ⟨S,N',F,r,q⟩:=p;⟨S,N.trans N',F,r,q⟩
theorem Nx.wr{ρ ρ':List Lc}{s s':Shared}{W:Addr->Prop}(N:Nx ρ noW s ρ' s'):Nx ρ W s ρ' s':=N.weaken λ_ q=>q.elim
noncomputable def upd(lo:Lo)(x:Str)(v:V):Lo:=λy=>if y=x then some v else lo y
theorem dJ{h h':Heap}{a:Addr}{o:Obj}(hs:Heap.SameBut a h h')(ho:h.get? a=some o)(hi: ¬aW o):Imm h h':=λb x e i=>by
 by_cases q:b=a
 ·subst q;rw[ho]at e;cases e;exact absurd i hi
 ·rw[hs.2 b q];exact e
theorem Sim.side{H:MH}{ρ:List Lc}{s:Shared}{h':Heap}{k:Nat}{a:Addr}{o:Obj}(S:Sim C H ρ s)(hs:Heap.SameBut a s.heap h')(ho:s.heap.get? a=some o)(hi: ¬aW o)(hown: ¬Own ρ a)(hb:C.base.heap.get? a=none):
  Sim C H ρ {s with heap:=h',toks:=k}:=by
 refine S.same (λb x e q=>?_) (dJ hs ho hi) (λ_ _ e=>e) rfl S.bare
 have:b≠a:=by
  rintro rfl
  refine Or.elim q (λq=>?_) λq=>?_
  ·exact hown q
  ·rw[hb]at q;cases q
 show h'.get? b=some x
 rw [hs.2 b this];exact e
theorem Nx.side{ρ:List Lc}{W:Addr->Prop}{s:Shared}{h':Heap}{k:Nat}{a:Addr}{o:Obj}(hs:Heap.SameBut a s.heap h')(ho:s.heap.get? a=some o)(hi: ¬aW o)(hw:W a)(ha:∃ o',h'.get? a=some o'):Nx ρ W s ρ {s with heap:=h',toks:=k}:=
 ⟨List.prefix_refl _,λl hl=>by simp at hl,λb x e _ hb=>by
  have:b≠a:=by rintro rfl;exact hb hw
  show h'.get? b=some x
  rw [hs.2 b this];exact e,dJ hs ho hi,λb x e=>by
  by_cases q:b=a
  ·rw[q];exact ha
  ·exact⟨x,by show h'.get? b=some x;rw[hs.2 b q];exact e⟩⟩
inductive dX(C:Cx)(env:Env)(W:Addr->Prop)(ρ:List Lc)(s:Shared)(Q:Lo->MH->Prop)(u:Unit)(s':Shared):Prop
 |mk {ρ':List Lc}{lo':Lo}{H':MH} (S:Sim C H' ρ' s') (N:Nx ρ W s ρ' s') (F:Fm C env ρ' s' lo') (q:Q lo' H'):dX C env W ρ s Q u s'
theorem dX.from{W:Addr->Prop}{ρ ρ1:List Lc}{s s1:Shared}{Q:Lo->MH->Prop}{s':Shared}{x:Unit}(N:Nx ρ W s ρ1 s1)(p:dX C env W ρ1 s1 Q x s'):dX C env W ρ s Q x s':=let ⟨S,N',F,q⟩:=p;⟨S,N.trans N',F,q⟩
theorem dX.run{α:Type}{W:Addr->Prop}{M:Model}{A:Around}{t:Sem Unit}{ρ:List Lc}{s:Shared}{Q:Lo->MH->Prop}{K:Unit->Shared->Prop}{E:Value->Shared->Prop}(h:wpAny M A t (dX C env W ρ s Q) NoE s)
  (k:∀ {x s' ρ' lo' H'},Sim C H' ρ' s'->Nx ρ W s ρ' s'->Fm C env ρ' s' lo'->Q lo' H'->K x s'):wpAny M A t K E s:=wmN h λ_ _ ⟨S,N,F,q⟩=>k S N F q
theorem hO{A:Around}{s:Shared}{ρ:List Lc}{H:MH}{lo:Lo}{x:Str}{u:Value}{v:V}{W:Addr->Prop}{K:Unit->Shared->Prop}{E:Value->Shared->Prop}(S:Sim C H ρ s)(F:Fm C env ρ s lo)(rv:VR ρ s.heap u v)
  (hk:(env.kindOf x=some .local/\W env.locals)∨(env.kindOf x=some .cell/\∀ c,env.cells.lookup x=some c->W c)) (k:∀ s',Sim C H ρ s'->Nx ρ W s ρ s'->Fm C env ρ s' (upd lo x v)->K () s'):wpAny C.M A (storeName env x u) K E s:=by
 rcases hk with ⟨hk,hW⟩ |⟨hk,hW⟩
 ·refine xEA F.ns λm hns hm=>?_
  refine fX (id hns) λo es ep ho hd hr=>?_
  have hi: ¬aW o:=by unfold aW;rw[hd];exact id
  refine wpAny_storeName_local hk hns (λh' hn hs=>?_) (by rw[F.fn];rfl)
  have fw:=F.own _ (.inl rfl)
  have im:=dJ hs ho hi
  refine k _ (S.side hs ho hi fw.1 fw.2) (.side hs ho hi hW (let ⟨o2,_,_,g,_⟩:=hn;⟨o2,g⟩)) ⟨F.fn,F.gl,F.bi,⟨_,hn,λy hy=>?_⟩,λy hy=>?_,F.own,F.dis,F.inj,λb hb=>?_⟩
  ·by_cases q:y=x
   ·simp only[upd,if_pos q];exact rv.mono (List.prefix_refl _) im
   ·simp only[upd,if_neg q];exact(hm y hy).mono (List.prefix_refl _) im
  ·refine cH (F.cl y hy) λc o' u' h1 h2 h3 h4=>?_
   have q:y≠x:=by rintro rfl;rw[hk]at hy;refine Or.elim hy (λhy=>?_) λhy=>?_<;>cases hy
   exact⟨c,o',u',h1,(hs.2 c (F.dis y c h1)).trans h2,h3,by simp only[upd,if_neg q];exact h4.mono (List.prefix_refl _) im⟩
  ·by_cases q:b=env.locals
   ·refine iS hn λo2 _ _ g _=>?_;rw[q];exact⟨o2,g⟩
   ·refine xE (F.alv b hb) λo2 g=>?_;exact⟨o2,(hs.2 b q).trans g⟩
 ·refine cH (F.cl x (.inl hk)) λc o u' h1 h2 h3 h4=>?_
  have hi: ¬aW o:=by unfold aW;rw[h3];exact id
  refine wpAny_storeName_cell F.fn hk h1 ⟨o,h2,h3⟩ (λh' hc hs=>?_)
  have fw:=F.own c (.inr ⟨x,h1⟩)
  have im:=dJ hs h2 hi
  refine k _ (S.side (k:=s.toks) hs h2 hi fw.1 fw.2) (.side (k:=s.toks) hs h2 hi (hW c h1) (let ⟨o2,g,_⟩:=hc;⟨o2,g⟩)) ⟨F.fn,F.gl,F.bi,?_,λy hy=>?_,F.own,F.dis,F.inj,λb hb=>?_⟩
  ·refine xEA F.ns λm hns hm=>?_
   refine⟨m,hns.sameBut hs (Ne.symm (F.dis x c h1)),λy hy=>?_⟩
   have q:y≠x:=by rintro rfl;rw[hk]at hy;cases hy
   simp only[upd,if_neg q];exact(hm y hy).mono (List.prefix_refl _) im
  ·by_cases q:y=x
   ·refine xEA hc λo2 g1 g2=>?_
    exact⟨c,o2,some u,q▸h1,g1,g2,by simp only[upd,if_pos q];exact rv.mono (List.prefix_refl _) im⟩
   ·refine cH (F.cl y hy) λc' o' u'' g1 g2 g3 g4=>?_
    exact⟨c',o',u'',g1,(hs.2 c' (λz=>q (F.inj y x c' g1 (z▸h1)))).trans g2,g3,by simp only[upd,if_neg q];exact g4.mono (List.prefix_refl _) im⟩
  ·by_cases q:b=c
   ·refine xEA hc λo2 g _=>?_;rw[q];exact⟨o2,g⟩
   ·refine xE (F.alv b hb) λo2 g=>?_;exact⟨o2,(hs.2 b q).trans g⟩
theorem uW{x:Str}(hk:env.kindOf x=some .local∨env.kindOf x=some .cell):(env.kindOf x=some .local/\Wr env env.locals)∨(env.kindOf x=some .cell/\∀ c,env.cells.lookup x=some c->Wr env c):=
 hk.imp (λh=>⟨h,.inl rfl⟩) λh=>⟨h,λ_ e=>.inr ⟨_,e⟩⟩
theorem aC8{A:Around}{s:Shared}{ρ:List Lc}{H:MH}{lo:Lo}{x:Str}{u:Value}{v:V}{Q:Lo->MH->Prop}(S:Sim C H ρ s)(F:Fm C env ρ s lo)(rv:VR ρ s.heap u v)(hk:env.kindOf x=some .local∨env.kindOf x=some .cell)(q:Q (upd lo x v) H):
  wpAny C.M A (storeName env x u) (dX C env (Wr env) ρ s Q) NoE s:=hO S F rv (uW hk) λ_ S N F=>⟨S,N,F,q⟩
noncomputable def sK(fl:Fl):SF:=λlo H Q=>Q fl lo H
theorem SV.brk{pos}:SV C r env (.Break pos) (sK .brk):=λ_ _ _ _ _ _ _ S F q=>wpAny_Break ⟨S,.refl,F,.brk,q⟩
theorem SV.cont{pos}:SV C r env (.Continue pos) (sK .cont):=λ_ _ _ _ _ _ _ S F q=>wpAny_Continue ⟨S,.refl,F,.cont,q⟩
noncomputable def fM(f:EF):SF:=λlo H Q=>f lo H λv H1=>Q (.ret v) lo H1
theorem SV.ret{e:Expr}{pos}{f:EF}(h:EV C r env e f):SV C r env (.Return (some e) pos) (fM f):=
 λ_ _ _ _ _ _ hr S F q=>wpAny_Return_some (h.run hr S F q λS1 N1 r1 q=>⟨S1,N1.wr,F.nx N1,.ret r1,q⟩)
theorem SV.ret0{pos}:SV C r env (.Return none pos) (sK (.ret .none)):=λ_ _ _ _ _ _ _ S F q=>wpAny_Return_none ⟨S,.refl,F,.ret .none,q⟩
noncomputable def aX(x:Str)(f:EF):SF:=λlo H Q=>f lo H λv H1=>Q .next (upd lo x v) H1
theorem SV.assign{x:Str}{e:Expr}{pos pos'}{f:EF}(h:EV C r env e f)(hk:env.kindOf x=some .local∨env.kindOf x=some .cell:=by exact .inl ⋯)(hs:swapsWith e (some (.Name x pos')) pos.line env=pure false:=by exact rfl):SV C r env (.Assign [.Name x pos'] e pos) (aX x f):=
 λ_ _ _ _ _ _ hr S F q=>wpAny_Assign_Name (h.run hr S F q λS1 N1 r1 q=>hO S1 (F.nx N1) r1 (uW hk) λ_ S2 N2 F2=>⟨S2,N1.wr.trans N2,F2,.next,q⟩) hs
noncomputable def sIf(t:TF)(f g:SF):SF:=λlo H Q=>t lo H λb H1=>bif b then f lo H1 Q else g lo H1 Q
theorem SV.ite{t:Expr}{b1 b2:List Stmt}{pos}{ft:TF}{f g:SF}(ht:TV C r env t ft)(h1:SVs C r env b1 f)(h2:SVs C r env b2 g):SV C r env (.If t b1 b2 pos) (sIf ft f g):=
 λ_ _ _ _ _ _ hr S F q=>wpAny_If (ht.run hr S F q λ{b _ _ _} S1 N1 q=>match b,q with
  |true,q=>wmN (h1 hr S1 (F.nx N1) q) λ_ _ p=>p.from N1.wr
  |false,q=>wmN (h2 hr S1 (F.nx N1) q) λ_ _ p=>p.from N1.wr)
noncomputable def bH(g:SF)(Q:SK):SK:=λfl lo H=>match fl with | .next=>g lo H Q |fl=>Q fl lo H
noncomputable def aD(f g:SF):SF:=λlo H Q=>f lo H (bH g Q)
theorem SVs.nil:SVs C r env [] (sK .next):=λ_ _ _ _ _ _ _ S F q=>wpAny_execs_nil ⟨S,.refl,F,.next,q⟩
theorem SVs.cons{st:Stmt}{rest:List Stmt}{f g:SF}(h:SV C r env st f)(hs:SVs C r env rest g):SVs C r env (st :: rest) (aD f g):=by
 intro A s ρ H lo Q hr S F q
 rw [execs_cons]
 refine wpAny_bind (wmN (h hr S F q) λfw s1 p=>?_)
 obtain⟨S1,N1,F1,r1,q⟩:=p
 cases r1 with
 |next=>exact wmN (hs hr S1 F1 q) λ_ _ p=>p.from N1
 |brk=>exact wpAny_pure ⟨S1,N1,F1,.brk,q⟩
 |cont=>exact wpAny_pure ⟨S1,N1,F1,.cont,q⟩
 |ret r1=>exact wpAny_pure ⟨S1,N1,F1,.ret r1,q⟩
end
section
variable {C:Cx}{r:Nat}{env:Env}
theorem Sim.ext{H:MH}{ρ:List Lc}{s:Shared}{h':Heap}{k:Nat}(S:Sim C H ρ s)(hk:∀ b o,s.heap.get? b=some o->h'.get? b=some o):Sim C H ρ {s with heap:=h',toks:=k}:=
 S.same (λb o e _=>hk b o e) (eE hk) (λ_ _ e=>e) rfl S.bare
theorem Nx.ext{ρ:List Lc}{W:Addr->Prop}{s:Shared}{h':Heap}{k:Nat}(hk:∀ b o,s.heap.get? b=some o->h'.get? b=some o):Nx ρ W s ρ {s with heap:=h',toks:=k}:=
 ⟨List.prefix_refl _,λl hl=>by simp at hl,λb o e _ _=>hk b o e,eE hk,λb o e=>⟨o,hk b o e⟩⟩
theorem aFk{h h':Heap}(e:Heap.ExtBut h.objs.size h h'):∀ b o,h.get? b=some o->h'.get? b=some o:=
 λb o q=>e b o (Nat.ne_of_lt (Heap.lt_size q)) q
noncomputable def at_(k:Int)(vs:List V):Option V:=if-1000000<k/\k<1000000 then(seqIndex? k vs.length).bind λj=>vs[j]? else none
noncomputable def V.tp:V->Option (List V) | .tup vs=>some vs |_=>Option.none
noncomputable def aI:OpF:=λa b H=>(Ti b).bind λk=>(match a.tp with |some vs=>at_ k vs |none=>(lst H a).bind (at_ k)).map λv=>(v,H)
theorem xJ{k:Int}{n j:Nat}(h:seqIndex? k n=some j):(0<=k/\j=k.toNat/\j<n)∨(k<0/\ -(n:Int)<=k/\j=(k+n).toNat/\j<n):=by
 unfold seqIndex? at h
 by_cases q:k<0
 ·simp only[q,if_true]at h
  split at h
  ·rename_i g;cases h;simp at g;right;exact A5 g
  ·cases h
 ·simp only[q,if_false]at h
  split at h
  ·rename_i g;cases h;simp at g;left;exact A6 g
  ·cases h
theorem aAo{k:Int}{vs:List V}{v:V}{P:Prop}(e:at_ k vs=some v)(h:∀ j,-1000000<k->k<1000000->seqIndex? k vs.length=some j->vs[j]? =some v->P):P:=by
 unfold at_ at e
 split at e
 ·rename_i hk
  refine xEA (Option.bind_eq_some_iff.mp e) λj h1 h2=>?_
  exact h j hk.1 hk.2 h1 h2
 ·first |exact aQ e |cases e
theorem VR.toTup{ρ:List Lc}{h:Heap}{u:Value}{v:V}{vs:List V}(r:VR ρ h u v)(e:v.tp=some vs):∃ a xs n,v= .tup vs/\u= .ref a/\h.get? a=some {cls:=.type "tuple",data:=.seq xs n}/\VRs ρ h xs.toList vs:=by
 cases v with
 |tup ws=>cases e;refine fX r.inv λa xs n h1 h2 h3=>?_;exact⟨a,xs,n,rfl,h1,h2,h3⟩
 |_=>first |exact aQ e |cases e
theorem yI{A:Around}{s:Shared}{ρ:List Lc}{H:MH}{a b:Value}{va vb v:V}{H':MH}(S:Sim C H ρ s)(ra:VR ρ s.heap a va)(rb:VR ρ s.heap b vb)(e:aI va vb H=some (v,H')):
  H'=H/\∃ x,VR ρ s.heap x v/\(∀ Q:Value->Shared->Prop,Q x s->wpAny C.M A (getItem a b) Q NoE s)/\∃ T id,s.TypeIs a T/\typeLookup (.type T) "__getitem__" =pure (some (.builtin id)):=by
 refine xEA (Option.bind_eq_some_iff.mp e) λk hb e1=>?_
 refine xEA (Option.map_eq_some_iff.mp e1) λw e3 e2=>?_
 clear e e1
 cases e2
 refine VR.ti (P:=λb=>H=H/\∃ x,VR ρ s.heap x v/\(∀ Q:Value->Shared->Prop,Q x s->wpAny C.M A (getItem a b) Q NoE s)/\∃ T id,s.TypeIs a T/\typeLookup (.type T) "__getitem__" =pure (some (.builtin id))) rb hb λt=>⟨rfl,?_⟩
 split at e3
 ·rename_i vs hvs
  refine cH (ra.toTup hvs) λad xs n _ z25 g rs=>?_;subst z25
  refine aAo e3 λj h1 h2 hj hv=>?_
  refine xEA (rs.get hv) λx hx rx=>?_
  refine⟨x,rx,λQ q=>?_,"tuple",_,⟨_,g,rfl⟩,slot_tuple_getitem.lookup⟩
  exact PyProof.Rows.getItem_tuple ⟨_,g,rfl,_,rfl⟩ (by omega) (by omega) (by rw[rs.sz];exact hj) (by simpa using hx) q
 ·refine xEA (Option.bind_eq_some_iff.mp e3) λvs hl e4=>?_
  refine b8 (cZ S ra hl) λad xs z26 h2 h3=>?_;subst z26
  have hlen:=h3.sz
  refine aAo e4 λj k1 k2 hj hv=>?_
  refine xEA (h3.get hv) λx hx rx=>?_
  refine⟨x,rx,λQ q=>?_,"list",_,h2.typeIs,slot_list_getitem.lookup⟩
  rcases xJ hj with ⟨h0,rfl,hlt⟩ |⟨h0,h1,rfl,hlt⟩
  ·exact wpAny_getItem_list h2 h0 (by omega) (by simpa using hx) q
  ·exact wpAny_getItem_list_neg h2 h0 (A7 hlen h1) (by omega) (by rw[hlen];simpa using hx) q
theorem EV.idx{e1 e2:Expr}{pos:Pos}{f1 f2:EF}(h1:EV C r env e1 f1)(h2:EV C r env e2 f2)(hs:∀ o i,∃ ops,subscripted e2 false o i=operate ops (getItem o i):=by exact λ_ _=>⟨_,rfl⟩):EV C r env (.Subscript e1 e2 pos) (aB aI f1 f2):=
 λ_ _ _ _ _ _ hr S F q=>Subscript_ (EV.two h1 h2 hr S F q λ{x y s2 _ _ _ _} S2 N2 rx ry q=>q.elim λp e q=>by
  obtain⟨hH,z,rz,hz,T,id,hT,hl⟩:=yI (A:=_) S2 rx ry e
  refine xE (hs x y) λops ho=>?_
  exact tail_any hT hl (hz _ ⟨S2,N2,rz,hH▸q⟩) ho)
noncomputable abbrev AF:=V->Lo->MH->(Lo->MH->Prop)->Prop
noncomputable def AVW(C:Cx)(W:Env->Addr->Prop)(r:Nat)(env:Env)(t:Expr)(f:AF):Prop:=
 ∀ ⦃A:Around⦄⦃s:Shared⦄⦃ρ:List Lc⦄⦃H:MH⦄⦃lo:Lo⦄⦃u:Value⦄⦃v:V⦄⦃Q:Lo->MH->Prop⦄,Room r A->Sim C H ρ s->Fm C env ρ s lo->VR ρ s.heap u v->f v lo H Q->
  wpAny C.M A (assign t env u) (dX C env (W env) ρ s Q) NoE s
noncomputable abbrev AV(C:Cx)(r:Nat)(env:Env)(t:Expr)(f:AF):Prop:=AVW C Wr r env t f
noncomputable def aN(x:Str):AF:=λv lo H Q=>Q (upd lo x v) H
theorem AV.name{x:Str}{pos}(hk:env.kindOf x=some .local∨env.kindOf x=some .cell:=by exact .inl ⋯):AV C r env (.Name x pos) (aN x):=λ_ _ _ _ _ _ _ _ _ S F rv q=>wpAny_assign_Name (aC8 S F rv hk q)
noncomputable abbrev AFs:=List V->Lo->MH->(Lo->MH->Prop)->Prop
noncomputable def nY(C:Cx)(W:Env->Addr->Prop)(r:Nat)(env:Env)(ts:List Expr)(f:AFs):Prop:=
 ∀ ⦃A:Around⦄⦃s:Shared⦄⦃ρ:List Lc⦄⦃H:MH⦄⦃lo:Lo⦄⦃us:List Value⦄⦃vs:List V⦄⦃Q:Lo->MH->Prop⦄,Room r A->Sim C H ρ s->Fm C env ρ s lo->VRs ρ s.heap us vs->f vs lo H Q->
  wpAny C.M A (assignInOrder ((assignEach ts env).map (·.2)) us) (dX C env (W env) ρ s Q) NoE s
noncomputable abbrev AVs(C:Cx)(r:Nat)(env:Env)(ts:List Expr)(f:AFs):Prop:=nY C Wr r env ts f
noncomputable def asN:AFs:=λvs lo H Q=>match vs with | []=>Q lo H |_=>False
noncomputable def asC(f:AF)(g:AFs):AFs:=λvs lo H Q=>match vs with
 |v :: vs=>f v lo H λlo1 H1=>g vs lo1 H1 Q
 | []=>False
variable {W:Env->Addr->Prop}
theorem nY.nil:nY C W r env [] asN:=by
 intro A s ρ H lo us vs Q hr S F rv e
 cases rv with
 |nil=>exact wpAny_pure ⟨S,.refl,F,e⟩
 |cons _ _=>exact e.elim
theorem nY.cons{t:Expr}{ts:List Expr}{f:AF}{g:AFs}(h:AVW C W r env t f)(hs:nY C W r env ts g)(he:assignEach (t :: ts) env=(false,assign t env) :: assignEach ts env):nY C W r env (t :: ts) (asC f g):=by
 intro A s ρ H lo us vs Q hr S F rv e
 cases rv with
 |nil=>exact e.elim
 |cons a b=>
  rename_i u us v vs
  rw [he]
  show wpAny C.M A (do holding us (assign t env u);assignInOrder ((assignEach ts env).map (·.2)) us) _ _ s
  exact wpAny_bind (wpAny_holding (dX.run (α:=Unit) (h hr S F a e) λS1 N1 F1 q=>wmN (hs hr S1 F1 (b.nx N1) q) λ_ _ p=>p.from N1))
theorem AVs.nil:AVs C r env [] asN:=nY.nil
theorem AVs.cons{t:Expr}{ts:List Expr}{f:AF}{g:AFs}(h:AV C r env t f)(hs:AVs C r env ts g)(he:assignEach (t :: ts) env=(false,assign t env) :: assignEach ts env:=by exact rfl):AVs C r env (t :: ts) (asC f g):=nY.cons h hs he
noncomputable def yZ(n:Nat)(g:AFs):AF:=λv lo H Q=>Lf v.tp λvs=>vs.length=n/\g vs lo H Q
theorem AVW.tuple{ts:List Expr}{k:Nat}{pos}{n:Nat}{g:AFs}(h:nY C W r env ts g)(hn:(assignEach ts env).length=n)(hstar:(assignEach ts env).findIdx? (·.1)=none):AVW C W r env (.Tuple ts k pos) (yZ n g):=
 λA s ρ H lo u v Q hr S F rv e=>e.elim λvs hv e=>by
  refine cH (rv.toTup hv) λa xs nn _ z27 gt rs=>?_;subst z27
  refine assign_Tuple_tuple hr.1 ⟨_,gt,rfl,_,rfl⟩ (by rw[hn,rs.sz];exact e.1.symm) hstar λh' he=>?_
  have hk:=aFk he
  exact wmN (h hr (S.ext (k:=s.toks) hk) (F.nx (.ext hk)) (rs.mono (List.prefix_refl _) (eE hk)) e.2) λ_ _ p=>p.from (.ext hk)
end
section
variable {C:Cx}{r:Nat}{env:Env}
structure NxI(ρ:List Lc)(X:Addr->Prop)(s:Shared)(ρ':List Lc)(s':Shared):Prop where
 pre:ρ<+:ρ'
 new:∀ l∈ρ'.drop ρ.length,s.heap.get? l.a=none/\s.heap.get? l.d=none
 kp:∀ b o,s.heap.get? b=some o->¬Own ρ b->¬X b->s'.heap.get? b=some o
 imm:Imm s.heap s'.heap
 al:∀ b o,s.heap.get? b=some o->¬X b->∃ o',s'.heap.get? b=some o'
noncomputable abbrev NK(σ:Type):=Option (V×σ)->MH->Prop
inductive qW(C:Cx){σ:Type}(mid:List Lc->Shared->σ->Value->Value->(Addr->Prop)->Prop)(ρ:List Lc)(s:Shared)(X:Addr->Prop)(x:Value)(Q:NK σ):Option Value->Shared->Prop
 |done {s' ρ' H'} (S:Sim C H' ρ' s') (I:NxI ρ X s ρ' s') (q:Q none H'):qW C mid ρ s X x Q none s'
 |item {s' ρ' H' v it' u} (S:Sim C H' ρ' s') (I:NxI ρ X s ρ' s') (r:VR ρ' s'.heap u v) (m:mid ρ' s' it' u x X) (q:Q (some (v,it')) H'):qW C mid ρ s X x Q (some u) s'
structure ItK(C:Cx) where
 σ:Type
 nx:σ->MH->NK σ->Prop
 rel:List Lc->Shared->σ->Value->(Addr->Prop)->Prop
 mid:List Lc->Shared->σ->Value->Value->(Addr->Prop)->Prop
 tg:Expr->Prop
 need:Nat
 mono:∀ {ρ ρ' s s' it x X},rel ρ s it x X->ρ<+:ρ'->Imm s.heap s'.heap->(∀ b o,X b->s.heap.get? b=some o->s'.heap.get? b=some o)->rel ρ' s' it x X
 alive:∀ {ρ s it x X},rel ρ s it x X->∀ b,X b->∃ o,s.heap.get? b=some o
 next:∀ {A:Around}{s ρ H it x X}{Q:NK σ}{r:Nat},need<=r->Room r A->Sim C H ρ s->rel ρ s it x X->(∀ b,X b->¬Own ρ b/\C.base.heap.get? b=none)->nx it H Q->
  wpAny C.M A (pyNext x) (qW C mid ρ s X x Q) NoE s
 lgo:∀ {A:Around}{s ρ H it x X u}{target:Expr}{r:Nat},Room r A->Sim C H ρ s->mid ρ s it u x X->tg target->(∀ b,X b->¬Own ρ b/\C.base.heap.get? b=none)->
  wpAny C.M A (letOwnedTupleGo target x u) (λ_ s'=>Sim C H ρ s'/\NxI ρ X s ρ s'/\rel ρ s' it x X) NoE s
noncomputable abbrev IF(K:ItK C):=Lo->MH->(K.σ->MH->Prop)->Prop
inductive y1(K:ItK C)(ρ:List Lc)(s:Shared)(Q:K.σ->MH->Prop)(y:Value)(s2:Shared):Prop
 |mk {ρ':List Lc}{X:Addr->Prop}{it:K.σ}{H':MH} (S:Sim C H' ρ' s2) (N:Nx ρ noW s ρ' s2) (R:K.rel ρ' s2 it y X) (hX:∀ b,X b->s.heap.get? b=none/\¬Own ρ' b/\C.base.heap.get? b=none) (q:Q it H'):y1 K ρ s Q y s2
noncomputable def IV(K:ItK C)(r:Nat)(env:Env)(e:Expr)(f:IF K):Prop:=
 ∀ ⦃A:Around⦄⦃s:Shared⦄⦃ρ:List Lc⦄⦃H:MH⦄⦃lo:Lo⦄⦃Q:K.σ->MH->Prop⦄,Room r A->Sim C H ρ s->Fm C env ρ s lo->f lo H Q->
  wpAny C.M A (eval e env) (λx s1=>wpAny C.M A (pyIter x) (y1 K ρ s Q) NoE s1) NoE s
theorem eA{H:MH}{ρ:List Lc}{s:Shared}(S:Sim C H ρ s){b:Addr}(h:s.heap.get? b=none): ¬Own ρ b:=sF (l:=⟨b,b,none⟩) S h h (.inl rfl)
theorem dS{H:MH}{ρ:List Lc}{s:Shared}(S:Sim C H ρ s){b:Addr}(h:s.heap.get? b=none):C.base.heap.get? b=none:=kU S h
theorem Sim.iterStep{H:MH}{ρ:List Lc}{s:Shared}{h':Heap}{a:Addr}(S:Sim C H ρ s)(hk:∀ b o,b≠a->s.heap.get? b=some o->h'.get? b=some o)(hi:∀ o,s.heap.get? a=some o->¬aW o)(ho: ¬Own ρ a)(hb:C.base.heap.get? a=none):
  Sim C H ρ {s with heap:=h'}/\NxI ρ (λb=>b=a) s ρ {s with heap:=h'}:=by
 have im:Imm s.heap h':=λb o e i=>by
  by_cases q:b=a
  ·subst q;exact absurd i (hi o e)
  ·exact hk b o q e
 refine⟨S.same (λb o e q=>hk b o ?_ e) im (λ_ _ e=>e) rfl S.bare,⟨List.prefix_refl _,λl hl=>by simp at hl,λb o e _ q=>hk b o q e,im,λb o e q=>⟨o,hk b o q e⟩⟩⟩
 rintro rfl
 refine Or.elim q (λq=>?_) λq=>?_
 ·exact ho q
 ·rw[hb]at q;cases q
theorem NxI.refl{ρ:List Lc}{X:Addr->Prop}{s:Shared}:NxI ρ X s ρ s:=
 ⟨List.prefix_refl _,λl hl=>by simp at hl,λ_ _ e _ _=>e,.refl _,λ_ o e _=>⟨o,e⟩⟩
noncomputable def pM:List String:=["enumerate","zip","dict_itemiterator","dict_reverseitemiterator","odict_iterator","itertools.zip_longest","itertools.pairwise"]
theorem jU{M:Model}{A:Around}{s:Shared}{target:Expr}{a:Addr}{u:Value}{o:Obj}{T:String}{Q:Unit->Shared->Prop}{E:Value->Shared->Prop}(ho:s.heap.get? a=some o)(hc:o.cls= .type T)(hT:pM.contains T=false)(h:Q () s):
  wpAny M A (letOwnedTupleGo target (.ref a) u) Q E s:=by
 have key:wpAny M A (do
   let (.ref r,.ref b):=(Value.ref a,u) |return
   let o<-load r
   match o.cls,o.data with
   | .type n,.fields vs=>
    if ["enumerate","zip","dict_itemiterator","dict_reverseitemiterator","odict_iterator","itertools.zip_longest","itertools.pairwise"].contains n && vs[0]? ==some (rawInt b) then
     rule "for.unpacks-the-owned-tuple"
     updateField r 0 .none
   |_,_=>pure ():Sem Unit) Q E s:=by
  cases u with
  |ref b=>
   refine wpAny_bind (wpAny_load ho ?_)
   rw [hc]
   have hT': ["enumerate","zip","dict_itemiterator","dict_reverseitemiterator","odict_iterator","itertools.zip_longest","itertools.pairwise"].contains T=false:=hT
   cases o.data<;>first |exact wpAny_pure h | (dsimp only;rw[hT'];exact wpAny_pure h)
  |_=>exact wpAny_pure h
 cases target<;>first |exact wpAny_pure h |exact key
theorem c4{H1:MH}{ρ ρ1:List Lc}{s s1:Shared}(N1:Nx ρ noW s ρ1 s1)(S1:Sim C H1 ρ1 s1){b:Addr}(hb:s1.heap.get? b=none):s.heap.get? b=none/\¬Own ρ1 b/\C.base.heap.get? b=none:=by
 refine⟨?_,eA S1 hb,dS S1 hb⟩
 cases e':s.heap.get? b with
 |none=>rfl
 |some o=>refine xE (N1.al _ _ e') λo' e''=>?_;rw[hb]at e'';cases e''
structure ItP(C:Cx)(σ:Type) where
 nx:σ->MH->Option (Option (V×σ))
 rel:List Lc->Shared->σ->Addr->Prop
 T:String
 own:pM.contains T=false
 mono:∀ {ρ ρ' s s' it a},rel ρ s it a->ρ<+:ρ'->Imm s.heap s'.heap->(∀ o,s.heap.get? a=some o->s'.heap.get? a=some o)->rel ρ' s' it a
 obj:∀ {ρ s it a},rel ρ s it a->∃ o,s.heap.get? a=some o/\o.cls= .type T/\¬aW o
 item:∀ {A:Around}{s ρ H it a v it'}{Q:Option Value->Shared->Prop},A.handled=none->Sim C H ρ s->rel ρ s it a->nx it H=some (some (v,it'))->
  (∀ u h' k,Heap.SameBut a s.heap h'->VR ρ s.heap u v->(∀ s':Shared,s'.heap=h'->Imm s.heap h'->rel ρ s' it' a)->Q (some u) {s with heap:=h',toks:=k})->wpAny C.M A (pyNext (.ref a)) Q NoE s
 fin:∀ {A:Around}{s ρ H it a}{Q:Option Value->Shared->Prop},A.handled=none->Sim C H ρ s->rel ρ s it a->nx it H=some none->
  (∀ h',Heap.ExtBut a s.heap h'->Q none {s with heap:=h'})->wpAny C.M A (pyNext (.ref a)) Q NoE s
theorem Sim.iterK{H:MH}{ρ:List Lc}{s:Shared}{h':Heap}{a:Addr}{k:Nat}(S:Sim C H ρ s)(hk:∀ b o,b≠a->s.heap.get? b=some o->h'.get? b=some o)(hi:∀ o,s.heap.get? a=some o->¬aW o)(ho: ¬Own ρ a)(hb:C.base.heap.get? a=none):
  Sim C H ρ {s with heap:=h',toks:=k}/\NxI ρ (λb=>b=a) s ρ {s with heap:=h',toks:=k}:=
 let ⟨S',I⟩:=S.iterStep hk hi ho hb;⟨S'.toks k,⟨I.pre,I.new,I.kp,I.imm,I.al⟩⟩
noncomputable def ItP.it{σ:Type}(P:ItP C σ):ItK C where
 σ:=σ
 nx:=λit H Q=>Lf (P.nx it H) λy=>Q y H
 rel:=λρ s it x X=>∃ a,x= .ref a/\X=(λb=>b=a)/\P.rel ρ s it a
 mid:=λρ s it u x X=>∃ a,x= .ref a/\X=(λb=>b=a)/\P.rel ρ s it a
 tg:=λ_=>True
 need:=0
 mono:=λ⟨a,hx,hX,h⟩ e i hk=>⟨a,hx,hX,P.mono h e i λo q=>hk a o (hX▸rfl) q⟩
 alive:=λ⟨a,_,hX,h⟩ b hb=>by subst hX;subst hb;refine xEA (P.obj h) λo ho _=>?_;exact⟨o,ho⟩
 next:=by
  rintro A s ρ H it x X Q r _ hr S ⟨a,rfl,rfl,h⟩ hX e
  refine dC (P.obj h) λo ho hc hi=>?_
  have hi':∀ o,s.heap.get? a=some o->¬aW o:=λo' e'=>by rw[ho]at e';cases e';exact hi
  have hXa:=hX a rfl
  refine e.elim λy ey q=>?_
  cases y with
  |some p=>
   refine P.item hr.1 S h ey λu h' k hs ru hrel=>?_
   refine xA (S.iterK (h':=h') (k:=k) (λb o hb e=>by rw[hs.2 b hb];exact e) hi' hXa.1 hXa.2) λS' I=>?_
   exact .item S' I (ru.mono (List.prefix_refl _) I.imm) ⟨a,rfl,rfl,hrel _ rfl I.imm⟩ q
  |none=>
   refine P.fin hr.1 S h ey λh' he=>?_
   refine xA (S.iterK (h':=h') (k:=s.toks) (λb o hb e=>he b o hb e) hi' hXa.1 hXa.2) λS' I=>?_
   exact .done S' I q
 lgo:=by
  rintro A s ρ H it x X u target r hr S ⟨a,rfl,rfl,h⟩ _ hX
  refine dC (P.obj h) λo ho hc hi=>?_
  exact jU ho hc P.own ⟨S,.refl,a,rfl,rfl,h⟩
noncomputable def pList(C:Cx):ItP C (Nat×Nat) where
 nx:=λit H=>(lst H (.ref it.1)).map λvs=>(vs[it.2]?).map λv=>(v,(it.1,it.2+1))
 rel:=λρ s it a=>∃ l,ρ[it.1]? =some l/\s.heap.IsListIter a l.a it.2
 T:="list_iterator"
 own:=by decide
 mono:=λ⟨l,h1,o,h2,h3⟩ e i hk=>⟨l,aO e h1,o,hk o h2,h3⟩
 obj:=λ⟨l,h1,o,h2,h3,h4⟩=>⟨o,h2,h3,by unfold aW;rw[h4];simp [h3]⟩
 item:=λhh S ⟨l,h1,hit⟩ e k=>by
  refine xEA (Option.map_eq_some_iff.mp e) λvs hl e=>?_
  refine xEA (Option.map_eq_some_iff.mp e) λv hv e=>?_
  cases e
  refine b8 (cZ S (.ref h1) hl) λad xs q1 q2 q3=>?_
  cases q1
  refine xEA (q3.get hv) λu hu ru=>?_
  exact wpAny_pyNext_list_item hit q2 (by simpa using hu) λh' hit2 hs=>k u h' _ hs ru λs' hs' _=>⟨l,h1,hs'▸hit2⟩
 fin:=λhh S ⟨l,h1,hit⟩ e k=>by
  refine xEA (Option.map_eq_some_iff.mp e) λvs hl e=>?_
  refine b8 (cZ S (.ref h1) hl) λad xs q1 q2 q3=>?_
  cases q1
  exact wpAny_pyNext_list_end hh hit q2 (Array.getElem?_eq_none (by rw[q3.sz];exact List.getElem?_eq_none_iff.mp (Option.map_eq_none_iff.mp e))) λh' he=>k h' he
noncomputable abbrev aT(C:Cx):ItK C:=(pList C).it
noncomputable def iL(f:EF):Lo->MH->(Nat×Nat->MH->Prop)->Prop:=λlo H Q=>f lo H λv H1=>Lf v.rf λi=>(∃ vs,lst H1 (.ref i)=some vs)/\Q (i,0) H1
theorem IV.list{e:Expr}{f:EF}(h:EV C r env e f):IV (aT C) r env e (iL f):=
 λ_ _ _ _ _ _ hr S F q=>h.run hr S F q λS1 N1 r1 q=>q.elim λi hi q=>by
  refine dC (r1.toRef hi) λl z28 z29 g=>?_;subst z28;subst z29
  refine xA q λz30 q=>?_;obtain⟨vs,hl⟩:=z30
  refine b8 (cZ S1 r1 hl) λad xs e q2 q3=>?_
  cases e
  exact wpAny_pyIter_list q2 ⟨S1.push _,N1.trans (.push _),⟨_,rfl,rfl,l,g,_,Heap.get?_push_size _ rfl,rfl,rfl⟩,λb hb=>by rw[show b=_ from hb];exact c4 N1 S1 (bJ _),q⟩
noncomputable def vW(again:Lo->MH->SK->Prop)(Q:SK):SK:=λfl lo H=>match fl with | .next=>again lo H Q | .cont=>again lo H Q | .brk=>Q .next lo H | .ret v=>Q (.ret v) lo H
noncomputable def cW(K:ItK C)(tgt:AF)(body:SF):Nat->K.σ->Lo->MH->SK->Prop
 |0,_,_,_,_=>False
 |n+1,it,lo,H,Q=>K.nx it H λres H1=>match res with
  |none=>Q .next lo H1
  |some p=>tgt p.1 lo H1 λlo1 H2=>body lo1 H2 (vW (cW K tgt body n p.2) Q)
noncomputable def aAp(C:Cx)(env:Env)(ρ0:List Lc)(s0:Shared)(Q:SK):Result->Shared->Prop
 | .ok f,s'=>nO C env ρ0 s0 Q f s'
 | .error _,_=>False
theorem Nx.stepI{ρ0 ρ ρ':List Lc}{W:Addr->Prop}{X:Addr->Prop}{s0 s s':Shared}(N:Nx ρ0 W s0 ρ s)(I:NxI ρ X s ρ' s')(hX:∀ b,X b->s0.heap.get? b=none):Nx ρ0 W s0 ρ' s':=by
 have nX:∀ {b:Addr}{o:Obj},s0.heap.get? b=some o->¬X b:=λe q=>by rw[hX _ q]at e;cases e
 refine⟨N.pre.trans I.pre,λl hl=>?_,λb o e ho hw=>I.kp b o (N.kp b o e ho hw) (N.own e ho) (nX e),N.imm.trans I.imm,λb o e=>let ⟨o',e'⟩:=N.al b o e;I.al b o' e' (nX e)⟩
 refine xE N.pre λt z31=>?_;subst z31
 refine xE I.pre λt' z32=>?_;subst z32
 rw [List.append_assoc,List.drop_left]at hl
 refine Or.elim (List.mem_append.mp hl) (λq=>?_) λq=>?_
 ·exact N.new l (by simpa using q)
 ·have n:=I.new l (by simpa using q)
  refine⟨?_,?_⟩
  ·cases e:s0.heap.get? l.a with
   |none=>rfl
   |some o=>refine xE (N.al _ _ e) λo' e'=>?_;rw[n.1]at e';cases e'
  ·cases e:s0.heap.get? l.d with
   |none=>rfl
   |some o=>refine xE (N.al _ _ e) λo' e'=>?_;rw[n.2]at e';cases e'
theorem Fm.nextI{ρ ρ':List Lc}{X:Addr->Prop}{s s':Shared}{lo:Lo}(F:Fm C env ρ s lo)(N:NxI ρ X s ρ' s')(hw:∀ b,Wr env b->¬X b):Fm C env ρ' s' lo:=by
 refine xEA F.ns λm z33 hm=>?_;obtain⟨o,es,ep,ho,hr⟩:=z33
 have k:∀ b o,Wr env b->s.heap.get? b=some o->s'.heap.get? b=some o:=λb o hb e=>N.kp b o e (F.own b hb).1 (hw b hb)
 have own:∀ {b:Addr}{o:Obj},s.heap.get? b=some o->¬Own ρ b->¬Own ρ' b:=by
  rintro b o hb h ⟨l,hl,hh⟩
  refine xE N.pre λt z34=>?_;subst z34
  refine Or.elim (List.mem_append.mp hl) (λq=>?_) λq=>?_
  ·exact h ⟨l,q,hh⟩
  ·have:=N.new l (by simpa using q)
   rcases hh with rfl |rfl
   ·rw[this.1]at hb;cases hb
   ·rw[this.2]at hb;cases hb
 refine⟨F.fn,F.gl,F.bi,⟨m,⟨o,es,ep,k _ _ (.inl rfl) ho,hr⟩,λx hx=>(hm x hx).mono N.pre N.imm⟩,λx hx=>?_,λb hb=>⟨(let ⟨o,e⟩:=F.alv b hb;own e (F.own b hb).1),(F.own b hb).2⟩,F.dis,F.inj,λb hb=>let ⟨o,e⟩:=F.alv b hb;⟨o,k b o hb e⟩⟩
 refine cH (F.cl x hx) λc o u h1 h2 h3 h4=>?_
 exact⟨c,o,u,h1,k _ _ (.inr ⟨x,h1⟩) h2,h3,h4.mono N.pre N.imm⟩
theorem NxI.owns{ρ ρ':List Lc}{X:Addr->Prop}{s s':Shared}(I:NxI ρ X s ρ' s'){b:Addr}{o:Obj}(e':s.heap.get? b=some o)(h: ¬Own ρ b): ¬Own ρ' b:=by
 rintro ⟨l,hl,hh⟩
 refine xE I.pre λt z35=>?_;subst z35
 refine Or.elim (List.mem_append.mp hl) (λz=>?_) λz=>?_
 ·exact h ⟨l,z,hh⟩
 ·have:=I.new l (by simpa using z)
  rcases hh with rfl |rfl
  ·rw[this.1]at e';cases e'
  ·rw[this.2]at e';cases e'
noncomputable def Apart(C:Cx)(env:Env)(ρ:List Lc)(s0:Shared)(X:Addr->Prop):Prop:=∀ b,X b->s0.heap.get? b=none/\¬Own ρ b/\C.base.heap.get? b=none/\¬Wr env b
theorem Apart.two{ρ:List Lc}{s0:Shared}{X:Addr->Prop}(h:Apart C env ρ s0 X):∀ b,X b->¬Own ρ b/\C.base.heap.get? b=none:=λb q=>⟨(h b q).2.1,(h b q).2.2.1⟩
theorem wE{K:ItK C}{target:Expr}{body:List Stmt}{tgt:AF}{bf:SF}(ht:AV C r env target tgt)(hb:SVs C r env body bf)(htg:K.tg target/\K.need<=r):
  ∀ (n:Nat){A:Around}{s0 s:Shared}{ρ0 ρ:List Lc}{H:MH}{lo:Lo}{it:K.σ}{x:Value}{X:Addr->Prop}{Q:SK},Room r A->Nx ρ0 (Wr env) s0 ρ s->Sim C H ρ s->Fm C env ρ s lo->
   K.rel ρ s it x X->Apart C env ρ s0 X->cW K tgt bf n it lo H Q->codeAny C.M A (.forLoop target x body [] env) (aAp C env ρ0 s0 Q) s
 |0,_,_,_,_,_,_,_,_,_,_,_,_,_,_,_,_,_,e=>e.elim
 |n+1,A,s0,s,ρ0,ρ,H,lo,it,x,X,Q,hr,N,S,F,R,hX,e=>by
  refine codeAny_of_tree ?_
  rw [Around.under_of_weight (c:=.forLoop target x body [] env) rfl rfl]
  show wpAny C.M A ((forTurn target x body [] env).onRaise (λx=>do noteFrame x env;theTreesLotGoes x)) _ _ s
  refine wpAny_onRaise (wpAny_mono (Q:=λfin s'=>match fin with
   | .done f=>aAp C env ρ0 s0 Q (.ok f) s'
   | .again c'=>c'.quiet=true/\codeAny C.M A c' (aAp C env ρ0 s0 Q) s') (E:=NoE) ?_ (λ_ _ z=>z) (λ_ _ z=>z.elim))
  unfold forTurn
  refine wpAny_bind (wpAny_standAt (wpAny_bind (wpAny_onRaise (wmN (K.next htg.2 hr S R hX.two e) λo s1 p=>?_))))
  cases p with
  |done S1 I1 q=>
   refine wpAny_pure ⟨rfl,codeAny_of_tree ?_⟩
   rw [Around.under_of_weight (c:=.block [] env) rfl rfl]
   show wpAny C.M A (do return Fin.done (<-(execs [] env).onRaise (λx=>do noteFrame x env;theTreesLotGoes x))) _ _ s1
   exact wpAny_bind (wpAny_onRaise (wpAny_execs_nil (wpAny_pure ⟨S1,N.stepI I1 (λb q=>(hX b q).1),F.nextI I1 (λb hw q=>(hX b q).2.2.2 hw),.next,q⟩)))
  |item S1 I1 ru R1 q=>
   have hX1:Apart C env _ s0 X:=λb q=>let ⟨o',e'⟩:=K.alive R b q;⟨(hX b q).1,I1.owns e' (hX b q).2.1,(hX b q).2.2⟩
   refine wpAny_bind (wmN (K.lgo (target:=target) hr S1 R1 htg.1 hX1.two) λ_ s2 p=>?_)
   refine xAA p λS2 I2 R2=>?_
   refine wpAny_bind (dX.run (α:=Unit) (ht hr S2 ((F.nextI I1 (λb hw q=>(hX b q).2.2.2 hw)).nextI I2 (λb hw q=>(hX1 b q).2.2.2 hw)) (ru.mono I2.pre I2.imm) q) λS3 N3 F3 q=>wpAny_bind (wmN (hb hr S3 F3 q) λf s4 p=>?_))
   obtain⟨S4,N4,F4,r4,q⟩:=p
   have N24:=N3.trans N4
   have N04:=((N.stepI I1 (λb q=>(hX b q).1)).stepI I2 (λb q=>(hX b q).1)).trans N24
   have go:∀ {q:cW K tgt bf n _ _ _ Q},codeAny C.M A (.forLoop target x body [] env) (aAp C env ρ0 s0 Q) s4:=λ{q}=>
    wE ht hb htg n hr N04 S4 F4 (K.mono R2 N24.pre N24.imm (λb o q e'=>N24.kp b o e' (hX1 b q).2.1 (hX b q).2.2.2))
     (λb z=>let ⟨o',e'⟩:=K.alive R2 b z;⟨(hX b z).1,N24.own e' (hX1 b z).2.1,(hX b z).2.2⟩) q
   cases r4 with
   |next=>exact wpAny_pure ⟨rfl,go (q:=q)⟩
   |cont=>exact wpAny_pure ⟨rfl,go (q:=q)⟩
   |brk=>exact wpAny_pure ⟨S4,N04,F4,.next,q⟩
   |ret r4=>exact wpAny_pure ⟨S4,N04,F4,.ret r4,q⟩
noncomputable def mP(K:ItK C)(fi:IF K)(tgt:AF)(bf:SF):SF:=λlo H Q=>fi lo H λit H1=>∃ n,cW K tgt bf n it lo H1 Q
theorem SV.for_{K:ItK C}{target iter:Expr}{body:List Stmt}{pos}{fi:IF K}{tgt:AF}{bf:SF}(hi:IV K r env iter fi)(ht:AV C r env target tgt)(hb:SVs C r env body bf)(htg:K.tg target/\K.need<=r)(hs:∀ x,foldedSetIterable iter env x=pure x):
  SV C r env (.For target iter body [] pos) (mP K fi tgt bf):=
 λ_ _ _ _ _ _ hr S F e=>wpAny_For (wmN (hi hr S F e) λx s1 h=>wmN h λy s2 ⟨S2,N2,R2,hX,q⟩=>by
  refine xE q λn q=>?_
  refine codeAny_mono (wE ht hb htg n hr N2.wr S2 (F.nx N2) R2 (λb q=>⟨(hX b q).1,(hX b q).2.1,(hX b q).2.2,λhw=>?_⟩) q) λrr s3 hL=>?_
  ·refine xE (F.alv b hw) λo e'=>?_;rw[(hX b q).1]at e';cases e'
  ·cases rr with
   |ok f=>exact hL
   |error _=>exact hL.elim) hs
end
section
variable {C:Cx}{r:Nat}{env:Env}
noncomputable def runW(t:TF)(b:SF):Nat->Lo->MH->SK->Prop
 |0,_,_,_=>False
 |n+1,lo,H,Q=>t lo H λc H1=>bif c then b lo H1 (vW (runW t b n) Q) else Q .next lo H1
noncomputable def mO(t:TF)(b:SF):SF:=λlo H Q=>∃ n,runW t b n lo H Q
inductive WInv(C:Cx)(env:Env)(t:TF)(b:SF)(Q:SK)(ρ:List Lc)(s:Shared)(n:Nat)(s1:Shared):Prop
 |mk {ρ1:List Lc}{H1:MH}{lo1:Lo} (S:Sim C H1 ρ1 s1) (N:Nx ρ (Wr env) s ρ1 s1) (F:Fm C env ρ1 s1 lo1) (e:runW t b n lo1 H1 Q):WInv C env t b Q ρ s n s1
theorem SV.while_{test:Expr}{body:List Stmt}{pos}{t:TF}{b:SF}(ht:TV C r env test t)(hb:SVs C r env body b):SV C r env (.While test body [] pos) (mO t b):=by
 intro A s ρ H lo Q hr S F e
 refine xE e λn e=>?_
 refine wpAny_While (codeAny_whileLoop (R:=λrr s'=>match rr with | .ok f=>nO C env ρ s Q f s' | .error e=>cameBackBy C.M A env NoE e s') (WInv C env t b Q ρ s) ?_ n ⟨S,.refl,F,e⟩)
 intro n s1 p
 obtain⟨S1,N1,F1,e⟩:=p
 cases n with
 |zero=>exact e.elim
 |succ n=>
  refine ht.run hr S1 F1 e λ{y _ _ _} S2 N2 e=>?_
  have N02:=N1.trans N2.wr
  cases y with
  |false=>exact wpAny_execs_nil ⟨S2,N02,F1.nx N2,.next,e⟩
  |true=>
   refine wmN (hb hr S2 (F1.nx N2) e) λf s3 p=>?_
   obtain⟨S3,N3,F3,r3,e⟩:=p
   cases r3 with
   |next=>exact⟨n,Nat.lt_succ_self _,S3,N02.trans N3,F3,e⟩
   |cont=>exact⟨n,Nat.lt_succ_self _,S3,N02.trans N3,F3,e⟩
   |brk=>exact⟨S3,N02.trans N3,F3,.next,e⟩
   |ret r3=>exact⟨S3,N02.trans N3,F3,.ret r3,e⟩
noncomputable def ALs(C:Cx)(r:Nat)(env:Env)(ts:List Expr)(f:AF):Prop:=
 ∀ ⦃A:Around⦄⦃s:Shared⦄⦃ρ:List Lc⦄⦃H:MH⦄⦃lo:Lo⦄⦃u:Value⦄⦃v:V⦄⦃Q:Lo->MH->Prop⦄,Room r A->Sim C H ρ s->Fm C env ρ s lo->VR ρ s.heap u v->f v lo H Q->
  wpAny C.M A (assignAll u ((assignEach ts env).map (·.2))) (dX C env (Wr env) ρ s Q) NoE s
theorem ALs.one{t:Expr}{f:AF}(h:AV C r env t f)(he:(assignEach [t] env).map (·.2)= [assign t env]:=by exact rfl):ALs C r env [t] f:=by
 intro A s ρ H lo u v Q hr S F rv e
 rw [he]
 exact h hr S F rv e
noncomputable def iZ(f g:AF):AF:=λv lo H Q=>f v lo H λlo1 H1=>g v lo1 H1 Q
theorem ALs.cons{t t2:Expr}{ts:List Expr}{f g:AF}(h:AV C r env t f)(hs:ALs C r env (t2 :: ts) g)(he:(assignEach (t :: t2 :: ts) env).map (·.2)=assign t env :: (assignEach (t2 :: ts) env).map (·.2))
  (hc:∃ x xs,(assignEach (t2 :: ts) env).map (·.2)=x :: xs):ALs C r env (t :: t2 :: ts) (iZ f g):=by
 intro A s ρ H lo u v Q hr S F rv e
 rw [he]
 have key:wpAny C.M A (do holding [u] (assign t env u);assignAll u ((assignEach (t2 :: ts) env).map (·.2))) (dX C env (Wr env) ρ s Q) NoE s:=
  wpAny_bind (wpAny_holding (dX.run (α:=Unit) (h hr S F rv e) λS1 N1 F1 q=>wmN (hs hr S1 F1 (rv.nx N1) q) λ_ _ p=>p.from N1))
 refine xEE hc λx xs hx=>?_
 rw [hx]at key ⊢
 exact key
noncomputable def cY(f:EF)(g:AF):SF:=λlo H Q=>f lo H λv H1=>g v lo H1 λlo' H2=>Q .next lo' H2
theorem SV.assigns{ts:List Expr}{e:Expr}{pos}{f:EF}{g:AF}(h:EV C r env e f)(ha:ALs C r env ts g)(hs:swapsWithSole ts e pos.line env=pure false:=by exact rfl)(hw:swappedStores ts e env=pure none:=by rfl'):
  SV C r env (.Assign ts e pos) (cY f g):=
 λ_ _ _ _ _ _ hr S F q=>wpAny_Assign_stores (h.run hr S F q λS1 N1 r1 q=>dX.run (α:=Unit) (ha hr S1 (F.nx N1) r1 q) λS2 N2 F2 q=>⟨S2,N1.wr.trans N2,F2,.next,q⟩) hs hw
noncomputable def upds:List Str->List V->Lo->Option Lo
 | [],[],lo=>some lo
 |x :: xs,v :: vs,lo=>upds xs vs (upd lo x v)
 |_,_,_=>none
theorem w3{A:Around}{Q:Lo->MH->Prop}:∀ {xs:List Str}{us:List Value}{vs:List V}{s:Shared}{ρ:List Lc}{H:MH}{lo lo':Lo},Sim C H ρ s->Fm C env ρ s lo->VRs ρ s.heap us vs->upds xs vs lo=some lo'->Q lo' H->
  (∀ x∈xs,env.kindOf x=some .local∨env.kindOf x=some .cell)->wpAny C.M A (assignInOrder (xs.map λn=>bindName env n) us) (dX C env (Wr env) ρ s Q) NoE s
 | [],_,_,s,ρ,H,lo,lo',S,F,.nil,e,q,_=>by cases e;exact wpAny_pure ⟨S,.refl,F,q⟩
 | [],_,_,s,ρ,H,lo,lo',S,F,.cons _ _,e,_,_=>by cases e
 |_ :: _,_,_,s,ρ,H,lo,lo',S,F,.nil,e,_,_=>by cases e
 |x :: xs,u :: us,v :: vs,s,ρ,H,lo,lo',S,F,.cons a b,e,q,hk=>by
  show wpAny C.M A (do holding us (bindName env x u);assignInOrder (xs.map λn=>bindName env n) us) _ _ s
  exact wpAny_bind (wpAny_holding (bindName_ (hO S F a (uW (hk x (.head _))) λ_ S1 N1 F1=>wmN (w3 S1 F1 (b.nx N1) e q (λy hy=>hk y (.tail _ hy))) λ_ _ p=>p.from N1)))
theorem VRs.rev{ρ:List Lc}{h:Heap}{us:List Value}{vs:List V}(r:VRs ρ h us vs):VRs ρ h us.reverse vs.reverse:=by
 induction us generalizing vs with
 |nil=>cases r;exact .nil
 |cons u us ih=>cases r with
  |cons a b=>simp only[List.reverse_cons];exact(ih b).append (.cons a .nil)
noncomputable def dZ(names:List Str)(f:EF):SF:=λlo H Q=>f lo H λv H1=>Lf v.tp λvs=>vs.length=names.length/\Lf (upds names.reverse vs.reverse lo) λlo'=>Q .next lo' H1
theorem SV.swap{elts:List Expr}{k:Nat}{tpos:Pos}{e:Expr}{pos}{names:List Str}{f:EF}(h:EV C r env e f)(hs:swapsWithSole [.Tuple elts k tpos] e pos.line env=pure false)(hw:swappedStores [.Tuple elts k tpos] e env=pure (some names))
  (hk:∀ x∈names,env.kindOf x=some .local∨env.kindOf x=some .cell):SV C r env (.Assign [.Tuple elts k tpos] e pos) (dZ names f):=
 λ_ _ _ _ _ _ hr S F q=>Assign_Tuple_swapped (h.run hr S F q λS1 N1 r1 q=>q.elim λvs hv q=>q.2.elim λlo1 h2 q2=>by
  refine cH (r1.toTup hv) λa xs nn _ z36 gt rs=>?_;subst z36
  rw [<-q.1,<-rs.sz]
  refine unpackItems_tuple hr.1 ⟨_,gt,rfl,_,rfl⟩ λh' he=>?_
  have hk':=aFk he
  exact dX.run (α:=Unit) (w3 (S1.ext hk') ((F.nx N1).nx (.ext hk')) (rs.mono (List.prefix_refl _) (eE hk')).rev h2 q2 (λx hx=>hk x (by simpa using hx))) λS2 N2 F2 q=>⟨S2,(N1.wr.trans (.ext hk')).trans N2,F2,.next,q⟩) hs hw
noncomputable def sAug(x:Str)(g:OpF)(f:EF):SF:=λlo H Q=>Lf (lo x) λa=>f lo H λb H2=>Lp (g a b H2) λv H1=>Q .next (upd lo x v) H1
theorem SV.aug{x:Str}{e:Expr}{op:Operator}{pos' pos}{f:EF}{g:OpF}(h:EV C r env e f)(ho:OpR C r (inplaceOp op) g)(hk:env.kindOf x=some .local∨env.kindOf x=some .cell)(hc:(x==("__classdict__" :Str))=false):SV C r env (.AugAssign (.Name x pos') op e pos) (sAug x g f):=
 λ_ _ _ _ _ _ hr S F q=>q.elim λa hx q=>wpAny_AugAssign_Name (sC (hk.imp_right .inl) hc F hx λu ru=>h.run hr S F q λS2 N2 r2 q=>bZ.run (ho hr S2 (ru.nx N2) r2 q) λS3 N3 r3 q=>
  hO S3 ((F.nx N2).nx N3) r3 (uW hk) λ_ S4 N4 F4=>⟨S4,(N2.trans N3).wr.trans N4,F4,.next,q⟩)
noncomputable def bO(f:EF):SF:=λlo H Q=>f lo H λ_ H1=>Q .next lo H1
theorem SV.expr{e:Expr}{pos}{f:EF}(h:EV C r env e f)(hi:interactive env=false:=by exact rfl)(hs:swapsWith e none pos.line env=pure false:=by exact rfl):SV C r env (.Expr e pos) (bO f):=
 λ_ _ _ _ _ _ hr S F q=>wpAny_Expr_any (h.run hr S F q λS1 N1 r1 q=>⟨S1,N1.wr,F.nx N1,.next,q⟩) hi hs
noncomputable def sNo:SF:=λ_ _ _=>False
theorem SVs.no{b:List Stmt}:SVs C r env b sNo:=λ_ _ _ _ _ _ _ _ _ q=>q.elim
end
section
section
variable {prog:Program}{w:World}{A:Around}{E:Value->Shared->Prop}{s:Shared}
theorem aDg{l:Addr}{items:Array Value}{n:Nat}{k:Int}{j:Nat}{t:Tok}{v:Value}{Q:Unit->Shared->Prop}(hl:IsL s.heap l items n)
  (hk: -1000000<k/\k<1000000) (hj:seqIndex? k items.size=some j)
  (hQ:Q () {s with heap:=s.heap.update l (Obj.mapSeq (·.setIfInBounds j v))}):
  wpAny (model prog w) A (setItem (.ref l) (.int k t) v) Q E s:=by
 have hl':=hl.isList
 refine y5 (id hl') λo ho hc ne hd=>?_
 have hlt:j<items.size:=by refine Or.elim (xJ hj) (λh=>?_) λh=>?_<;>omega
 have hx':items[j]? =some items[j]:=Array.getElem?_eq_getElem hlt
 unfold setItem
 try with_reducible refine wpAny_holding ?_
 first |refine wpAny_bind (wpAny_pure ?_) |skip
 refine wpAny_bind (wpAny_sequenceKey hl'.typeIs (by decide) ?_)
 refine wpAny_bind (wpAny_callSpecial?_slot (name:=Str.ofString "__setitem__") hl'.typeIs slot_list_setitem
  (wpAny_call_entry slot_list_setitem hl'.typeIs entry_list_setitem ?_ (args_list_setitem _ _ _)))
 show wpAny _ _ (Builtin.List.listSubscript? (.int k t) >>=_) _ _ s
 have fin:∀ {Q':Fin->Shared->Prop},Q' (.done (.ret .none)) {s with heap:=s.heap.update l (Obj.mapSeq (·.setIfInBounds j v))}->wpAny (model prog w) A.in1 (do setSeqItemAt l j v;return<-ret .none) Q' E s:=
  λh=>wpAny_bind (wpAny_setSeqItemAt ho hd (wpAny_pure h))
 rcases xJ hj with ⟨h0,e,_⟩ |⟨h0,h1,e,_⟩
 ·refine wpAny_bind (wpAny_listSubscript_int (fitsIndex_of h0 (by omega)) ?_)
  refine xE (Int.eq_ofNat_of_zero_le h0) λj' z37=>?_;subst z37
  have:j=j':=by simpa using e
  subst this
  show wpAny _ _ ((seqItemAt l j >>=λr=>pure (r.map (j,·))) >>=_) _ _ s
  refine wpAny_bind (wpAny_bind (wpAny_seqItemAt ho hd (wpAny_pure ?_)))
  rw [hx']
  show wpAny _ _ (setSeqItemAt l j v >>=_) _ _ s
  refine wpAny_bind (wpAny_setSeqItemAt ho hd ?_)
  first
   |exact wpAny_bind (wpAny_pure (wpAny_pure ⟨.none,rfl,wpAny_pure hQ⟩))
   |exact wpAny_pure ⟨.none,rfl,wpAny_pure hQ⟩
 ·refine wpAny_bind (wpAny_listSubscript_int (fitsIndex_neg h0 (by omega)) ?_)
  have hidx:=seqIndex_neg h0 h1
  obtain⟨j',rfl⟩:∃ j:Nat,k=Int.negSucc j:=by
   cases k with
   |ofNat n=>exact absurd h0 (Int.not_lt.mpr (Int.natCast_nonneg n))
   |negSucc n=>exact⟨n,rfl⟩
  show wpAny _ _ ((Builtin.List.listItems (.ref l) >>=λxs=>pure ((seqIndex? (Int.negSucc j') xs.size).bind λi=>xs[i]?.map (i,·))) >>=_) _ _ s
  refine wpAny_bind (wpAny_bind ?_)
  show wpAny _ _ (seqItems? (.ref l) >>=_) _ _ s
  refine wpAny_bind (wpAny_seqItems ho hd (wpAny_pure (wpAny_pure ?_)))
  rw [hj]
  simp only[Option.bind_some,hx',Option.map_some]
  refine wpAny_bind (wpAny_setSeqItemAt ho hd ?_)
  first
   |exact wpAny_bind (wpAny_pure (wpAny_pure ⟨.none,rfl,wpAny_pure hQ⟩))
   |exact wpAny_pure ⟨.none,rfl,wpAny_pure hQ⟩
end
variable {C:Cx}{r:Nat}{env:Env}
theorem Sim.put{H:MH}{ρ:List Lc}{s:Shared}{h':Heap}{k:Nat}{i:Nat}{l:Lc}{m m':MO}{o:Obj}(S:Sim C H ρ s)(hl:ρ[i]? =some l)(hH:H[i]? =some m)(hd:l.d=l.a)(ho:s.heap.get? l.a=some o)(hi: ¬aW o)
  (hs:Heap.SameBut l.a s.heap h') (hn:∃ o,h'.get? l.a=some o) (h1:∀ vs,m≠ .ro vs) (h2:∀ vs,m'≠ .ro vs) (hm:Imm s.heap h'->OR C ρ {s with heap:=h',toks:=k} l m'):
  Sim C (H.set i m') ρ {s with heap:=h',toks:=k}/\∀ W,Nx ρ W s ρ {s with heap:=h',toks:=k}:=by
 have im:=dJ hs ho hi
 refine⟨S.upd (s':= {s with heap:=h',toks:=k}) hl hH h1 (λb o e hb=>(hs.2 b λq=>hb (.inl q)).trans e) im rfl rfl (hm im) h2,
  λW=>⟨List.prefix_refl _,λl hl=>by simp at hl,λb o e ho _=>(hs.2 b λq=>ho ⟨l,List.mem_of_getElem? hl,.inl q⟩).trans e,im,λb o e=>?_⟩⟩
 by_cases q:b=l.a
 ·rw[q];exact hn
 ·exact⟨o,(hs.2 b q).trans e⟩
theorem jR.put{H:MH}{ρ:List Lc}{s:Shared}{i:Nat}{l:Lc}{vs vs':List V}{xs:Array Value}{n:Nat}{k:Nat}(S:Sim C H ρ s)(O:jR H ρ s i l vs xs n)(f:Array Value->Array Value)(hv:VRs ρ s.heap (f xs).toList vs'):
  Sim C (H.set i (.list vs')) ρ {s with heap:=s.heap.update l.a (Obj.mapSeq f),toks:=k}/\∀ W,Nx ρ W s ρ {s with heap:=s.heap.update l.a (Obj.mapSeq f),toks:=k}:=
 S.put O.g O.h O.d O.x (by simp [aW]) (Heap.SameBut.update ..) ⟨_,O.x.update f⟩ (by intro _ h;cases h) (by intro _ h;cases h) λim=>⟨O.d,O.gn,f xs,_,O.x.update f,hv.mono (List.prefix_refl _) im⟩
noncomputable def dput(f:Int->Option V)(k:Int)(v:V):Int->Option V:=λx=>if x=k then some v else f x
theorem oO(kvs:List (Int×Value))(k x:Int)(v:Value):valueAt (stored kvs k v) x=if x=k then some v else valueAt kvs x:=by
 unfold stored
 by_cases hk:kvs.any (λkv=>decide (kv.1=k))=true
 ·rw[if_pos hk]
  by_cases hx:x=k
  ·subst hx
   rw [if_pos rfl]
   induction kvs with
   |nil=>simp at hk
   |cons a t ih=>
    by_cases ha:a.1=x
    ·simp [valueAt,ha]
    ·have hk2:t.any (λkv=>decide (kv.1=x))=true:=by simpa [ha] using hk
     have:=ih hk2
     simp only[valueAt,List.map_cons,ha,if_false,List.find?_cons,decide_false]at this ⊢
     exact this
  ·rw[if_neg hx]
   clear hk
   induction kvs with
   |nil=>rfl
   |cons a t ih=>
    by_cases ha:a.1=k
    ·have hax: ¬a.1=x:=by rw[ha];exact λe=>hx e.symm
     simp only[valueAt,List.map_cons,ha,if_true,List.find?_cons]at ih ⊢
     have h1:decide (k=x)=false:=by simpa using λe=>hx e.symm
     simp only[h1]
     exact ih
    ·by_cases hax:a.1=x
     ·subst hax
      simp only[valueAt,List.map_cons,ha,if_false,List.find?_cons,decide_true,Option.map_some]
     ·simp only[valueAt,List.map_cons,ha,if_false,List.find?_cons,hax,decide_false]at ih ⊢
      exact ih
 ·rw[if_neg hk]
  unfold valueAt
  rw [List.find?_append]
  by_cases hx:x=k
  ·subst hx
   have:kvs.find? (λkv=>decide (kv.1=x))=none:=by
    rw [List.find?_eq_none];intro a ha h;exact hk (List.any_eq_true.mpr ⟨a,ha,h⟩)
   simp [this]
  ·have:decide (k=x)=false:=by simpa using λe=>hx e.symm
   simp [hx,this]
theorem Sim.setD{H:MH}{ρ:List Lc}{s:Shared}{h':Heap}{tk:Nat}{i:Nat}{l:Lc}{kvs:List (Int×Value)}{n:Nat}{f:Int->Option V}{k:Int}{u:Value}{v:V}(S:Sim C H ρ s)(hl:ρ[i]? =some l)(hH:H[i]? =some (.dict n f))(hd:l.d=l.a)(hg:l.g=none)
  (hx:s.heap.DictOf (intKind C.prog C.w) l.a kvs) (hn:kvs.length<=n) (hf:∀ k,OV ρ s.heap (valueAt kvs k) (f k)) (rv:VR ρ s.heap u v)
  (hx':h'.DictOf (intKind C.prog C.w) l.a (stored kvs k u)) (hs:Heap.SameBut l.a s.heap h'):
  Sim C (H.set i (.dict (n+1) (dput f k v))) ρ {s with heap:=h',toks:=tk}/\∀ W,Nx ρ W s ρ {s with heap:=h',toks:=tk}:=by
 refine cH (id hx) λo es ep ho hc hdt _=>?_
 refine S.put hl hH hd ho (by unfold aW;rw[hdt];exact id) hs (let ⟨o,_,_,e,_⟩:=hx';⟨o,e⟩) (by intro _ h;cases h) (by intro _ h;cases h) λim=>⟨hd,hg,_,hx',Nat.le_trans (stored_length_le _ _ _) (Nat.succ_le_succ hn),λx=>?_⟩
 rw [oO]
 unfold dput
 by_cases hx:x=k
 ·rw[if_pos hx,if_pos hx];exact rv.mono (List.prefix_refl _) im
 ·rw[if_neg hx,if_neg hx];exact(hf x).mono (List.prefix_refl _) im
noncomputable def setO(H:MH)(i:Nat)(k:Int)(v:V):MO->Option MH
 | .list vs=>if-1000000<k/\k<1000000 then(seqIndex? k vs.length).map λj=>H.set i (.list (vs.set j v)) else none
 | .dict n f=>if n<1000000 then some (H.set i (.dict (n+1) (dput f k v))) else none
 |_=>none
noncomputable def oSet(a b v:V)(H:MH):Option MH:=a.rf.bind λi=>(Ti b).bind λk=>H[i]?.bind (setO H i k v)
theorem VRs.set{ρ:List Lc}{h:Heap}{u:Value}{v:V}(r:VR ρ h u v):∀ {us:List Value}{vs:List V} (j:Nat),VRs ρ h us vs->VRs ρ h (us.set j u) (vs.set j v)
 |_,_,_,.nil=>.nil
 |_,_,0,.cons a b=>.cons r b
 |_,_,j+1,.cons a b=>.cons a (VRs.set r j b)
theorem xH{A:Around}{s:Shared}{ρ:List Lc}{H:MH}{a b u:Value}{va vb v:V}{H':MH}{K:Unit->Shared->Prop}{E:Value->Shared->Prop}(S:Sim C H ρ s)(ra:VR ρ s.heap a va)(rb:VR ρ s.heap b vb)(rv:VR ρ s.heap u v)(e:oSet va vb v H=some H')
  (k:∀ s',Sim C H' ρ s'->(∀ W,Nx ρ W s ρ s')->K () s'):wpAny C.M A (setItem a b u) K E s:=by
 refine xEA (Option.bind_eq_some_iff.mp e) λi hi e1=>?_
 refine xEA (Option.bind_eq_some_iff.mp e1) λkk hk e2=>?_
 refine xEA (Option.bind_eq_some_iff.mp e2) λm hH e3=>?_
 refine dC (ra.toRef hi) λl _ z38 g=>?_;subst z38
 refine VR.ti (P:=λb=>wpAny C.M A (setItem _ b u) _ _ s) rb hk λt=>?_
 clear e e1 e2
 cases m with
 |list vs=>
  replace e3:(if-1000000<kk/\kk<1000000 then(seqIndex? kk vs.length).map λj=>H.set i (.list (vs.set j v)) else none)=some H':=e3
  split at e3
  ·rename_i hk
   refine xEA (Option.map_eq_some_iff.mp e3) λj hj z39=>?_;subst z39
   refine xEE (gP S g hH) λxs n O=>?_
   refine aDg O.x hk (by rw[O.r.sz];exact hj) ?_
   have:=O.put (k:=s.toks) S (λxs=>xs.setIfInBounds j u) (by simpa using VRs.set rv j O.r)
   exact k _ this.1 this.2
  ·cases e3
 |dict n f=>
  replace e3:(if n<1000000 then some (H.set i (.dict (n+1) (dput f kk v))) else none)=some H':=e3
  split at e3
  ·cases e3
   refine w8 (S.objs i _ l hH g) λh1 h2 kvs hx hle hf=>?_
   refine wpAny_setItem_pairs (k:=kk) (intKind_is _ _ _ _) hx (λh' hx' hs=>?_) (by rw[sizeLine_eq];omega)
   have:=S.setD (tk:=s.toks+1) g hH h1 h2 hx hle hf rv hx' hs
   exact k _ this.1 this.2
  ·cases e3
 |_=>cases e3
noncomputable def qV(f1 f2:EF):AF:=λv lo H Q=>f1 lo H λa H1=>f2 lo H1 λb H2=>Lf (oSet a b v H2) λH3=>Q lo H3
theorem AV.sub{e1 e2:Expr}{pos:Pos}{f1 f2:EF}(h1:EV C r env e1 f1)(h2:EV C r env e2 f2):AV C r env (.Subscript e1 e2 pos) (qV f1 f2):=by
 intro A s ρ H lo u v Q hr S F rv e
 rw [assign_Subscript]
 exact wpAny_bind (wpAny_holding (h1.run hr S F e λS1 N1 r1 e=>wpAny_bind (wpAny_holding (h2.run hr S1 (F.nx N1) e λS2 N2 r2 e=>e.elim λH3 g3 q=>
  wpAny_bind (wpAny_standAt (wpAny_bind (wpAny_holding (xH S2 (r1.nx N2) r2 ((rv.nx N1).nx N2) g3 λ_ S3 N3=>wpAny_release ⟨S3,(N1.trans N2).wr.trans (N3 _),((F.nx N1).nx N2).nx (N3 _),q⟩))))))))
noncomputable def wU:EF:=λ_ H Q=>Q (.ref H.length) (H++[.dict 0 λ_=>Option.none])
theorem EV.dict0{pos}:EV C r env (.Dict [] [] pos) wU:=λA s ρ H lo Q hr S F e=>
 wpAny_Dict_empty ⟨S.alloc {cls:=.type "dict",data:=.dict #[]} (.dict 0 λ_=>Option.none) ⟨rfl,rfl,[],⟨_,#[],0,Heap.get?_push_size _ rfl,⟨rfl,rfl,rfl⟩,rfl,λ_ he=>by simp at he,.nil,by simp⟩,Nat.le_refl _,λk=>trivial⟩,.alloc _,VR.ref (l:=⟨s.heap.objs.size,s.heap.objs.size,Option.none⟩) (by rw[<-S.len];simp),e⟩
end
section
variable {C:Cx}{r:Nat}{env:Env}
noncomputable abbrev CF:=List V->MH->EK->Prop
noncomputable def Keeps(C:Cx)(f:Value):Prop:=∀ h:Heap,(∀ b o,C.base.heap.get? b=some o->h.get? b=some o)->∃ k,(k=Keeper.frame∨k=Keeper.machine∨k=Keeper.boundFrame)/\Looks C.M h (keeperOf f) k
structure CV(C:Cx)(r:Nat)(f:Value)(g:CF):Prop where
 keep:Keeps C f
 call:∀ {A:Around}{s:Shared}{ρ:List Lc}{H:MH}{us:List Value}{vs:List V}{Q:EK},Room r A->Sim C H ρ s->VRs ρ s.heap us vs->g vs H Q->
  wpAny C.M A (PySem.call f us) (bZ C ρ s Q) NoE s
theorem c9{id:String}:Keeps C (.builtin id):=λh _=>⟨.machine,.inr (.inl rfl),.now⟩
theorem d6{id:String}:Keeps C (.type id):=λh _=>⟨.machine,.inr (.inl rfl),.now⟩
noncomputable def lf(g:List V->MH->Option (V×MH)):CF:=λvs H Q=>Lp (g vs H) Q
theorem CV.of{f:Value}{g:List V->MH->Option (V×MH)}(hk:Keeps C f)(h:∀ {A:Around}{s:Shared}{ρ:List Lc}{H:MH}{us:List Value}{vs:List V}{v:V}{H':MH},Room r A->Sim C H ρ s->VRs ρ s.heap us vs->g vs H=some (v,H')->
  wpAny C.M A (PySem.call f us) (EPo C ρ s H' v) NoE s):CV C r f (lf g):=⟨hk,λhr S hu q=>q.elim λp e q=>wmN (h hr S hu e) λ_ _ p=>p.post q⟩
noncomputable def qY(env:Env)(es:List Expr):Prop:=(es= []∨∃ e rest,es=e :: rest/\starEach es env=(false,eval e env) :: starEach rest env)/\∀ pos,(backTo pos (starEach es env)).any (·.1)=false
theorem l9{es:List Expr}{fs:EFs}(h:EVs C r env es fs)(hf:qY env es){A:Around}{s:Shared}{ρ:List Lc}{H:MH}{lo:Lo}{Q:List V->MH->Prop}{pos:Pos}{f:Value}(hr:Room r A)(S:Sim C H ρ s)(F:Fm C env ρ s lo)(e:fs lo H Q):
  wpAny C.M A (evalArgs f true (backTo pos (starEach es env)) []) (λa s'=>a.kw= []/\y4 C ρ s Q a.pos s') NoE s:=by
 have h1:=h (pos:=pos) hr S F e
 rcases hf.1 with rfl |⟨e1,rest,rfl,he⟩
 ·unfold evalArgs
  show wpAny C.M A (spliced [] >>=_) _ _ s
  refine wpAny_bind (wmN h1 λvs s' q=>wpAny_bind (wpAny_pure (wpAny_holding ?_)))
  exact wpAny_bind (wpAny_pure (wpAny_bind (wpAny_pure (wpAny_pure ⟨rfl,q⟩))))
 ·rw[he]at h1 ⊢
  exact evalArgs_plain (wmN h1 λ_ _ q=>⟨rfl,q⟩)
noncomputable def Glo(C:Cx)(x:Str)(f:Value):Prop:=∃ mg,C.base.heap.Ns mainGlobals mg/\(mg x=some f∨(mg x=none/\∃ mb,C.base.heap.Ns builtinsNs mb/\mb x=some f))
theorem k8{h h':Heap}{a:Addr}{m:Str->Option Value}(hn:h.Ns a m)(hk:∀ b o,h.get? b=some o->h'.get? b=some o):h'.Ns a m:=
 let ⟨o,es,ep,ho,q⟩:=hn;⟨o,es,ep,hk _ _ ho,q⟩
theorem mW{x:Str}{f:Value}{pos:Pos}{A:Around}{s:Shared}{ρ:List Lc}{H:MH}{lo:Lo}{Q:Value->Shared->Prop}(hg:Glo C x f)(hk:env.kindOf x=some .globalImplicit)(hd:(x==("__debug__" :Str))=false)
  (S:Sim C H ρ s) (F:Fm C env ρ s lo) (h:Q f s):wpAny C.M A (eval (.Name x pos) env) Q NoE s:=by
 refine xEA hg λmg hmg hx=>?_
 have hG:s.heap.Ns env.globals mg:=by rw[F.gl];exact k8 hmg S.keep
 refine Name_function_global F.fn hk ?_ hd
 rcases hx with hx |⟨hx,mb,hmb,hb⟩
 ·exact loadGlobal_global hG hx h
 ·exact loadGlobal_builtin hG hx (by rw[F.bi];exact k8 hmb S.keep) hb h
noncomputable def aM(g:CF)(fs:EFs):EF:=λlo H Q=>fs lo H λvs H1=>g vs H1 Q
theorem nM{A:Around}{s:Shared}{ρ:List Lc}{H:MH}{lo:Lo}{f:Value}{g:CF}{es:List Expr}{fs:EFs}{first:List Value}{fv:List V}{pos:Pos}{Q:EK}(hf:CV C r f g)(ha:EVs C r env es fs)(hfl:qY env es)
  (hr:Room r A) (S:Sim C H ρ s) (F:Fm C env ρ s lo) (r1:VRs ρ s.heap first fv) (q:fs lo H λvs H1=>g (fv++vs) H1 Q):
  wpAny C.M A (callWith pos f first (backTo pos (starEach es env)) []) (bZ C ρ s Q) NoE s:=
 callWith_of (P:=λh=>∀ b o,C.base.heap.get? b=some o->h.get? b=some o) (by rw[hfl.2];rfl) hf.keep (wmN (l9 ha hfl hr S F q) λa s1 p=>by
  obtain⟨ps,kw⟩:=a
  obtain⟨e,S1,N1,rs,q⟩:=p
  cases e
  exact⟨S1.keep,wmN (hf.call hr S1 ((r1.nx N1).append rs) q) λ_ _ p=>p.from N1⟩)
theorem EV.call{x:Str}{np pos:Pos}{f:Value}{g:CF}{es:List Expr}{fs:EFs}(hf:CV C r f g)(hg:Glo C x f)(ha:EVs C r env es fs)(hfl:qY env es:=by exact⟨.inr ⟨_,_,rfl,rfl⟩,λ_=>rfl⟩)(hk:env.kindOf x=some .globalImplicit:=by rfl')(hd:(x==("__debug__" :Str))=false:=by rfl'):
  EV C r env (.Call (.Name x np) es [] pos) (aM g fs):=
 λ_ _ _ _ _ _ hr S F e=>wpAny_Call_ofName (mW hg hk hd S F (nM hf ha hfl hr S F .nil e))
theorem eB{o:Expr}{name:Str}{apos pos:Pos}{args:List Expr}{A:Around}{Q:Value->Shared->Prop}{E:Value->Shared->Prop}{s:Shared}{P:Value->Shared->Prop}
  (hbase:attributeBase o name env (eval o env)=eval o env)
  (hfew:((backTo pos (starEach args env)).all (λx=> !x.1) && (backToKw pos (keywordEach [] env)).all (λx=>x.1.isSome)
   && decide (args.length+([]:List Keyword).length+(if ([]:List Keyword).isEmpty then 0 else 1)<30))=true)
  (hline:(apos.endLine==pos.line)=true)
  (h:wpAny C.M A (eval o env) (λov s₁=>∀ pl,wpAny C.M A (getMethod ov name pl) (λq s₂=>wpAny C.M A (callWith pos q.1 q.2 (backTo pos (starEach args env)) []) Q E s₂) E s₁) E s):
  wpAny C.M A (eval (.Call (.Attribute o name apos) args [] pos) env) Q E s:=by
 rw [arm_eval_Call,hbase]
 refine wpAny_bind (wpAny_mono h (λov s₁ h₁=>?_) λ_ _ e=>e)
 refine wpAny_bind (wpAny_standAt ?_)
 have hform:methodCallForm (args.length+([]:List Keyword).length) (backTo pos (starEach args env)) (backToKw pos (keywordEach [] env))=true:=hfew
 have hpos:methodCallPos true o env apos pos=pure pos:=by unfold methodCallPos;simp [hline]
 unfold methodCall
 rw [hform]
 refine wpAny_bind (wpAny_holding (wpAny_mono (h₁ _) (λq s₂ h₂=>?_) λ_ _ e=>e))
 exact wpAny_bind (wpAny_of_eq hpos h₂)
end
section
variable {C:Cx}{r:Nat}{env:Env}
structure fF(env:Env)(o:Expr)(name:Str)(apos pos:Pos)(args:List Expr):Prop where
 base:attributeBase o name env (eval o env)=eval o env
 few:((backTo pos (starEach args env)).all (λx=> !x.1) && (backToKw pos (keywordEach [] env)).all (λx=>x.1.isSome)
   && decide (args.length+([]:List Keyword).length+(if ([]:List Keyword).isEmpty then 0 else 1)<30))=true
 line:(apos.endLine==pos.line)=true
theorem lC{o:Expr}{f:EF}{name:Str}{id:String}{apos pos:Pos}{args:List Expr}{A:Around}{K:Value->Shared->Prop}{s:Shared}{ρ:List Lc}{H:MH}{lo:Lo}{Q:EK}
  (ho:EV C r env o f) (sh:fF env o name apos pos args) (slot:Slot "list" name id) (hty:typeOf (.builtin id)=pure (.type "method_descriptor")) (hr:Room r A) (S:Sim C H ρ s) (F:Fm C env ρ s lo) (e:f lo H Q)
  (hQ:∀ v H1,Q v H1->∃ i vs,v.rf=some i/\H1[i]? =some (.list vs))
  (h:∀ {s1 ρ1 l i vs xs n H1},Sim C H1 ρ1 s1->Nx ρ noW s ρ1 s1->jR H1 ρ1 s1 i l vs xs n->Q (.ref i) H1->wpAny C.M A (callWith pos (.builtin id) [.ref l.a] (backTo pos (starEach args env)) []) K NoE s1):
  wpAny C.M A (eval (.Call (.Attribute o name apos) args [] pos) env) K NoE s:=
 eB (P:=λ_ _=>True) sh.base sh.few sh.line (ho.run hr S F e λS1 N1 r1 q pl=>by
  refine bP (hQ _ _ q) λi vs hi hv=>?_
  refine dC (r1.toRef hi) λl hv' z40 g=>?_;subst z40
  subst hv'
  refine xEE (gP S1 g hv) λxs n O=>?_
  exact getMethod_builtin ⟨_,O.x,rfl⟩ PySem.F.plainAttrs_list slot hty (λa e=>by cases e;exact⟨_,O.x,rfl⟩) (h S1 N1 O q))
noncomputable def eM1(f g:EF)(k:Nat->List V->V->MH->EK->Prop):EF:=λlo H Q=>f lo H λa H1=>Lf a.rf λi=>(∃ vs,H1[i]? =some (.list vs))/\g lo H1 λv H2=>Lf (H2[i]?.bind MO.own) λvs=>k i vs v H2 Q
noncomputable def d7(f g:EF):EF:=eM1 f g λi vs v H2 Q=>vs.length<1000000/\Q .none (H2.set i (.list (vs++[v])))
theorem EV.append{o e:Expr}{f g:EF}{apos pos:Pos}(ho:EV C r env o f)(he:EV C r env e g)(sh:fF env o "append" apos pos [e]:=by exact⟨rfl,⋯,⋯⟩)(ht:backTo pos (starEach [e] env)= [(false,eval e env)]:=by exact rfl):
  EV C r env (.Call (.Attribute o "append" apos) [e] [] pos) (d7 f g):=
 λ_ _ _ _ _ _ hr S F q=>lC ho sh PySem.F.slot_list_append PySem.F.type_list_append hr S F q (λv H1 q=>q.elim λi hi q=>⟨i,q.1.choose,hi,q.1.choose_spec⟩) λS1 N1 O q=>by
  rw [ht]
  refine PySem.P.append_list (he.run hr S1 (F.nx N1) q.2 λ{_ s2 _ _ _} S2 N2 r2 q=>q.elim λvs hv q=>?_)
  refine xEE (gP S2 (aO N2.pre O.g) (i8 hv)) λxs n O2=>?_
  have st:=O2.put (k:=s2.toks) S2 (λxs=>xs.push _) (by simpa using O2.r.append (.cons r2 .nil))
  exact⟨xs,n,by rw[sizeLine_eq,O2.r.sz];omega,O2.x,st.1,(N1.trans N2).trans (st.2 _),.none,q.2⟩
noncomputable def eExt(f g:EF):EF:=eM1 f g λi vs v H2 Q=>Lf (own H2 v) λws=>vs.length+ws.length<1000000/\Q .none (H2.set i (.list (vs++ws)))
theorem tO{n:Nat}(h:n<1000000):Builtin.List.listTooLong n=false:=by
 unfold Builtin.List.listTooLong
 rw [sizeLine_eq]
 exact decide_eq_false (A8 h)
theorem EV.extend{o e:Expr}{f g:EF}{apos pos:Pos}(ho:EV C r env o f)(he:EV C r env e g)(sh:fF env o "extend" apos pos [e])(ht:backTo pos (starEach [e] env)= [(false,eval e env)]):
  EV C r env (.Call (.Attribute o "extend" apos) [e] [] pos) (eExt f g):=
 λ_ _ _ _ _ _ hr S F q=>lC ho sh PySem.F.slot_list_extend PySem.F.type_list_extend hr S F q (λv H1 q=>q.elim λi hi q=>⟨i,q.1.choose,hi,q.1.choose_spec⟩) λS1 N1 O q=>by
  rw [ht]
  refine PySem.P.extend_list (he.run hr S1 (F.nx N1) q.2 λ{_ s2 _ _ _} S2 N2 r2 q=>q.elim λvs hv q=>q.elim λws hw q=>?_)
  refine xEE (gP S2 (aO N2.pre O.g) (i8 hv)) λxs n O2=>?_
  refine jS (xW S2 r2 hw) λi' l' xs' n' _ z41 O3=>?_;subst z41
  have hsz:=O2.r.sz;have hsz':=O3.r.sz
  have st:=O2.put (k:=s2.toks) S2 (λxs=>xs++xs') (by simpa using O2.r.append O3.r)
  refine⟨l'.a,xs,xs',n,n',by rw[sizeLine_eq];omega,by rw[sizeLine_eq];omega,?_,rfl,O2.x,O3.x,st.1,(N1.trans N2).trans (st.2 _),.none,q.2⟩
  rw [tO (by omega)];simp
noncomputable def eM0(f:EF)(k:Nat->List V->MH->EK->Prop):EF:=λlo H Q=>f lo H λa H1=>Lf a.rf λi=>Lf (H1[i]?.bind MO.own) λvs=>vs.length<1000000/\k i vs H1 Q
noncomputable def ePop(f:EF):EF:=eM0 f λi vs H1 Q=>Lf vs[vs.length-1]? λv=>Q v (H1.set i (.list (vs.eraseIdx (vs.length-1))))
theorem VRs.erase{ρ:List Lc}{h:Heap}:∀ {us:List Value}{vs:List V} (j:Nat),VRs ρ h us vs->VRs ρ h (us.eraseIdx j) (vs.eraseIdx j)
 |_,_,_,.nil=>.nil
 |_,_,0,.cons a b=>b
 |_,_,j+1,.cons a b=>.cons a (VRs.erase j b)
theorem jR.same{H:MH}{ρ:List Lc}{s:Shared}{i:Nat}{l:Lc}{vs ws:List V}{xs:Array Value}{n:Nat}(O:jR H ρ s i l vs xs n)(e:H[i]?.bind MO.own=some ws):ws=vs:=by
 rw [O.h]at e;exact(Option.some.inj e).symm
theorem EV.pop{o:Expr}{f:EF}{apos pos:Pos}(ho:EV C r env o f)(sh:fF env o "pop" apos pos []):EV C r env (.Call (.Attribute o "pop" apos) [] [] pos) (ePop f):=
 λ_ _ _ _ _ _ hr S F q=>lC ho sh PySem.F.slot_list_pop PySem.F.type_list_pop hr S F q (λv H1 q=>q.elim λi hi q=>q.elim λvs hv _=>⟨i,vs,hi,i8 hv⟩) λ{s1 ρ1 l i vs xs n H1} S1 N1 O q=>by
  refine q.elim λi' hi q=>?_
  cases hi
  refine q.elim λws hw q=>?_
  obtain rfl:=O.same hw
  refine q.2.elim λv hv q2=>?_
  refine xEA (O.r.get hv) λu hu ru=>?_
  have hsz:=O.r.sz
  refine PySem.P.pop_list O.x (y:=u) (by rw[hsz];simpa using hu) ?_ (by rw[sizeLine_eq];omega)
  have st:=O.put (k:=s1.toks) S1 (vs':=ws.eraseIdx (ws.length-1)) (λys=>ys.eraseIdxIfInBounds (xs.size-1)) (by
   rw [hsz]
   have:=VRs.erase (ws.length-1) O.r
   have e:(xs.eraseIdxIfInBounds (ws.length-1)).toList=xs.toList.eraseIdx (ws.length-1):=by
    unfold Array.eraseIdxIfInBounds
    split
    ·rw[Array.toList_eraseIdx]
    ·rename_i hh;rw[List.eraseIdx_of_length_le (by simp;exact A9 hh)]
   rw [e];exact this)
  exact⟨st.1,N1.trans (st.2 _),ru.nx (st.2 noW),q2⟩
noncomputable def lH(vs:List V):Option (List Int):=vs.mapM Ti
theorem n9{ρ:List Lc}{h:Heap}:∀ {us:List Value}{vs:List V}{is:List Int},VRs ρ h us vs->lH vs=some is->∃ ts:List Tok,ts.length=is.length/\us=(is.zip ts).map λx=>Value.int x.1 x.2
 |_,_,is,.nil,e=>by cases e;exact⟨[],rfl,rfl⟩
 |_,_,is,.cons (u:=u) a b,e=>by
  simp only[lH,List.mapM_cons,Option.bind_eq_bind,Option.bind_eq_some_iff,Option.pure_def,Option.some.injEq]at e
  refine aB8 e λi h1 js h2 z42=>?_;clear e;subst z42
  refine xEA (n9 b h2) λts h3 h4=>?_
  exact VR.ti (P:=λu=>∃ ts:List Tok,ts.length=(i :: js).length/\u :: _=((i :: js).zip ts).map λx=>Value.int x.1 x.2) a h1 λt=>⟨t :: ts,congrArg (·+1) h3,congrArg (Value.int i t :: ·) h4⟩
noncomputable def eqTo(k:Int):Value->Bool
 | .int i _=>i==k
 |_=>false
theorem nI(k:Int):∀ (is:List Int) (ts:List Tok),ts.length=is.length->((is.zip ts).map λx=>Value.int x.1 x.2).countP (eqTo k)=is.count k
 | [],_,_=>by simp
 |i :: is,[],h=>by simp at h
 |i :: is,t :: ts,h=>by
  simp only[List.zip_cons_cons,List.map_cons,List.countP_cons,List.count_cons,nI k is ts (by simpa using h),eqTo]
  rfl
noncomputable def uK(f g:EF):EF:=eM1 f g λi vs v H2 Q=>Lf (Ti v) λk=>Lf (lH vs) λis=>Q (.int (is.count k:Nat)) H2
theorem EV.count{o e:Expr}{f g:EF}{apos pos:Pos}(ho:EV C r env o f)(he:EV C r env e g)(sh:fF env o "count" apos pos [e])(ht:backTo pos (starEach [e] env)= [(false,eval e env)]):
  EV C r env (.Call (.Attribute o "count" apos) [e] [] pos) (uK f g):=
 λ_ _ _ _ _ _ hr S F q=>lC ho sh PySem.F.slot_list_count PySem.F.type_list_count hr S F q (λv H1 q=>q.elim λi hi q=>⟨i,q.1.choose,hi,q.1.choose_spec⟩) λS1 N1 O q=>by
  rw [ht]
  refine PySem.P.count_list (he.run hr S1 (F.nx N1) q.2 λ{x s2 ρ2 v2 H2} S2 N2 r2 q=>q.elim λvs hv q=>q.elim λk hk q=>q.elim λis hi q=>?_)
  refine xEE (gP S2 (aO N2.pre O.g) (i8 hv)) λxs n O2=>?_
  refine xEA (n9 O2.r hi) λts ht1 ht2=>?_
  refine⟨xs,n,eqTo k,O2.x,λy hy=>?_,S2.toks _,(N1.trans N2).trans (.toks _),?_,q⟩
  ·have:y∈xs.toList:=Array.mem_toList_iff.mpr hy
   rw [ht2]at this
   refine xEA (List.mem_map.mp this) λp _ z43=>?_;subst z43
   refine VR.ti (P:=λx=>PySem.MeetsSeq.EqGives _ x _) r2 hk λt=>PySem.MeetsSeq.EqGives.int _ _ _ _
  ·rw[ht2,nI k is ts ht1];exact .int _ _
end
section
variable {C:Cx}{r:Nat}{env:Env}
noncomputable def pRng(C:Cx):ItP C (Int×Nat×Int) where
 nx:=λit H=>some (match it with | (x,n+1,c)=>some (.int x,(x+c,n,c)) | (_,0,_)=>none)
 rel:=λρ s it a=>IsRangeIter s.heap a it.1 it.2.1 it.2.2
 T:="range_iterator"
 own:=by decide
 mono:=λh1 e i hk=>hk _ h1
 obj:=λh1=>⟨_,h1,rfl,by simp [aW]⟩
 item:=by
  rintro A s ρ H ⟨x,n,c⟩ a v it' Q hh S h1 e k
  cases n with
  |succ n=>
   cases e
   refine wpAny_pyNext_range_item h1 (by simp) λh' h2 hs=>k _ h' _ hs (.int _ _) λs' hs' im=>?_
   subst hs'
   simpa using h2
  |zero=>cases e
 fin:=by
  rintro A s ρ H ⟨x,n,c⟩ a Q hh S h1 e k
  cases n with
  |succ n=>cases e
  |zero=>exact wpAny_pyNext_range_end hh h1 (by simp) λh' he=>k h' he
noncomputable abbrev kK(C:Cx):ItK C:=(pRng C).it
noncomputable def V.rn:V->Option (Int×Int×Int) | .rng a b c=>some (a,b,c) |_=>Option.none
theorem VR.toRng{ρ:List Lc}{h:Heap}{u:Value}{v:V}{p:Int×Int×Int}(r:VR ρ h u v)(e:v.rn=some p):∃ a t1 t2 t3,u= .ref a/\IsRange h a p.1 p.2.1 p.2.2 t1 t2 t3:=by
 cases v with
 |rng a b c=>cases e;exact r.inv
 |_=>first |exact aQ e |cases e
noncomputable def rOk(a b c:Int):Bool:=decide (-1000000<a) && decide (a<1000000) && decide (-1000000<b) && decide (b<1000000) && c==1
noncomputable def mQ(a b _c:Int):Nat:=(b-a).toNat
theorem rOk_1{a b c:Int}(h:rOk a b c=true): -1000000<a/\a<1000000/\ -1000000<b/\b<1000000/\c=1:=by
 have h1:=Bool.and_eq_true_iff.mp h
 have h2:=Bool.and_eq_true_iff.mp h1.1
 have h3:=Bool.and_eq_true_iff.mp h2.1
 have h4:=Bool.and_eq_true_iff.mp h3.1
 exact⟨of_decide_eq_true h4.1,of_decide_eq_true h4.2,of_decide_eq_true h3.2,of_decide_eq_true h2.2,eq_of_beq h1.2⟩
theorem rSz(a b:Int):Builtin.Range.rangeSize a b 1=((b-a).toNat:Int):=by
 unfold Builtin.Range.rangeSize
 rw [if_pos (by decide)]
 by_cases q:a<b
 ·rw[if_pos q,Int.ediv_one,Int.sub_add_cancel]
  exact(Int.toNat_of_nonneg (Int.sub_nonneg_of_le (Int.le_of_lt q))).symm
 ·rw[if_neg q,Int.toNat_of_nonpos (Int.sub_nonpos_of_le (Int.not_lt.mp q))];rfl
theorem zF{a b c:Int}(h:rOk a b c=true):Builtin.Range.rangeSize a b c=(mQ a b c:Int)/\Builtin.Range.small a b c=true/\mQ a b c<2000000:=by
 refine xAAAA (rOk_1 h) λh1 h2 h3 h4 z45=>?_;subst z45
 have hl:(b-a).toNat<2000000:=A10 h1 h4
 refine⟨rSz a b,?_,hl⟩
 unfold Builtin.Range.small
 rw [rSz]
 unfold Builtin.Range.rangeFitsLong
 simp;exact A11 h2 h3 hl
noncomputable def iR(f:EF):Lo->MH->(Int×Nat×Int->MH->Prop)->Prop:=λlo H Q=>f lo H λv H1=>Lf v.rn λp=>rOk p.1 p.2.1 p.2.2=true/\Q (p.1,mQ p.1 p.2.1 p.2.2,p.2.2) H1
theorem IV.range{e:Expr}{f:EF}(h:EV C r env e f):IV (kK C) r env e (iR f):=
 λ_ _ _ _ _ _ hr S F q=>h.run hr S F q λS1 N1 r1 q=>q.elim λp hp q=>by
  refine xAA (zF q.1) λk1 k2 k3=>?_
  refine oK (r1.toRng hp) λa t1 t2 t3 z46 g=>?_;subst z46
  refine wpAny_pyIter_range g k2 ?_
  rw [k1]
  exact y1.mk (K:=kK C) (it:=(p.1,mQ p.1 p.2.1 p.2.2,p.2.2)) (S1.push _) (N1.trans (.push _)) ⟨_,rfl,rfl,show IsRangeIter _ _ _ _ _ from Heap.get?_push_size _ rfl⟩ (λb hb=>by rw[show b=_ from hb];exact c4 N1 S1 (bJ _)) q.2
theorem VRs.a1{ρ:List Lc}{h:Heap}{us:List Value}{x:V}(r:VRs ρ h us [x]):∃ u,us= [u]/\VR ρ h u x:=by cases r with |cons a b=>cases b;exact⟨_,rfl,a⟩
theorem VRs.a2{ρ:List Lc}{h:Heap}{us:List Value}{x y:V}(r:VRs ρ h us [x,y]):∃ u v,us= [u,v]/\VR ρ h u x/\VR ρ h v y:=by cases r with |cons a b=>refine xEA b.a1 λv e c=>?_;exact⟨_,v,by rw[e],a,c⟩
noncomputable def Tis(vs:List V):Option (List Int):=vs.mapM Ti
theorem VRs.ints{ρ:List Lc}{h:Heap}{us:List Value}{vs:List V}{is:List Int}(r:VRs ρ h us vs)(e:Tis vs=some is):∃ ts:List Tok,ts.length=is.length/\us=(is.zip ts).map λx=>Value.int x.1 x.2:=n9 r e
theorem ts1{ts:List Tok}{a:Int}{us:List Value}(e:ts.length= [a].length)(h:us=(([a]:List Int).zip ts).map λx=>Value.int x.1 x.2):∃ t,us= [.int a t]:=by
 match ts,e with
 | [t],_=>exact⟨t,h⟩
theorem ts2{ts:List Tok}{a b:Int}{us:List Value}(e:ts.length= [a,b].length)(h:us=(([a,b]:List Int).zip ts).map λx=>Value.int x.1 x.2):∃ t u,us= [.int a t,.int b u]:=by
 match ts,e with
 | [t,u],_=>exact⟨t,u,h⟩
theorem ts3{ts:List Tok}{a b c:Int}{us:List Value}(e:ts.length= [a,b,c].length)(h:us=(([a,b,c]:List Int).zip ts).map λx=>Value.int x.1 x.2):∃ t u v,us= [.int a t,.int b u,.int c v]:=by
 match ts,e with
 | [t,u,v],_=>exact⟨t,u,v,h⟩
noncomputable def gX:CF:=lf λvs H=>(Tis vs).bind λis=>match is with
 | [n]=>some (.rng 0 n 1,H)
 | [a,b]=>some (.rng a b 1,H)
 |_=>none
theorem CV.range:CV C r (.type "range") gX:=.of d6 λ{A s ρ H us vs v H'} hr S rs e=>by
 refine xEA (Option.bind_eq_some_iff.mp e) λis hi e=>?_
 refine xEA (rs.ints hi) λts h1 h2=>?_
 split at e
 ·refine xE (ts1 h1 h2) λt z47=>?_;subst z47;cases e;exact call_range_1 ⟨ρ,(S.push _).toks _,(Nx.push _).trans (.toks _),.rng (Heap.get?_push_size _ rfl)⟩
 ·refine xEE (ts2 h1 h2) λt u z48=>?_;subst z48;cases e;exact call_range_2 ⟨ρ,(S.push _).toks _,(Nx.push _).trans (.toks _),.rng (Heap.get?_push_size _ rfl)⟩
 ·first |exact aQ e |cases e
end
section
variable {C:Cx}{r:Nat}{env:Env}
theorem EPo.ext{ρ:List Lc}{s:Shared}{H:MH}{v:V}{x:Value}{h':Heap}{k:Nat}(S:Sim C H ρ s)(hk:∀ b o,s.heap.get? b=some o->h'.get? b=some o)(rv:VR ρ s.heap x v):EPo C ρ s H v x {s with heap:=h',toks:=k}:=
 ⟨ρ,S.ext hk,.ext hk,rv.mono (List.prefix_refl _) (eE hk)⟩
noncomputable def one(vs:List V):Option V:=match vs with | [v]=>some v |_=>none
theorem kG{ρ:List Lc}{h:Heap}{us:List Value}{vs:List V}{v:V}(r:VRs ρ h us vs)(e:one vs=some v):∃ u,us= [u]/\VR ρ h u v:=by
 unfold one at e
 split at e
 ·cases e;exact r.a1
 ·first |exact aQ e |cases e
noncomputable def cLen:CF:=lf λvs H=>(one vs).bind λv=>(lst H v).bind λxs=>if xs.length<1000000 then some (.int xs.length,H) else none
theorem CV.len:CV C r (.builtin "len") cLen:=.of c9 λ{A s ρ H us vs v H'} hr S rs e=>by
 refine xEA (Option.bind_eq_some_iff.mp e) λx hx e=>?_
 refine xEA (Option.bind_eq_some_iff.mp e) λxs hl e=>?_
 refine xEA (kG rs hx) λu z49 ru=>?_;subst z49
 split at e
 ·first |exact aQ e |cases e
  refine b8 (cZ S ru hl) λad ys z50 h2 h3=>?_;subst z50
  have:=h3.sz
  refine call_len_list h2 (by omega) ?_
  rw [this]
  exact .tok S (.int _ _)
 ·first |exact aQ e |cases e
noncomputable def c2(f:Int->Int->Int):CF:=lf λvs H=>(Tis vs).bind λis=>match is with | [a,b]=>some (.int (f a b),H) |_=>none
theorem CV.c2{x:String}{f:Int->Int->Int}(h:∀ {A:Around}{s:Shared}{a b:Int}{t u:Tok}{Q:Value->Shared->Prop},A.handled=none->(∀ h' tk t,(∀ b o,s.heap.get? b=some o->h'.get? b=some o)->Q (.int (f a b) t) {s with heap:=h',toks:=tk})->
  wpAny C.M A (PySem.call (.builtin x) [.int a t,.int b u]) Q NoE s):CV C r (.builtin x) (c2 f):=CV.of c9 λ{A s ρ H us vs v H'} hr S rs e=>by
 refine xEA (Option.bind_eq_some_iff.mp e) λis hi e=>?_
 refine xEA (rs.ints hi) λts h1 h2=>?_
 split at e
 ·refine xEE (ts2 h1 h2) λt u z51=>?_;subst z51;cases e;exact h hr.1 λh' tk t hk=>.ext S hk (.int _ _)
 ·first |exact aQ e |cases e
noncomputable def uQ:CF:=c2 max
theorem CV.max:CV C r (.builtin "max") uQ:=CV.c2 λ{A s a b t u Q} hh k=>max_two_ints hh λh' tk hk=>by
 by_cases q:b>a
 ·rw[if_pos q];have:=k h' tk u hk;rwa [Int.max_eq_right (Int.le_of_lt q)]at this
 ·rw[if_neg q];have:=k h' tk t hk;rwa [Int.max_eq_left (Int.not_lt.mp q)]at this
noncomputable def uP:CF:=c2 min
theorem CV.min:CV C r (.builtin "min") uP:=CV.c2 λ{A s a b t u Q} hh k=>min_two_ints hh λh' tk hk=>by
 by_cases q:b<a
 ·rw[if_pos q];have:=k h' tk u hk;rwa [Int.min_eq_right (Int.le_of_lt q)]at this
 ·rw[if_neg q];have:=k h' tk t hk;rwa [Int.min_eq_left (Int.not_lt.mp q)]at this
noncomputable def yT:CF:=lf λvs H=>(one vs).bind λv=>(lst H v).bind λxs=>(lH xs).map λis=>(.int is.sum,H)
theorem CV.sum:CV C r (.builtin "sum") yT:=.of c9 λ{A s ρ H us vs v H'} hr S rs e=>by
 refine xEA (Option.bind_eq_some_iff.mp e) λx hx e=>?_
 refine xEA (Option.bind_eq_some_iff.mp e) λxs hl e=>?_
 refine xEA (Option.map_eq_some_iff.mp e) λis hi e=>?_
 cases e
 refine xEA (kG rs hx) λu z52 ru=>?_;subst z52
 refine b8 (cZ S ru hl) λad ys z53 h2 h3=>?_;subst z53
 refine xEA (n9 h3 hi) λts ht1 ht2=>?_
 have hys:ys=intItems (is.zip ts).toArray:=by
  apply Array.toList_inj.mp
  rw [ht2]
  simp [intItems]
 rw [hys]at h2
 refine sum_intListG hr.1 h2 λh' tk t' hk=>?_
 have:preSum (numAt (is.zip ts).toArray) (is.zip ts).toArray.size=is.sum:=by
  rw [preSum_eq,List.take_of_length_le (by simp)]
  congr 1
  simp only[List.map_fst_zip (Nat.le_of_eq ht1.symm)]
 rw [this]
 exact .ext S hk (.int _ _)
noncomputable def cSet:CF:=lf λvs H=>if vs.isEmpty then some (.ref H.length,H++[.eset]) else none
theorem CV.set:CV C r (.type "set") cSet:=.of d6 λ{A s ρ H us vs v H'} hr S rs e=>by
 split at e
 ·first |exact aQ e |cases e
  cases rs with
  |nil=>exact call_set_0 λled=>⟨_,S.alloc _ .eset ⟨rfl,rfl,_,_,Heap.get?_push_size _ rfl,by cases led<;>decide⟩,.alloc _,VR.ref (l:=⟨s.heap.objs.size,s.heap.objs.size,none⟩) S.last⟩
  |cons _ _=>rename_i h;cases h
 ·first |exact aQ e |cases e
theorem Sim.grown{H:MH}{ρ:List Lc}{s:Shared}{h':Heap}{k:Nat}{xs:Array Value}{n:Nat}{vs:List V}(S:Sim C H ρ s)(hk:∀ b o,s.heap.get? b=some o->h'.get? b=some o)(hx:IsL h' s.heap.objs.size xs n)(hv:VRs ρ h' xs.toList vs):
  EPo C ρ s (H++[.list vs]) (.ref H.length) (.ref s.heap.objs.size) {s with heap:=h',toks:=k}:=
 let g:=S.grow (k:=k) (l:=⟨s.heap.objs.size,s.heap.objs.size,none⟩) (m:=.list vs) hk (bJ _) (bJ _) rfl ⟨rfl,rfl,xs,n,hx,hv.mono (List.prefix_append _ _) (.refl _)⟩
 ⟨_,g.1,g.2 _,VR.ref (l:=⟨s.heap.objs.size,s.heap.objs.size,none⟩) S.last⟩
noncomputable def jX(a c:Int):Nat->List V
 |0=>[]
 |n+1=>.int a :: jX (a+c) c n
theorem aHa(a c:Int)(n:Nat):jX a c (n+1)= .int a :: jX (a+c) c n:=rfl
theorem vG{ρ:List Lc}{h:Heap}:∀ (n:Nat) (a c:Int) (us:List Value),us.length=n->(∀ (i:Nat) (u:Value),us[i]? =some u->∃ t,u=Value.int (a+(i:Int)*c) t)->VRs ρ h us (jX a c n)
 |0,a,c,[],_,_=>VRs.nil
 |0,a,c,_ :: _,hl,_=>by simp at hl
 |n+1,a,c,[],hl,_=>by simp at hl
 |n+1,a,c,u :: us,hl,hu=>by
  refine xE (hu 0 u rfl) λt e=>?_
  simp at e
  subst e
  refine VRs.cons (VR.int _ _) (vG n (a+c) c us (by simpa using hl) λi u h=>?_)
  refine xE (hu (i+1) u (by simpa using h)) λt e=>?_
  refine⟨t,e.trans ?_⟩
  congr 1
  rw [Int.add_assoc]
  congr 1
  simp only[Int.natCast_add,Int.add_mul]
  omega
noncomputable def uR(vs:List V)(H:MH):Option (V×MH):=(one vs).bind λv=>match v.rn with
 |some p=>if rOk p.1 p.2.1 p.2.2 then mkL (jX p.1 p.2.2 (mQ p.1 p.2.1 p.2.2)) H else none
 |none=>(lst H v).bind λxs=>mkL xs H
noncomputable def aF9:CF:=lf uR
theorem aHw{A:Around}{s:Shared}{ρ:List Lc}{H:MH}{us:List Value}{vs:List V}{v:V}{H':MH}(hr:Room r A)(S:Sim C H ρ s)(rs:VRs ρ s.heap us vs)(e:uR vs H=some (v,H')):wpAny C.M A (PySem.call (.type "list") us) (EPo C ρ s H' v) NoE s:=by
 refine xEA (Option.bind_eq_some_iff.mp e) λx hx e=>?_
 refine xEA (kG rs hx) λu z54 ru=>?_;subst z54
 split at e
 ·rename_i p hp
  split at e
  ·rename_i hok
   refine jA e λhlen e=>?_
   cases e
   refine xAA (zF hok) λk1 k2 k3=>?_
   refine oK (ru.toRng hp) λa t1 t2 t3 z55 g=>?_;subst z55
   refine call_list_range hr.1 g k2 k1 (by omega) λh' tk acc' c' hk hS hacc=>S.grown hk hS ?_
   exact vG _ _ _ _ (by simpa using hacc.1) λi u hu=>hacc.2 i u (by simpa using hu)
  ·first |exact aQ e |cases e
 ·refine xEA (Option.bind_eq_some_iff.mp e) λxs hl e=>?_
  refine jA e λhlen e=>?_
  cases e
  refine b8 (cZ S ru hl) λad ys z56 z57 h3=>?_;subst z56;obtain⟨o,ho,hc,n,hd⟩:=z57
  have:=h3.sz
  exact call_list_seq ad (.inl rfl) ho hc hd (λh' c' hk hD=>S.grown (k:=s.toks) hk hD (h3.mono (List.prefix_refl _) (eE hk))) (by rw[sizeLine_eq];exact A12 hlen this)
theorem CV.list:CV C r (.type "list") aF9:=.of d6 aHw
end
section
section
variable {prog:Program}{w:World}{A:Around}{E:Value->Shared->Prop}{s:Shared}
theorem yY(a b n:Nat)(ha:a<=b)(hb:b<=n):Builtin.Slice.sliceAdjust (some (a:Int)) (some (b:Int)) 1 (n:Int)=((a:Int),(b:Int)):=by
 unfold Builtin.Slice.sliceAdjust
 have h1: ¬((1:Int)<0):=A13
 have h2: ¬((a:Int)<0):=A14
 have h3: ¬((b:Int)<0):=A14
 simp only[h1,h2,h3,if_false]
 congr 1<;>omega
theorem xV(a b:Nat)(ha:a<=b):Builtin.Slice.slicePlaces (a:Int) (b:Int) 1=b-a:=by
 unfold Builtin.Slice.slicePlaces
 have h1:(1:Int)>0:=A15
 simp only[h1,if_true,Int.ediv_one]
 split<;>omega
theorem mK{sl:Addr}{a b n:Nat}{u u':Tok}{Q:Int×Int×Nat->Shared->Prop}(hs:s.heap.IsSliceOf sl (.int a u) (.int b u') .none)(ha:a<=b)(hb:b<=n)(h:Q ((a:Int),1,b-a) s):
  wpAny (model prog w) A (Builtin.Slice.sliceApplied (.ref sl) (pure (n:Int))) Q E s:=by
 refine dC (id hs) λos hos hcs hds=>?_
 unfold Builtin.Slice.sliceApplied Builtin.Slice.sliceFields
 refine wpAny_bind (wpAny_bind (wpAny_field hos hds (x:=.int a u) rfl (wpAny_bind (wpAny_field hos hds (x:=.int b u') rfl (wpAny_bind (wpAny_field hos hds (x:=.none) rfl (wpAny_pure ?_)))))))
 refine wpAny_bind (slicePart_none ?_)
 show wpAny _ _ (if ((1:Int)==0)=true then _ else _) _ _ s
 rw [if_neg (by decide)]
 refine wpAny_bind (slicePart_int (wpAny_bind (slicePart_int (wpAny_bind (wpAny_pure ?_)))))
 show wpAny _ _ (match Builtin.Slice.sliceAdjust (some (a:Int)) (some (b:Int)) 1 (n:Int) with | (lo,hi)=>pure (lo,(1:Int),Builtin.Slice.slicePlaces lo hi 1)) _ _ s
 rw [yY a b n ha hb]
 show wpAny _ _ (pure ((a:Int),(1:Int),Builtin.Slice.slicePlaces (a:Int) (b:Int) 1)) _ _ s
 rw [xV a b ha]
 exact wpAny_pure h
theorem aBk(xs:Array Value)(a k:Nat):((List.range k).filterMap fun(j:Nat)=>xs[((a:Int)+(j:Int)*1).toNat]?).toArray=((xs.toList.drop a).take k).toArray:=by
 have e:(fun(k:Nat)=>xs[((a:Int)+(k:Int)*1).toNat]?)=λk=>xs[a+k]? :=by
  funext k
  have:((a:Int)+(k:Int)*1).toNat=a+k:=by omega
  rw [this]
 rw [e]
 have:=pick_run xs a k
 rw [List.filterMap_map]at this
 have e2:((λx=>xs[x]?)∘λx=>a+x)=λk=>xs[a+k]? :=rfl
 rw [e2]at this
 rw [this]
theorem lJ{t sl:Addr}{items:Array Value}{a b:Nat}{u u':Tok}{Q:Value->Shared->Prop}(ht:IsTup s.heap t items)(hs:s.heap.IsSliceOf sl (.int a u) (.int b u') .none)(h1:1<=a)(hab:a<=b)(hb:b<=items.size)
  (h:Q (.ref s.heap.objs.size) {s with heap:=s.heap.push {cls:=.type "tuple",data:=.seq ((items.toList.drop a).take (b-a)).toArray}})
  (hsz:items.size<=sizeLine):wpAny (model prog w) A (getItem (.ref t) (.ref sl)) Q E s:=by
 have hdrop:sizeOk (.seq ((items.toList.drop a).take (b-a)).toArray):=by
  show((items.toList.drop a).take (b-a)).toArray.size<=sizeLine
  rw [List.size_toArray,List.length_take,List.length_drop,Array.length_toList]
  exact A16 hsz
 refine dC (id hs) λos hos hcs hds=>?_
 have hTs:s.TypeIs (.ref sl) "slice" :=⟨os,hos,hcs⟩
 unfold getItem
 try with_reducible refine wpAny_holding ?_
 first |refine wpAny_bind (wpAny_pure ?_) |skip
 refine wpAny_bind (wpAny_sequenceKey ht.typeIs (by decide) ?_)
 refine wpAny_bind (wpAny_callSpecial?_slot (name:=Str.ofString "__getitem__") ht.typeIs slot_tuple_getitem
  (wpAny_call_entry slot_tuple_getitem ht.typeIs entry_tuple_getitem ?_ (args_tuple_getitem _ _)))
 show wpAny _ _ (Builtin.Tuple.tupleItemsOf (.ref t) >>=_) _ _ s
 refine wpAny_bind (tupleItemsOf_ ht ?_)
 refine wpAny_bind (wpAny_typeOf hTs ?_)
 rw [if_pos (by decide)]
 refine wpAny_bind (mK hs hab hb ?_)
 have hno: ¬(((a:Int)==0 && (1:Int)==1 && (b-a)==items.size)=true):=by
  have:((a:Int)==0)=false:=by rw[beq_eq_false_iff_ne];exact A17 h1
  rw [this];simp
 show wpAny _ _ (if ((a:Int)==0 && (1:Int)==1 && (b-a)==items.size)=true then _ else _) _ _ s
 rw [if_neg hno,aBk items a (b-a)]
 first
  |exact wpAny_bind (m:=Builtin.Tuple.tupleExact _) (wpAny_newObj_type (wpAny_pure ⟨_,rfl,wpAny_pure h⟩) hdrop)
  |exact wpAny_bind (m:=Builtin.Tuple.tupleExact _) (wpAny_newObj_type (wpAny_bind (wpAny_pure (wpAny_pure ⟨_,rfl,wpAny_pure h⟩))) hdrop)
  |exact wpAny_bind (wpAny_bind (m:=Builtin.Tuple.tupleExact _) (wpAny_newObj_type (wpAny_pure (wpAny_pure ⟨_,rfl,wpAny_pure h⟩)) hdrop))
  |exact wpAny_bind (wpAny_bind (m:=Builtin.Tuple.tupleExact _) (wpAny_newObj_type (wpAny_pure ⟨_,rfl,wpAny_pure h⟩) hdrop))
end
variable {C:Cx}{r:Nat}{env:Env}
noncomputable def PV(C:Cx)(r:Nat)(env:Env)(e:Option Expr)(f:EF):Prop:=
 ∀ ⦃A:Around⦄⦃s:Shared⦄⦃ρ:List Lc⦄⦃H:MH⦄⦃lo:Lo⦄⦃Q:EK⦄,Room r A->Sim C H ρ s->Fm C env ρ s lo->f lo H Q->
  wpAny C.M A (evalPart e env) (bZ C ρ s Q) NoE s
theorem PV.none:PV C r env Option.none (eK .none):=λ_ _ _ _ _ _ _ S _ q=>wpAny_pure (.here S .none q)
theorem PV.some{e:Expr}{f:EF}(h:EV C r env e f):PV C r env (Option.some e) f:=h
noncomputable def prt:V->Option (Option Int)
 | .none=>some none
 | .int i=>some (some i)
 |_=>none
theorem xU{ρ:List Lc}{h:Heap}{u:Value}{v:V}{p:Option Int}(r:VR ρ h u v)(e:prt v=some p):IsPart u p:=by
 cases v with
 |none=>cases e;cases(show u= .none from r.inv);exact .none
 |int=>cases e;refine xE r.inv λt z58=>?_;subst z58;exact .int _ _
 |_=>first |exact aQ e |cases e
noncomputable def zJ(vs:List V)(lo hi st:Option Int):List V:=
 (sliceRange (sliceBounds lo hi st vs.length).1 (sliceBounds lo hi st vs.length).2.1 (sliceBounds lo hi st vs.length).2.2).filterMap (vs[·]?)
theorem VRs.pick{ρ:List Lc}{h:Heap}{us:List Value}{vs:List V}(rs:VRs ρ h us vs):∀ idx:List Nat,VRs ρ h (idx.filterMap (us[·]?)) (idx.filterMap (vs[·]?))
 | []=>.nil
 |i :: idx=>by
  simp only[List.filterMap_cons]
  cases hv:vs[i]? with
  |none=>
   have:us[i]? =none:=by
    rw [List.getElem?_eq_none_iff]at hv ⊢;rw[rs.length];exact hv
   rw [this];exact rs.pick idx
  |some v=>
   refine xEA (rs.get hv) λu hu ru=>?_
   rw [hu];exact .cons ru (rs.pick idx)
noncomputable def slcT(vs:List V)(lo hi st:Option Int):Option (List V):=match lo,hi,st with
 |some a,some b,none=>if 1<=a/\a<=b/\b<=vs.length/\vs.length<1000 then some ((vs.drop a.toNat).take (b.toNat-a.toNat)) else none
 |some a,none,none=>if 1<=a/\a<=vs.length/\vs.length<1000 then some (vs.drop a.toNat) else none
 |_,_,_=>none
noncomputable def slc(v:V)(lo hi st:Option Int)(H:MH):Option (V×MH):=match v.tp with
 |some vs=>(slcT vs lo hi st).map λws=>(.tup ws,H)
 |none=>(lst H v).bind λvs=>if vs.length<1000000/\st≠some 0 then mkL (zJ vs lo hi st) H else none
noncomputable def eV(f f1 f2 f3:EF):EF:=λlo H Q=>f lo H λv H0=>f1 lo H0 λa H1=>f2 lo H1 λb H2=>f3 lo H2 λc H3=>Lf (prt a) λpa=>Lf (prt b) λpb=>Lf (prt c) λpc=>Lp (slc v pa pb pc H3) Q
theorem aG0{h:Heap}{t sl:Addr}{items:Array Value}{a b c:Value}{vs ws:List V}{pa pb pc:Option Int}{ρ:List Lc}{prog:Program}{w:World}{A:Around}{s:Shared}{Q E:Value->Shared->Prop}(ht:IsTup s.heap t items)(hs:s.heap.IsSliceOf sl a b c)(rs:VRs ρ s.heap items.toList vs)
  (p1:IsPart a pa) (p2:IsPart b pb) (p3:IsPart c pc) (e:slcT vs pa pb pc=some ws)
  (k:∀ ys:List Value,VRs ρ s.heap ys ws->Q (.ref s.heap.objs.size) {s with heap:=s.heap.push {cls:=.type "tuple",data:=.seq ys.toArray}}):wpAny (model prog w) A (getItem (.ref t) (.ref sl)) Q E s:=by
 have hsz:=rs.sz
 unfold slcT at e
 split at e
 ·rename_i a' b'
  split at e
  ·rename_i hb
   cases e
   cases p1;cases p2;cases p3
   refine xE (Int.eq_ofNat_of_zero_le (a:=a') (A18 hb)) λa0 z59=>?_;subst z59
   refine xE (Int.eq_ofNat_of_zero_le (a:=b') (A19 hb)) λb0 z60=>?_;subst z60
   exact lJ ht hs (A20 hb) (A21 hb) (A22 hsz hb) (k _ ((rs.drop a0).take (b0-a0))) (by rw[sizeLine_eq];exact A23 hsz hb)
  ·first |exact aQ e |cases e
 ·rename_i a'
  split at e
  ·rename_i hb
   cases e
   cases p1;cases p2;cases p3
   refine xE (Int.eq_ofNat_of_zero_le (a:=a') (A24 hb)) λa0 z61=>?_;subst z61
   exact getItem_tuple_from ht hs (A25 hb) (A26 hsz hb) (k _ (rs.drop a0)) (by rw[sizeLine_eq];exact A27 hsz hb)
  ·first |exact aQ e |cases e
 ·first |exact aQ e |cases e
theorem wA{A:Around}{s s1:Shared}{ρ:List Lc}{H:MH}{o a b c:Value}{v:V}{pa pb pc:Option Int}{v':V}{H':MH}{sl:Addr}(S1:Sim C H ρ s1)(N1:Nx ρ noW s ρ s1)(r1:VR ρ s1.heap o v)(hsl:s1.heap.IsSliceOf sl a b c)(p1:IsPart a pa)(p2:IsPart b pb)(p3:IsPart c pc)(e:slc v pa pb pc H=some (v',H')):
  ∃ T id,s1.TypeIs o T/\typeLookup (.type T) "__getitem__" =pure (some (.builtin id))/\wpAny C.M A (getItem o (.ref sl)) (EPo C ρ s H' v') NoE s1:=by
 unfold slc at e
 split at e
 ·rename_i vs hvs
  refine cH (r1.toTup hvs) λt xs n _ z62 g rs=>?_;subst z62
  refine xEA (Option.map_eq_some_iff.mp e) λws e1 e2=>?_
  cases e2
  have ht:IsTup s1.heap t xs:=⟨_,g,rfl,n,rfl⟩
  exact⟨"tuple",_,ht.typeIs,slot_tuple_getitem.lookup,aG0 (h:=s1.heap) ht hsl rs p1 p2 p3 e1 λys hy=>⟨ρ,S1.push _,N1.trans (.push _),.tup (Heap.get?_push_size _ rfl) (hy.mono (List.prefix_refl _) (e9 _ _))⟩⟩
 ·refine xEA (Option.bind_eq_some_iff.mp e) λvs hl e=>?_
  split at e
  ·rename_i hlen
   refine jA e λ_ e=>?_
   cases e
   refine b8 (cZ S1 r1 hl) λad xs z63 h2 h3=>?_;subst z63
   have hsz:=h3.sz
   refine⟨"list",_,h2.typeIs,list_getitem_lookup,wpAny_getItem_list_slice h2 hsl p1 p2 p3 hlen.2 ((S1.newList ?_).from N1) (by rw[sizeLine_eq];omega)⟩
   unfold slicePick zJ
   rw [hsz]
   simpa using h3.pick _
  ·first |exact aQ e |cases e
theorem m9{e:Expr}{l u st:Option Expr}{f f1 f2 f3:EF}(h:EV C r env e f)(h1:PV C r env l f1)(h2:PV C r env u f2)(h3:PV C r env st f3){p:Pos}{A:Around}{s:Shared}{ρ:List Lc}{H:MH}{lo:Lo}{Q:EK}(hr:Room r A)(S:Sim C H ρ s)(F:Fm C env ρ s lo)(q:eV f f1 f2 f3 lo H Q):
  wpAny C.M A (eval e env) (λo s₁=>wpAny C.M A (eval (.Slice l u st p) env) (λi s₂=>∃ T id,s₂.TypeIs o T/\typeLookup (.type T) "__getitem__" =pure (some (.builtin id))/\wpAny C.M A (getItem o i) (bZ C ρ s Q) NoE s₂) NoE s₁) NoE s:=
 h.run hr S F q λS1 N1 r1 q=>wpAny_Slice (bZ.run (h1 hr S1 (F.nx N1) q) λS2 N2 r2 q=>bZ.run (h2 hr S2 ((F.nx N1).nx N2) q) λS3 N3 r3 q=>bZ.run (h3 hr S3 (((F.nx N1).nx N2).nx N3) q) λ{c s4 ρ4 vc H4} S4 N4 r4 q=>
  q.elim λpa ea q=>q.elim λpb eb q=>q.elim λpc ec q=>q.elim λp es q=>by
   refine b8 (wA (A:=A) (S4.push _) (.push _) ((((r1.nx N2).nx N3).nx N4).mono (List.prefix_refl _) (e9 _ _)) (Heap.IsSliceOf.new ..) (xU r2 ea) (xU r3 eb) (xU r4 ec) es) λT id k1 k2 k3=>?_
   exact⟨T,id,k1,k2,wmN k3 λ_ _ p=>(p.from (N1.trans (N2.trans (N3.trans N4)))).post q⟩)
theorem oZ{e:Expr}{o i:Value}{ops:List Value}{A:Around}{s₂:Shared}{P:Value->Shared->Prop}(ht:∀ o x,letTemporaryGo e o x=pure ())
  (h:∃ T id,s₂.TypeIs o T/\typeLookup (.type T) "__getitem__" =pure (some (.builtin id))/\wpAny C.M A (getItem o i) P NoE s₂):wpAny C.M A (operate ops (getItem o i)) (λr s₃=>wpAny C.M A (letTemporaryGo e o r >>=λ_=>pure r) P NoE s₃) NoE s₂:=
 let ⟨_,_,_,_,h₂⟩:=h
 wpAny_operating (wpAny_mono h₂ (λr s₃ h₃=>wpAny_bind (wpAny_of_eq (ht o r) (wpAny_pure h₃))) λ_ _ x=>x)
theorem EV.slice{e:Expr}{l u:Option Expr}{p pos:Pos}{f f1 f2:EF}(h:EV C r env e f)(h1:PV C r env l f1)(h2:PV C r env u f2)(ht:∀ o x,letTemporaryGo e o x=pure ():=by exact λ_ _=>rfl):EV C r env (.Subscript e (.Slice l u Option.none p) pos) (eV f f1 f2 (eK .none)):=by
 intro A s ρ H lo Q hr S F q
 rw [eval_Subscript]
 refine wpAny_bind (wpAny_mono (m9 (p:=p) (st:=Option.none) h h1 h2 PV.none hr S F q) (λo s₁ h₁=>wpAny_bind (wpAny_holding (wpAny_mono h₁ (λi s₂ h₂=>wpAny_bind (wpAny_standAt ?_)) λ_ _ x=>x)))
  λ_ _ x=>x)
 have fin:=oZ (ops:=[i,o]) ht h₂
 refine b8 h₂ λT id hT hl _=>?_
 refine wpAny_bind ?_
 rw [getitemInPython_of_ne hT.not_modules]
 refine wpAny_bind (wpAny_specialOf hT hl ?_)
 first
  |exact wpAny_pure (wpAny_bind fin)
  |exact wpAny_bind (wpAny_pure (wpAny_bind fin))
  |exact wpAny_bind fin
theorem EV.slice3{e st:Expr}{l u:Option Expr}{p pos:Pos}{f f1 f2 f3:EF}(h:EV C r env e f)(h1:PV C r env l f1)(h2:PV C r env u f2)(h3:EV C r env st f3)(ht:∀ o x,letTemporaryGo e o x=pure ()):EV C r env (.Subscript e (.Slice l u (some st) p) pos) (eV f f1 f2 f3):=by
 intro A s ρ H lo Q hr S F q
 rw [eval_Subscript]
 refine wpAny_bind (wpAny_mono (m9 (p:=p) (st:=some st) h h1 h2 h3 hr S F q) (λo s₁ h₁=>wpAny_bind (wpAny_holding (wpAny_mono h₁ (λi s₂ h₂=>wpAny_bind (wpAny_standAt ?_)) λ_ _ x=>x)))
  λ_ _ x=>x)
 have fin:=oZ (ops:=[o,i]) ht h₂
 refine b8 h₂ λT id hT hl _=>?_
 refine wpAny_bind ?_
 rw [getitemInPython_of_ne hT.not_modules]
 refine wpAny_bind (wpAny_specialOf hT hl ?_)
 first
  |exact wpAny_pure (wpAny_bind fin)
  |exact wpAny_bind (wpAny_pure (wpAny_bind fin))
  |exact wpAny_bind fin
end
section
open PySem PySem.W PyProof.Rows PySem.Calls PyProof
variable {C:Cx}{r:Nat}{env:Env}
noncomputable def PyData.kids:PyData->Option (Bool×List PyData) | .tuple xs=>some (true,xs) | .list xs=>some (false,xs) |_=>none
noncomputable def inB(H:MH)(a b:V):Option Bool:=(rd H eqD a).bind λd=>((rd H eqD b).bind PyData.kids).bind λp=>if PyData.canLayAll0 p.2 && d.canLay0 && decide (d.depth<50) then some (p.2.any λy=>PyData.eqv y d) else none
noncomputable def oIn(f:Bool->Bool):OpF:=λa b H=>(inB H a b).map λt=>(.bool (f t),H)
theorem Room.deep{r:Nat}{A:Around}(h:Room r A){n m:Nat}(hm:m<50):A.units+1+min n m<cLine:=by
 have:=h.2.2
 have h2:min n m<=m:=Nat.min_le_right _ _
 show _<9900
 exact A28 hm this
theorem aH6{d:PyData}{t:Bool}{xs:List PyData}(e:PyData.kids d=some (t,xs)):d=bif t then .tuple xs else .list xs:=by
 cases d with
 |tuple ys=>cases e;rfl
 |list ys=>cases e;rfl
 |_=>first |exact aQ e |cases e
theorem OpR.in2{op:Value->Value->Sem Value}{f:Bool->Bool}
  (h1:∀ {A:Around}{s:Shared}{a b:Value}{d:PyData}{xs:List PyData}{as bs:List Addr}{Q:Value->Shared->Prop},Reads s.heap b (.tuple xs) bs->Reads s.heap a d as->PyData.canLayAll0 xs=true->d.canLay0=true->(∀ n,A.units+1+min n d.depth<cLine)->Q (.bool (f (xs.any λy=>PyData.eqv y d))) s->wpAny C.M A (op a b) Q NoE s)
  (h2:∀ {A:Around}{s:Shared}{a b:Value}{d:PyData}{xs:List PyData}{as bs:List Addr}{Q:Value->Shared->Prop},Reads s.heap b (.list xs) bs->Reads s.heap a d as->PyData.canLayAll0 xs=true->d.canLay0=true->(∀ n,A.units+1+min n d.depth<cLine)->Q (.bool (f (xs.any λy=>PyData.eqv y d))) s->wpAny C.M A (op a b) Q NoE s):OpR C r op (oIn f):=by
 refine OpR.of ?_
 intro A s ρ H a b va vb v H' hr S ra rb e
 refine xEA (Option.map_eq_some_iff.mp e) λt e e3=>?_
 refine xEA (Option.bind_eq_some_iff.mp e) λd hd e=>?_
 refine xEA (Option.bind_eq_some_iff.mp e) λz64 hx e=>?_;obtain⟨tt,xs⟩:=z64
 refine xEA (Option.bind_eq_some_iff.mp hx) λd2 hd2 hk=>?_
 split at e
 ·rename_i hs
  refine xE (hU S _ ra hd) λas r1=>?_
  refine xE (hU S _ rb hd2) λbs r2=>?_
  rw [aH6 hk]at r2
  cases e
  cases e3
  simp only[Bool.and_eq_true,decide_eq_true_eq]at hs
  cases tt with
  |true=>exact h1 r2 r1 hs.1.1 hs.1.2 (λn=>hr.deep hs.2) (.here S (.bool _))
  |false=>exact h2 r2 r1 hs.1.1 hs.1.2 (λn=>hr.deep hs.2) (.here S (.bool _))
 ·first |exact aQ e |cases e
theorem OpR.notIn:OpR C r (compareOp .NotIn) (oIn not):=OpR.in2 (λr2 r1 h1 h2 h3 q=>PySem.SeqAt.notIn_tuple_reads r2 r1 h1 h2 (h3 _) q) λr2 r1 h1 h2 h3 q=>PySem.SeqAt.notIn_list_reads r2 r1 h1 h2 (h3 _) q
noncomputable def V.no:V->Bool | .none=>true |_=>false
theorem VR.noT{ρ:List Lc}{h:Heap}{u:Value}{v:V}(r:VR ρ h u v)(e:v.no=true):u= .none:=by
 cases v with
 |none=>exact r.inv
 |_=>first |exact aQ e |cases e
theorem VR.noF{ρ:List Lc}{h:Heap}{u:Value}{v:V}(r:VR ρ h u v)(e:v.no=false):u≠ .none:=by
 rintro rfl
 cases v with
 |none=>cases e
 |bool=>exact Value.noConfusion r.inv
 |int=>refine xE r.inv λ_ h=>?_;exact Value.noConfusion h
 |str=>refine xE r.inv λ_ h=>?_;exact Value.noConfusion h
 |tup=>refine iS r.inv λ_ _ _ h _=>?_;exact Value.noConfusion h
 |mat=>refine kW r.inv λ_ _ _ _ _ _ h _=>?_;exact Value.noConfusion h
 |ref=>refine xEA r.inv λ_ h _=>?_;exact Value.noConfusion h
 |dget=>refine bP r.inv λ_ _ h _=>?_;exact Value.noConfusion h
 |scon=>refine bP r.inv λ_ _ h _=>?_;exact Value.noConfusion h
 |rng=>refine oK r.inv λ_ _ _ _ h _=>?_;exact Value.noConfusion h
 |raw=>exact Value.noConfusion r.inv
noncomputable def isV(a b:V)(H:MH):Option Bool:=bif b.no then some a.no else b.rf.bind λj=>bif a.no then some false else a.rf.bind λi=>if i=j then some true else(lst H a).map λ_=>false
theorem aDn{H:MH}{ρ:List Lc}{s:Shared}{i j:Nat}{li lj:Lc}(S:Sim C H ρ s)(hi:ρ[i]? =some li)(hj:ρ[j]? =some lj)(h:i≠j):li.a≠lj.a:=
 λe=>S.disj i j li lj hi hj h li.a (.inl rfl) (.inl e)
noncomputable def IsR(M:Model)(A:Around)(a b:Value)(t:Bool)(s:Shared):Prop:=∀ Q:Value->Shared->Prop,(Q (.bool t) s->wpAny M A (compareOp .Is a b) Q NoE s)/\(Q (.bool (!t)) s->wpAny M A (compareOp .IsNot a b) Q NoE s)
theorem is_ok{A:Around}{s:Shared}{ρ:List Lc}{H:MH}{a b:Value}{va vb:V}{t:Bool}(S:Sim C H ρ s)(ra:VR ρ s.heap a va)(rb:VR ρ s.heap b vb)(e:isV va vb H=some t):IsR C.M A a b t s:=by
 unfold isV at e
 cases hb:vb.no with
 |true=>
  rw [hb]at e
  rw [rb.noT hb]
  cases ha:va.no with
  |true=>rw [ha]at e;cases e;rw[ra.noT ha];exact λQ=>⟨λh=>wpAny_is_self rfl h,λh=>wpAny_isNot_self rfl h⟩
  |false=>rw [ha]at e;cases e;exact λQ=>⟨λh=>is_none_ne (ra.noF ha) h,λh=>isnot_none_ne (ra.noF ha) h⟩
 |false=>
  rw [hb]at e
  refine xEA (Option.bind_eq_some_iff.mp e) λj hj e=>?_
  refine dC (rb.toRef hj) λlj _ z65 g=>?_;subst z65
  cases ha:va.no with
  |true=>rw [ha]at e;cases e;rw[ra.noT ha];exact λQ=>⟨λh=>wpAny_is_other rfl (by intro x;cases x) h,λh=>wpAny_isNot_other rfl (by intro x;cases x) h⟩
  |false=>
   rw [ha]at e
   refine xEA (Option.bind_eq_some_iff.mp e) λi hi e=>?_
   refine dC (ra.toRef hi) λli _ hli g'=>?_
   split at e
   ·rename_i hij
    cases e
    subst hij
    rw [g]at g';cases g'
    subst hli
    exact λQ=>⟨λh=>wpAny_is_ref_self h,λh=>wpAny_isNot_ref_self h⟩
   ·rename_i hij
    refine xEA (Option.map_eq_some_iff.mp e) λvs hl e=>?_
    cases e
    refine b8 (cZ S ra hl) λad xs e1 z66 _=>?_;obtain⟨o,ho,hc,_⟩:=z66
    subst hli
    cases e1
    refine xA (S.live g) λz67 _=>?_;obtain⟨oj,hoj,_⟩:=z67
    have hc':o.cls≠ .type "tuple" :=by rw[hc];intro x;injection x with x;revert x;decide
    exact λQ=>⟨λh=>wpAny_is_ref_other (aDn S g' g hij) ho hoj hc' h,λh=>wpAny_isNot_ref_other (aDn S g' g hij) ho hoj hc' h⟩
noncomputable def oIs(f:Bool->Bool):OpF:=λa b H=>(isV a b H).map λt=>(.bool (f t),H)
theorem OpR.is_:OpR C r (compareOp .Is) (oIs id):=OpR.of λhr S ra rb e=>by
 refine xEA (Option.map_eq_some_iff.mp e) λt ht e=>?_
 cases e
 exact(is_ok S ra rb ht _).1 (.here S (.bool _))
theorem OpR.isNot:OpR C r (compareOp .IsNot) (oIs not):=OpR.of λhr S ra rb e=>by
 refine xEA (Option.map_eq_some_iff.mp e) λt ht e=>?_
 cases e
 exact(is_ok S ra rb ht _).2 (.here S (.bool _))
noncomputable def eOr(f g:EF):EF:=λlo H Q=>f lo H λv H1=>Lf (tr v H1) λt=>bif t then Q v H1 else g lo H1 Q
theorem EV.or2{e1 e2:Expr}{pos}{f g:EF}(h1:EV C r env e1 f)(h2:EV C r env e2 g):EV C r env (.BoolOp .Or [e1,e2] pos) (eOr f g):=
 λ_ _ _ _ _ _ hr S F q=>BoolOp_or (h1.run hr S F q λS1 N1 r1 q=>q.elim λt ht q=>mB S1 r1 ht λk=>by
  cases t with
  |true=>rw [if_pos rfl];exact⟨S1.toks k,N1.trans (.toks k),r1,q⟩
  |false=>rw [if_neg (by decide)];exact BoolOp_one (wmN (h2 hr (S1.toks k) ((F.nx N1).nx (.toks k)) q) λ_ _ p=>p.from (N1.trans (.toks k))))
end
section
variable {C:Cx}{r:Nat}{env:Env}
theorem Sim.iterX{H:MH}{ρ:List Lc}{s:Shared}{h':Heap}{k:Nat}{X:Addr->Prop}(S:Sim C H ρ s)(hk:∀ b o,¬X b->s.heap.get? b=some o->h'.get? b=some o)(hi:∀ a o,X a->s.heap.get? a=some o->¬aW o)(hX:∀ b,X b->¬Own ρ b/\C.base.heap.get? b=none):
  Sim C H ρ {s with heap:=h',toks:=k}/\NxI ρ X s ρ {s with heap:=h',toks:=k}:=by
 have im:Imm s.heap h':=λb o e i=>Classical.byCases (λq:X b=>absurd i (hi b o q e)) λq=>hk b o q e
 refine⟨S.same (λb o e q=>hk b o (λz=>?_) e) im (λ_ _ e=>e) rfl S.bare,⟨List.prefix_refl _,λl hl=>by simp at hl,λb o e _ q=>hk b o q e,im,λb o e q=>⟨o,hk b o q e⟩⟩⟩
 refine Or.elim q (λq=>?_) λq=>?_
 ·exact(hX b z).1 q
 ·rw[(hX b z).2]at q;cases q
inductive EnR(ρ:List Lc)(h:Heap)(it:Nat×Nat):Value->(Addr->Prop)->Prop
 |mk {e t l old} (h1:ρ[it.1]? =some l) (h2:e≠t) (h3:IsEnum h e t it.2 old) (h4:h.IsListIter t l.a it.2):EnR ρ h it (.ref e) (λb=>b=e∨b=t)
inductive EnM(ρ:List Lc)(h:Heap)(it:Nat×Nat):Value->Value->(Addr->Prop)->Prop
 |mk {e t l item a} (h1:ρ[it.1]? =some l) (h2:e≠t) (h3:IsEnumOut h e t it.2 item a) (h4:h.IsListIter t l.a it.2):EnM ρ h it (.ref a) (.ref e) (λb=>b=e∨b=t)
theorem aFt{h:Heap}{e t:Addr}{o1 o2:Obj}(h1:h.get? e=some o1)(h2:h.get? t=some o2)(i1: ¬aW o1)(i2: ¬aW o2):∀ b o,(b=e∨b=t)->h.get? b=some o->¬aW o:=λb o q e'=>by
 rcases q with rfl |rfl
 ·rw[h1]at e';cases e';exact i1
 ·rw[h2]at e';cases e';exact i2
theorem tU{o:Obj}{x y:Value}(h4:o.cls= .type "list_iterator")(h5:o.data= .fields #[x,y]): ¬aW o:=by unfold aW;rw[h5];simp [h4]
noncomputable def j4(C:Cx):ItK C where
 σ:=Nat×Nat
 nx:=λit H Q=>Lf (lst H (.ref it.1)) λvs=>Q ((vs[it.2]?).map λv=>(.tup [.int it.2,v],(it.1,it.2+1))) H
 rel:=λρ s it x X=>EnR ρ s.heap it x X
 mid:=λρ s it u x X=>EnM ρ s.heap it u x X
 tg:=λt=>∃ elts k pos,t= .Tuple elts k pos
 need:=0
 mono:=λR p i hk=>by
  cases R with
  |mk h1 h2 h3 h4=>refine xEA h4 λo h4 h5=>?_;exact .mk (aO p h1) h2 (hk _ _ (.inl rfl) h3) ⟨o,hk _ _ (.inr rfl) h4,h5⟩
 alive:=λR b hb=>by
  cases R with
  |mk h1 h2 h3 h4=>
   refine xEA h4 λo h4 h5=>?_
   rcases hb with rfl |rfl
   ·exact⟨_,h3⟩
   ·exact⟨_,h4⟩
 next:=λ{A s ρ H it x X Q r} _ hr S R hX q=>by
  refine q.elim λvs hl q=>?_
  cases R with
  |mk h1 h2 h3 hit=>
  refine b8 (cZ S (.ref h1) hl) λad xs q1 q2 q3=>?_
  cases q1
  have hi:∀ b o,_->s.heap.get? b=some o->¬aW o:=let ⟨o,h4,h5,h6⟩:=hit;aFt h3 h4 (by simp [aW]) (tU h5 h6)
  cases hv:vs[it.2]? with
  |some v=>
   rw [hv]at q
   refine xEA (q3.get hv) λu hu ru=>?_
   refine wpAny_pyNext_enum_item h3 hit q2 (by simpa using hu) h2 λh' a1 a2 a3 a4 a5=>?_
   have st:=S.iterX (h':=h') (k:=s.toks+1) (λb o hb e'=>a5 b o (λz=>hb (.inl z)) (λz=>hb (.inr z)) e') hi hX
   exact .item (it':=(it.1,it.2+1)) st.1 st.2 (.tup a3 (.cons (.int _ _) (.cons (ru.mono (List.prefix_refl _) st.2.imm) .nil))) (.mk h1 h2 a1 a2) q
  |none=>
   rw [hv]at q
   refine wpAny_pyNext_enum_end hr.1 h3 hit q2 (Array.getElem?_eq_none (by rw[q3.sz];exact List.getElem?_eq_none_iff.mp hv)) λh' he=>?_
   have st:=S.iterX (h':=h') (k:=s.toks) (λb o hb e'=>he b o (λz=>hb (.inr z)) e') hi hX
   exact .done st.1 st.2 q
 lgo:=λ{A s ρ H it x X u target r} hr S M tg hX=>by
  refine xEEE tg λelts k pos z68=>?_;clear tg;subst z68
  cases M with
  |mk h1 h2 h3 hit=>
  have hi:∀ b o,_->s.heap.get? b=some o->¬aW o:=let ⟨o,h4,h5,h6⟩:=hit;aFt h3 h4 (by simp [aW]) (tU h5 h6)
  refine wpAny_letOwnedTupleGo_enum h3 λh' a1 hs=>?_
  have st:=S.iterX (h':=h') (k:=s.toks) (λb o hb e'=>(hs.2 b (λz=>hb (.inl z))).trans e') hi hX
  refine xEA hit λo h4 h5=>?_
  exact⟨st.1,st.2,.mk h1 h2 a1 ⟨o,(hs.2 _ (Ne.symm h2)).trans h4,h5⟩⟩
theorem IV.enum{e:Expr}{np pos:Pos}{f:EF}(h:EV C r env e f)(hg:Glo C "enumerate" (.type "enumerate"))(hk:env.kindOf "enumerate" =some .globalImplicit)(hfl:qY env [e])(he:starEach [e] env=(false,eval e env) :: starEach [] env):
  IV (j4 C) r env (.Call (.Name "enumerate" np) [e] [] pos) (iL f):=
 λA s ρ H lo Q hr S F q=>wpAny_Call_ofName (mW hg hk (by decide) S F (callWith_of (P:=λh=>∀ b o,C.base.heap.get? b=some o->h.get? b=some o) (by rw[hfl.2];rfl) d6
  (wmN (l9 (Q:=λvs H1=>Lf (one vs) λv=>Lf v.rf λi=>(∃ vs,lst H1 (.ref i)=some vs)/\Q (i,0) H1) (EVs.cons h EVs.nil he) hfl hr S F q) λa s1 p=>by
  obtain⟨ps,kw⟩:=a
  obtain⟨hkw,S1,N1,rs,q⟩:=p
  cases hkw
  refine⟨S1.keep,q.elim λv hv q=>q.elim λi hi q=>?_⟩
  refine xEA (kG rs hv) λu hu r1=>?_
  cases hu
  refine dC (r1.toRef hi) λl z69 z70 g=>?_;subst z69;subst z70
  refine xA q λz71 q=>?_;obtain⟨vs,hl⟩:=z71
  refine b8 (cZ S1 r1 hl) λad xs e q2 q3=>?_
  cases e
  refine call_enumerate_list q2 λh' g1 g2 g3 g4=>wpAny_pyIter_enum g1 ?_
  have fr1:s1.heap.get? (s1.heap.objs.size+1)=none:=by
   cases e':s1.heap.get? (s1.heap.objs.size+1) with
   |none=>rfl
   |some o=>exact absurd (Heap.lt_size e') (Nat.not_lt.mpr (Nat.le_succ _))
  exact⟨S1.ext g4,N1.trans (.ext g4),.mk g (Nat.succ_ne_self _) g1 g2,λb hb=>by
   rcases hb with rfl |rfl
   ·exact c4 N1 S1 fr1
   ·exact c4 N1 S1 (bJ _),q⟩)))
noncomputable def MO.dct:MO->Option (Nat×(Int->Option V)) | .dict n f=>some (n,f) |_=>none
theorem yM{m:Option MO}{p:Nat×(Int->Option V)}(e:m.bind MO.dct=some p):m=some (.dict p.1 p.2):=by
 refine xEA (Option.bind_eq_some_iff.mp e) λm z72 h2=>?_;subst z72
 cases m with
 |dict n f=>cases h2;rfl
 |_=>cases h2
theorem tP{H:MH}{ρ:List Lc}{s:Shared}{i:Nat}{l:Lc}{n:Nat}{f:Int->Option V}(S:Sim C H ρ s)(hl:ρ[i]? =some l)(hH:H[i]? =some (.dict n f))(hb:∃ o,C.base.heap.get? sysModules=some o):(l.a==sysModules)=false:=by
 rcases S.ro i l hl with ⟨vs,e⟩ |e
 ·rw[hH]at e;cases e
 ·rw[beq_eq_false_iff_ne]
  intro q
  refine xE hb λo ho=>?_
  rw [q,ho]at e
  cases e.1
structure DctAt(C:Cx)(H:MH)(ρ:List Lc)(s:Shared)(i:Nat)(l:Lc)(n:Nat)(f:Int->Option V)(kvs:List (Int×Value)):Prop where
 g:ρ[i]? =some l
 d:l.d=l.a
 gn:l.g=none
 h:H[i]? =some (.dict n f)
 x:s.heap.DictOf (intKind C.prog C.w) l.a kvs
 le:kvs.length<=n
 f:∀ k,OV ρ s.heap (valueAt kvs k) (f k)
theorem uL{H:MH}{ρ:List Lc}{s:Shared}(S:Sim C H ρ s){i:Nat}{l:Lc}{n:Nat}{f:Int->Option V}(g:ρ[i]? =some l)(h:H[i]? =some (.dict n f)):∃ kvs,DctAt C H ρ s i l n f kvs:=
 let ⟨h1,h2,kvs,hx,hle,hf⟩:=S.objs i _ l h g;⟨kvs,g,h1,h2,h,hx,hle,hf⟩
theorem sB{o:Expr}{f:EF}{name:Str}{id:String}{apos pos:Pos}{args:List Expr}{A:Around}{K:Value->Shared->Prop}{s:Shared}{ρ:List Lc}{H:MH}{lo:Lo}{Q:EK}
  (ho:EV C r env o f) (sh:fF env o name apos pos args) (slot:Slot "dict" name id) (hty:typeOf (.builtin id)=pure (.type "method_descriptor")) (hr:Room r A) (S:Sim C H ρ s) (F:Fm C env ρ s lo) (e:f lo H Q)
  (hQ:∀ v H1,Q v H1->∃ i n g,v.rf=some i/\H1[i]? =some (.dict n g))
  (h:∀ {s1 ρ1 l i n g H1},Sim C H1 ρ1 s1->Nx ρ noW s ρ1 s1->ρ1[i]? =some l->H1[i]? =some (.dict n g)->Q (.ref i) H1->wpAny C.M A (callWith pos (.builtin id) [.ref l.a] (backTo pos (starEach args env)) []) K NoE s1):
  wpAny C.M A (eval (.Call (.Attribute o name apos) args [] pos) env) K NoE s:=
 eB (P:=λ_ _=>True) sh.base sh.few sh.line (ho.run hr S F e λS1 N1 r1 q pl=>by
  refine iS (hQ _ _ q) λi n gg hi hv=>?_
  refine dC (r1.toRef hi) λl hv' z73 g=>?_;subst z73
  subst hv'
  refine xE (uL S1 g hv) λkvs D=>?_
  have hx:=D.x
  refine fX hx λob es ep hob z74 _=>?_;obtain⟨hc1,hc2,hc3⟩:=z74
  exact getMethod_builtin ⟨_,hob,hc1⟩ PySem.F.plainAttrs_dict slot hty (λa e=>by cases e;exact⟨_,hob,hc2⟩) (h S1 N1 g hv q))
noncomputable def eD2(f f1 f2:EF)(k:Nat->Nat->(Int->Option V)->Int->V->MH->EK->Prop):EF:=λlo H Q=>f lo H λa H1=>Lf a.rf λi=>(∃ n g,H1[i]? =some (.dict n g))/\f1 lo H1 λb H2=>Lf (Ti b) λx=>f2 lo H2 λv H3=>Lf (H3[i]?.bind MO.dct) λp=>k i p.1 p.2 x v H3 Q
noncomputable def aFv(f f1 f2:EF):EF:=eD2 f f1 f2 λi n g x v H3 Q=>n<1000000/\match g x with |some v'=>Q v' H3 |none=>Q v (H3.set i (.dict (n+1) (dput g x v)))
theorem OV.same{ρ:List Lc}{h:Heap}{u:Option Value}{w:Option V}(o:OV ρ h u w):(u=none/\w=none)∨∃ x v,u=some x/\w=some v/\VR ρ h x v:=by
 cases u<;>cases w
 ·exact .inl ⟨rfl,rfl⟩
 ·exact False.elim o
 ·exact False.elim o
 ·exact .inr ⟨_,_,rfl,rfl,o⟩
theorem EV.setdefault{o e1 e2:Expr}{f f1 f2:EF}{apos pos:Pos}(hb:∃ o,C.base.heap.get? sysModules=some o)(ho:EV C r env o f)(h1:EV C r env e1 f1)(h2:EV C r env e2 f2)(sh:fF env o "setdefault" apos pos [e1,e2])(ht:backTo pos (starEach [e1,e2] env)= [(false,eval e1 env),(false,eval e2 env)]):
  EV C r env (.Call (.Attribute o "setdefault" apos) [e1,e2] [] pos) (aFv f f1 f2):=
 λ_ _ _ _ _ _ hr S F q=>sB ho sh PySem.F.slot_dict_setdefault PySem.F.type_dict_setdefault hr S F q (λv H1 q=>q.elim λi hi q=>let ⟨n,g,h⟩:=q.1;⟨i,n,g,hi,h⟩) λ{s1 ρ1 l i n g H1} S1 N1 hl hw q=>by
  rw [ht]
  refine method2_meetsIn PySem.F.slot_dict_setdefault PySem.F.entry_dict_setdefault (h1.run hr S1 (F.nx N1) q.2 λ{x s2 ρ2 v2 H2} S2 N2 r2 q=>q.elim λk hk q=>h2.run hr S2 ((F.nx N1).nx N2) q λ{b s3 ρ3 v3 H3} S3 N3 r3 q=>q.elim λp hp q=>?_)
  refine xE (uL S3 (aO (N2.trans N3).pre hl) (yM hp)) λkvs D=>?_
  have N:=N1.trans (N2.trans N3)
  refine xE (r2.tiE hk) λt z75=>?_;subst z75
  refine xA q λhn q=>?_
  refine⟨D.x.mapOf.typeIs,PySem.F.args_dict_setdefault_3 _ _ _,_,kt_meets_setdefault (intKind C.prog C.w) (k:=k) l.a (intKind_is _ _ _ _) (tP S3 D.g D.h hb) b,kvs,D.x,by have:=D.le;rw[sizeLine_eq];exact A29 hn this,λu hu=>?_,λhu h' hx' hs=>?_⟩
  ·rcases(D.f k).same with ⟨e,_⟩ |⟨x',v',e,e',rv⟩
   ·rw[hu]at e;cases e
   ·rw[hu]at e;cases e;rw[e']at q;exact bZ.from N (.tok S3 rv q)
  ·rcases(D.f k).same with ⟨_,e'⟩ |⟨x',v',e,_⟩
   ·rw[e']at q
    have st:=S3.setD (tk:=s3.toks+1) (k:=k) D.g D.h D.d D.gn D.x D.le D.f r3 hx' hs
    exact bZ.from N ⟨st.1,st.2 _,r3.nx (st.2 noW),q⟩
   ·rw[hu]at e;cases e
noncomputable def eGet(f f1 f2:EF):EF:=eD2 f f1 f2 λi n g x v H3 Q=>Q ((g x).getD v) H3
theorem EV.get{o e1 e2:Expr}{f f1 f2:EF}{apos pos:Pos}(hb:∃ o,C.base.heap.get? sysModules=some o)(ho:EV C r env o f)(h1:EV C r env e1 f1)(h2:EV C r env e2 f2)(sh:fF env o "get" apos pos [e1,e2])(ht:backTo pos (starEach [e1,e2] env)= [(false,eval e1 env),(false,eval e2 env)]):
  EV C r env (.Call (.Attribute o "get" apos) [e1,e2] [] pos) (eGet f f1 f2):=
 λ_ _ _ _ _ _ hr S F q=>sB ho sh PySem.F.slot_dict_get PySem.F.type_dict_get hr S F q (λv H1 q=>q.elim λi hi q=>let ⟨n,g,h⟩:=q.1;⟨i,n,g,hi,h⟩) λ{s1 ρ1 l i n g H1} S1 N1 hl hw q=>by
  rw [ht]
  refine wpAny_dict_get2 (knd:=intKind C.prog C.w) (tP S1 hl hw hb) (h1.run hr S1 (F.nx N1) q.2 λ{x s2 ρ2 v2 H2} S2 N2 r2 q=>q.elim λk hk q=>h2.run hr S2 ((F.nx N1).nx N2) q λ{b s3 ρ3 v3 H3} S3 N3 r3 q=>q.elim λp hp q=>?_)
  refine xE (uL S3 (aO (N2.trans N3).pre hl) (yM hp)) λkvs D=>?_
  have N:=N1.trans (N2.trans N3)
  refine xE (r2.tiE hk) λt z76=>?_;subst z76
  dsimp only at q
  refine⟨k,_,intKind_is _ _ _ _,D.x.mapOf,?_⟩
  rcases(D.f k).same with ⟨e,e'⟩ |⟨x',v',e,e',rv⟩
  ·rw[e];rw[e']at q;exact bZ.from N (.tok S3 r3 q)
  ·rw[e];rw[e']at q;exact bZ.from N (.tok S3 rv q)
end
section
variable {C:Cx}{r:Nat}{env:Env}
noncomputable def fP:List (Str×Addr):=[("__init__",160),("set_seqs",167),("set_seq1",174),("set_seq2",181),("_SequenceMatcher__chain_b",188),("find_longest_match",196),("get_matching_blocks",203),("get_opcodes",210),("get_grouped_opcodes",218)]
structure SMC(C:Cx):Prop where
 cls:∃ nm q bs sn sub col dd k0 k1 k2 k3 k5,C.base.heap.get? dY=some (excClassObj nm q dY 241 bs [.type "object"] true sn sub false col dd k0 k1 k2 k3 k5 "object.__new__")
 ns:∃ mN,C.base.heap.Ns 241 mN/\(∀ x∈dQ,mN x=none)/\mN "__getattribute__" =none/\mN "__getattr__" =none/\mN "__setattr__" =none/\∀ p∈fP,mN p.1=some (.ref p.2)
 fn:∀ p∈fP,∃ o,C.base.heap.get? p.2=some o/\o.cls= .type "function"
theorem vL:∀ x∈dQ,typeLookup (.type "object") x=pure none:=by
 intro x hx
 simp only[dQ,List.mem_cons,List.not_mem_nil,or_false]at hx
 rcases hx with rfl |rfl |rfl |rfl |rfl |rfl |rfl |rfl |rfl |rfl<;>(rw [typeLookup_type,builtinLookup_eq_fast];kernel_rfl)
theorem aDv:∀ p∈fP,∃ y,typeLookup (.type "object") p.1=pure y:=by
 intro p hp
 simp only[fP,List.mem_cons,List.not_mem_nil,or_false]at hp
 rcases hp with rfl |rfl |rfl |rfl |rfl |rfl |rfl |rfl |rfl
 ·exact⟨some (.builtin "object.__init__"),by rw[typeLookup_type,builtinLookup_eq_fast];kernel_rfl⟩
 all_goals exact⟨none,by rw[typeLookup_type,builtinLookup_eq_fast];kernel_rfl⟩
theorem tY{H:MH}{ρ:List Lc}{s:Shared}{i:Nat}{l:Lc}{fs:Str->Option V}(S:Sim C H ρ s)(hl:ρ[i]? =some l)(hH:H[i]? =some (.inst fs)):
  ∃ m,s.heap.InstFk l.a dY m/\Within m dQ/\∀ x,OV ρ s.heap (m x) (fs x):=by
 refine oM (S.objs i _ l hH hl) λg ne z77 m h5 h6 h7 h8=>?_;obtain⟨o,h1,h2,h3,h4⟩:=z77
 exact⟨m,⟨o,h1,h2,(λc=>by rw[h3];intro q;cases q),.inr ⟨l.d,h4,ne,h5,h6⟩⟩,h7,h8⟩
theorem VR.handed{ρ:List Lc}{h:Heap}{u:Value}{v:V}(rv:VR ρ h u v):handedOut u=pure u:=by
 cases rv<;>rfl
noncomputable def MO.ins:MO->Option (Str->Option V) | .inst fs=>some fs |_=>none
theorem aEv{m:Option MO}{fs:Str->Option V}(e:m.bind MO.ins=some fs):m=some (.inst fs):=by
 refine xEA (Option.bind_eq_some_iff.mp e) λm z78 h2=>?_;subst z78
 cases m with
 |inst f=>cases h2;rfl
 |_=>cases h2
noncomputable def d4(x:Str)(f:EF):EF:=λlo H Q=>f lo H λa H1=>Lf a.rf λi=>Lf (H1[i]?.bind MO.ins) λfs=>Lf (fs x) λv=>Q v H1
theorem t4{A:Around}{s:Shared}{ρ:List Lc}{H:MH}{i:Nat}{l:Lc}{fs:Str->Option V}{x:Str}{v:V}{b:Bool}{K E:Value->Shared->Prop}(KK:SMC C)(hx:x∈dQ)(S:Sim C H ρ s)(hl:ρ[i]? =some l)(hH:H[i]? =some (.inst fs))(hv:fs x=some v)
  (k:∀ u n,VR ρ s.heap u v->K u {s with toks:=n}):wpAny C.M A (getAttr (.ref l.a) x b) K E s:=by
 refine dC (tY S hl hH) λm I W hm=>?_
 refine fW KK.cls λnm q bs sn sub col dd k0 k1 k2 k3 k5 hC=>?_
 refine sR KK.ns λmN hn hna hng hga hsa hme=>?_
 refine(hm x).elim hv λu hmx ru=>?_
 obtain⟨hh,g,d,t,os⟩:=s
 exact load_attrFk (S.keep _ _ hC) (k8 hn S.keep) hng (hna x hx) (vL x hx) I hmx (VR.handed ru) (k u _ ru)
theorem dH{e:Expr}{x:Str}{pos:Pos}{prog:Program}{w:World}{A:Around}{E:Value->Shared->Prop}{s:Shared}{Q:Value->Shared->Prop}(hb:attributeBase e x env (eval e env)=eval e env)
  (h:wpAny (model prog w) A (eval e env) (λo s1=>wpAny (model prog w) A (getAttr o x true) Q E s1) E s):wpAny (model prog w) A (eval (.Attribute e x pos) env) Q E s:=by
 show wpAny (model prog w) A (do
  let o<-attributeBase e x env (eval e env)
  standAt pos.atName
  let r<-holding [o] (getAttr o x true)
  letTemporaryGo e o r
  pure r) _ _ s
 rw [hb]
 refine wpAny_bind (wpAny_mono h ?_ λ_ _ z=>z)
 intro o s1 h1
 refine wpAny_bind (wpAny_standAt (wpAny_bind (wpAny_holding (wpAny_mono h1 ?_ λ_ _ z=>z))))
 intro y s2 p
 exact wpAny_bind (wpAny_letTemporaryGo (wpAny_pure p))
theorem EV.attr{e:Expr}{x:Str}{pos:Pos}{f:EF}(K:SMC C)(hx:x∈dQ)(h:EV C r env e f)(hb:attributeBase e x env (eval e env)=eval e env:=by exact rfl)(ht:∀ o y,letTemporaryGo e o y=pure ():=by exact λ_ _=>rfl):EV C r env (.Attribute e x pos) (d4 x f):=
 λ_ _ _ _ _ _ hr S F q=>dH hb (h.run hr S F q λS1 N1 r1 q=>q.elim λi hi q=>q.elim λfs hf q=>q.elim λv hv q=>by
  refine dC (r1.toRef hi) λl _ z79 g=>?_;subst z79
  exact t4 K hx S1 g (aEv hf) hv λu n ru=>⟨S1.toks n,N1.trans (.toks n),ru,q⟩)
noncomputable def fput(fs:Str->Option V)(x:Str)(v:V):Str->Option V:=λy=>if y=x then some v else fs y
theorem tG{A:Around}{s:Shared}{ρ:List Lc}{H:MH}{i:Nat}{l:Lc}{fs:Str->Option V}{x:Str}{u:Value}{v:V}{W:Addr->Prop}(K:SMC C)(hx:x∈dQ)(S:Sim C H ρ s)(hl:ρ[i]? =some l)(hH:H[i]? =some (.inst fs))(rv:VR ρ s.heap u v):
  wpAny C.M A (setAttr (.ref l.a) x u) (λ_ s'=>Sim C (H.set i (.inst (fput fs x v))) ρ s'/\Nx ρ W s ρ s') NoE s:=by
 refine dC (tY S hl hH) λm I Wi hm=>?_
 refine fW K.cls λnm q bs sn sub col dd k0 k1 k2 k3 k5 hC=>?_
 refine sR K.ns λmN hn hna hng hga hsa hme=>?_
 refine xAAAEA (S.objs i _ l hH hl) λg ne z80 _ z81 _=>?_;obtain⟨o,h1,h2,h3,h4⟩:=z80;obtain⟨oD,esD,epD,hoD,hdD,_⟩:=z81
 have hbase:C.base.heap.get? l.a=none:=by
  rcases S.ro i l hl with ⟨vs,e⟩ |e
  ·rw[hH]at e;cases e
  ·exact e.1
 have hxC:l.a≠dY:=by intro e;rw[e,hC]at hbase;cases hbase
 obtain⟨hh,gg,d,t,os⟩:=s
 refine store_attrFk PySem.F.store_object (S.keep _ _ hC) (k8 hn S.keep) hsa (hna x hx) (vL x hx) hxC I (λh' tk' I' hk hsame=>?_) Wi (by rw[sizeLine_eq];decide)
 have kk:∀ b ob,¬l.has b->hh.get? b=some ob->h'.get? b=some ob:=λb ob hb e=>hk b ob (λz=>hb (.inl z)) (λo₀ d' e₀ ed=>by
  obtain rfl:=Option.some.inj (h1.symm.trans e₀);obtain rfl:=Option.some.inj (h4.symm.trans ed);exact λz=>hb (.inr z)) e
 have im:Imm hh h':=λb ob e i=>kk b ob (λz=>by
  rcases z with rfl |rfl
  ·rw[h1]at e;cases e;simp [aW,h3]at i
  ·rw[hoD]at e;cases e;simp [aW,hdD]at i) e
 refine aB9 (hsame o h1) λo₁ e₁ c₁ dt₁ _ dk₁=>?_
 refine xEAAA I' λo' e' c' _ hd'=>?_
 obtain rfl:=Option.some.inj (e₁.symm.trans e')
 have hd1:=dk₁ l.d h4
 rcases hd' with ⟨hn0,_⟩ |⟨d',hd',ne',hns',hex'⟩
 ·rw[hd1]at hn0;cases hn0
 obtain rfl:=Option.some.inj (hd1.symm.trans hd')
 have al:∀ b ob,hh.get? b=some ob->∃ ob',h'.get? b=some ob':=λb ob e=>by
  by_cases z:l.has b
  ·rcases z with rfl |rfl
   ·exact⟨_,e₁⟩
   ·refine iS hns' λo2 _ _ e2 _=>?_;exact⟨o2,e2⟩
  ·exact⟨ob,kk b ob z e⟩
 refine⟨S.upd (s':=⟨h',gg,d,tk',os⟩) hl hH (by intro _ h;cases h) (λb ob e hb=>kk b ob hb e) im rfl rfl ⟨g,ne,⟨o₁,e₁,c₁.trans h2,dt₁.trans h3,hd1⟩,_,hns',hex',?_,λy=>?_⟩ (by intro _ h;cases h),
  ⟨List.prefix_refl _,λl hl=>by simp at hl,λb ob e ho _=>kk b ob (λz=>ho ⟨l,List.mem_of_getElem? hl,z⟩) e,im,al⟩⟩
 ·intro y hy
  by_cases z:y=x
  ·subst z;exact hx
  ·exact Wi y (by simpa [z] using hy)
 ·unfold fput
  by_cases z:y=x
  ·simp only[z,if_true];exact rv.mono (List.prefix_refl _) im
  ·simp only[z,if_false];exact(hm y).mono (List.prefix_refl _) im
noncomputable def eJ(x:Str)(f:EF):AF:=λv lo H Q=>f lo H λa H1=>Lf a.rf λi=>Lf (H1[i]?.bind MO.ins) λfs=>Q lo (H1.set i (.inst (fput fs x v)))
theorem AV.attr{e:Expr}{x:Str}{pos:Pos}{f:EF}(K:SMC C)(hx:x∈dQ)(h:EV C r env e f):AV C r env (.Attribute e x pos) (eJ x f):=by
 intro A s ρ H lo u v Q hr S F rv q
 rw [assign_Attribute]
 exact wpAny_bind (wpAny_holding (h.run hr S F q λS1 N1 r1 q=>q.elim λi hi q=>q.elim λfs hf q=>by
  refine dC (r1.toRef hi) λl _ z82 g=>?_;subst z82
  refine wpAny_bind (wpAny_standAt (wpAny_bind (wpAny_holding (wmN (tG (W:=noW) K hx S1 g (aEv hf) (rv.nx N1)) λ_ s2 p=>?_))))
  exact wpAny_release ⟨p.1,(N1.trans p.2).wr,F.nx (N1.trans p.2),q⟩))
noncomputable def jN(g:CF)(f:EF)(fs:EFs):EF:=λlo H Q=>f lo H λa H1=>Lf a.rf λi=>(∃ ff,H1[i]? =some (.inst ff))/\fs lo H1 λvs H2=>g (.ref i :: vs) H2 Q
theorem aBs:∀ p∈fP,p.1∉dQ:=by decide+kernel
theorem EV.meth{o:Expr}{name:Str}{fa:Addr}{apos pos:Pos}{f:EF}{g:CF}{es:List Expr}{fs:EFs}(K:SMC C)(hp:(name,fa)∈fP)(hf:CV C r (.ref fa) g)(ho:EV C r env o f)(ha:EVs C r env es fs)(hfl:qY env es)(sh:fF env o name apos pos es):
  EV C r env (.Call (.Attribute o name apos) es [] pos) (jN g f fs):=
 λ_ _ _ _ _ _ hr S F q=>eB (P:=λ_ _=>True) sh.base sh.few sh.line (ho.run hr S F q λ{x s1 ρ1 v1 H1} S1 N1 r1 q pl=>q.elim λi hi q=>by
  refine dC (r1.toRef hi) λl _ hl g'=>?_
  subst hl
  refine xA q λz83 q=>?_;obtain⟨ff,hH⟩:=z83
  refine dC (tY S1 g' hH) λm I W hm=>?_
  refine fW K.cls λnm q' bs sn sub col dd k0 k1 k2 k3 k5 hC=>?_
  refine sR K.ns λmN hn hna hng hga hsa hme=>?_
  refine xEA (K.fn _ hp) λof hof hfc=>?_
  refine xE (aDv _ hp) λy hy=>?_
  have hsh:m name=Option.none:=by
   cases e:m name with
   |none=>rfl
   |some z=>exact absurd (W name (by rw[e];intro q;cases q)) (aBs _ hp)
  have key:=wmN (E:=NoE) (nM (pos:=pos) hf ha hfl hr S1 (F.nx N1) (.cons (VR.ref g') .nil) q) λ_ _ p=>p.from N1
  obtain⟨hh,gg,d,t,os⟩:=s1
  exact method_ofFk (S1.keep _ _ hC) (k8 hn S1.keep) hng hga (hme _ hp) (S1.keep _ _ hof) hfc hy I hsh key)
end
section
theorem zP:Slot "method_descriptor" "__get__" "method_descriptor.__get__" :=
 .of (owner:="method_descriptor") (n:="__get__") (by rw[typeLookup_type,builtinLookup_eq_fast];kernel_rfl) (by decide+kernel) (by decide+kernel) (by decide+kernel)
  (by first |exact .inl (by decide+kernel) |exact .inr (by decide+kernel)) (by rw[isSubtype_type];kernel_rfl)
theorem aD3:entryFor table "method_descriptor.__get__" =some Builtin.«method_descriptor.__get__»:=entryFor_of_tree ⋯
theorem aHs(a b c:Value):argsOk "method_descriptor.__get__" ⟨[a,b,c],[]⟩:=by unfold argsOk;kernel_rfl
theorem aC6:isSubtype (.type "dict") (.type "dict")=pure true:=by rw[isSubtype_type];kernel_rfl
theorem aGy:isSubtype (.type "set") (.type "set")=pure true:=by rw[isSubtype_type];kernel_rfl
theorem aHe:(kfb_private% "ownerAndName") "dict.get" =("dict","get"):=by first |decide+kernel |kernel_rfl
theorem aHf:(kfb_private% "ownerAndName") "set.__contains__" =("set","__contains__"):=by first |decide+kernel |kernel_rfl
theorem aDk{M:Model}{A:Around}{E:Value->Shared->Prop}{s:Shared}{a:Addr}{T id nm:String}{P:Fin->Shared->Prop}(h1:Manifest.toldItsClass.contains id=false)(ho:(kfb_private% "ownerAndName") id=(T,nm))(hsub:isSubtype (.type T) (.type T)=pure true)(hT:s.TypeIs (.ref a) T)
  (h:P (.done (.ret (.ref s.heap.objs.size))) {s with heap:=s.heap.push {cls:=.type "builtin_function_or_method",data:=.fields #[.builtin id,.ref a]}}):
  wpAny M A (Builtin.«method_descriptor.__get__» ⟨[.builtin id,.ref a,.type T],[]⟩) P E s:=by
 unfold Builtin.«method_descriptor.__get__»
 refine wpAny_bind (wpAny_of_eq (a:=(.builtin id,some (.ref a),some (.type T))) (by first |rfl |kernel_rfl) ?_)
 simp only[h1,Bool.false_eq_true,if_false]
 refine wpAny_bind (m:=(kfb_private% "checkInstance") (.builtin id) (.ref a)) ?_
 refine wpAny_bind (m:=(kfb_private% "nameAndClass") (.builtin id)) ?_
 refine wpAny_of_eq (a:=((nm:Str),.type T)) (by show(match (kfb_private% "ownerAndName") id with | (owner,name)=>pure ((name:Str),Value.type owner))=_;rw[ho]) ?_
 refine wpAny_bind (wpAny_isInstance hT hsub ?_)
 refine wpAny_pure ?_
 exact wpAny_bind (wpAny_newObj_type (wpAny_pure h))
theorem aD2:typeLookup (.type "method_descriptor") "__get__" =pure (some (.builtin "method_descriptor.__get__")):=by rw[typeLookup_type,builtinLookup_eq_fast];kernel_rfl
theorem aD1:typeLookup (.type "method_descriptor") "__set__" =pure none:=by rw[typeLookup_type,builtinLookup_eq_fast];kernel_rfl
theorem aD4:typeLookup (.type "method_descriptor") "__delete__" =pure none:=by rw[typeLookup_type,builtinLookup_eq_fast];kernel_rfl
theorem zQ{prog:Program}{w:World}{A:Around}{s:Shared}{a:Addr}{T id nm:String}{R:Result->Shared->Prop}(h1:Manifest.toldItsClass.contains id=false)(ho:(kfb_private% "ownerAndName") id=(T,nm))(hsub:isSubtype (.type T) (.type T)=pure true)
  (hty:typeOf (.builtin id)=pure (.type "method_descriptor")) (hT:s.TypeIs (.ref a) T) (h:R (.ok (.ret (.ref s.heap.objs.size))) {s with heap:=s.heap.push {cls:=.type "builtin_function_or_method",data:=.fields #[.builtin id,.ref a]}}):
  codeAny (model prog w) A (.call (.builtin "method_descriptor.__get__") ⟨[.builtin id,.ref a,.type T],[]⟩) R s:=by
 refine codeAny_call_builtin zP.plain aD3 (zP.check _ _ _ _ _ _ _ _ hty (aHs _ _ _) (aDk h1 ho hsub hT ?_))
 exact h
theorem kA:entryFor table "dict.__getattribute__" =some Builtin.«object.__getattribute__»:=
 entryFor_alias (id':="object.__getattribute__") ⋯ (by decide+kernel) (by decide+kernel) ⋯
theorem lk_get:typeLookup (.type "dict") "get" =pure (some (.builtin "dict.get")):=by rw[typeLookup_type,builtinLookup_eq_fast];kernel_rfl
set_option maxHeartbeats 1000000 in
theorem jY(a:Addr)(es:Array DictEntry)(k:Nat)(u:Tok):
  Meets (Builtin.«object.__getattribute__» ⟨[.ref a,.str "get" u],[]⟩) (λA R s=>s.heap.get? a=some {cls:=.type "dict",dict:=none,data:=.dict es k,slots:= #[]}/\R (.ok (.ret (.ref s.heap.objs.size))) {s with heap:=s.heap.push {cls:=.type "builtin_function_or_method",data:=.fields #[.builtin "dict.get",.ref a]}}):=
 Meets.of_wp λprog w A R s hs=>by
  obtain⟨hp,g,d,tk,os⟩:=s
  obtain⟨hx,hs⟩:=hs
  have hT:(⟨hp,g,d,tk,os⟩:Shared).TypeIs (.ref a) "dict" :=⟨_,hx,rfl⟩
  have f1:=lk_get
  have f2:=PySem.F.type_dict_get
  have f3:=aD2
  have f4:=aD1
  have f5:=aD4
  unfold Builtin.«object.__getattribute__»
  repeat (any_goals (first |assumption |wp_step))
  refine zQ (by decide+kernel) aHe aC6 f2 hT ?_
  exact wpAny_pure ⟨_,rfl,hs⟩
set_option maxHeartbeats 1000000 in
theorem mY{prog:Program}{w:World}{A:Around}{E:Value->Shared->Prop}{s:Shared}{a:Addr}{es:Array DictEntry}{k:Nat}{b:Bool}{Q:Value->Shared->Prop}
  (hx:s.heap.get? a=some {cls:=.type "dict",dict:=none,data:=.dict es k,slots:= #[]})
  (h:Q (.ref s.heap.objs.size) {s with heap:=s.heap.push {cls:=.type "builtin_function_or_method",data:=.fields #[.builtin "dict.get",.ref a]},toks:=s.toks+1}):
  wpAny (model prog w) A (getAttr (.ref a) "get" b) Q E s:=by
 obtain⟨hp,g,d,tk,os⟩:=s
 have hT:∀ tk',(⟨hp,g,d,tk',os⟩:Shared).TypeIs (.ref a) "dict" :=λ_=>⟨_,hx,rfl⟩
 have f3:=F.slot_dict_getattribute.lookup
 have f4:=F.slot_dict_getattribute.bind (.ref a)
 unfold getAttr getAttrBy
 repeat (any_goals (first |assumption |exact hT _ | ((with_reducible show wpAny _ _ (call (Value.builtin "dict.__getattribute__") _ _) _ _ _);refine call_meets F.slot_dict_getattribute (hT _) kA (F.args_dict_getattribute_2 _ _) (jY a es k _) ⟨hx,?_⟩) |wp_step))
 have hb:(b && onTheHeap (Value.builtin "dict.__getattribute__"))=false:=by cases b<;>rfl
 simp only[hb,Bool.false_eq_true,if_false]
 unfold boundAndCalled
 repeat (any_goals (first |assumption |exact hT _ | ((with_reducible show wpAny _ _ (call (Value.builtin "dict.__getattribute__") _ _) _ _ _);refine call_meets F.slot_dict_getattribute (hT _) kA (F.args_dict_getattribute_2 _ _) (jY a es k _) ⟨hx,?_⟩) |wp_step))
 exact wpAny_pure h
theorem l4:entryFor table "set.__getattribute__" =some Builtin.«object.__getattribute__»:=
 entryFor_alias (id':="object.__getattribute__") ⋯ (by decide+kernel) (by decide+kernel) ⋯
theorem lk_con:typeLookup (.type "set") "__contains__" =pure (some (.builtin "set.__contains__")):=by rw[typeLookup_type,builtinLookup_eq_fast];kernel_rfl
set_option maxHeartbeats 1000000 in
theorem lD(a:Addr)(k:Nat)(st:SetTable)(u:Tok):
  Meets (Builtin.«object.__getattribute__» ⟨[.ref a,.str "__contains__" u],[]⟩) (λA R s=>s.heap.get? a=some {cls:=.type "set",dict:=none,data:=.set #[] k st,slots:= #[]}/\R (.ok (.ret (.ref s.heap.objs.size))) {s with heap:=s.heap.push {cls:=.type "builtin_function_or_method",data:=.fields #[.builtin "set.__contains__",.ref a]}}):=
 Meets.of_wp λprog w A R s hs=>by
  obtain⟨hp,g,d,tk,os⟩:=s
  obtain⟨hx,hs⟩:=hs
  have hT:(⟨hp,g,d,tk,os⟩:Shared).TypeIs (.ref a) "set" :=⟨_,hx,rfl⟩
  have f1:=lk_con
  have f2:=PySem.F.type_set_contains
  have f3:=aD2
  have f4:=aD1
  have f5:=aD4
  unfold Builtin.«object.__getattribute__»
  repeat (any_goals (first |assumption |wp_step))
  refine zQ (by decide+kernel) aHf aGy f2 hT ?_
  exact wpAny_pure ⟨_,rfl,hs⟩
set_option maxHeartbeats 1000000 in
theorem nW{prog:Program}{w:World}{A:Around}{E:Value->Shared->Prop}{s:Shared}{a:Addr}{k:Nat}{st:SetTable}{b:Bool}{Q:Value->Shared->Prop}
  (hx:s.heap.get? a=some {cls:=.type "set",dict:=none,data:=.set #[] k st,slots:= #[]})
  (h:Q (.ref s.heap.objs.size) {s with heap:=s.heap.push {cls:=.type "builtin_function_or_method",data:=.fields #[.builtin "set.__contains__",.ref a]},toks:=s.toks+1}):
  wpAny (model prog w) A (getAttr (.ref a) "__contains__" b) Q E s:=by
 obtain⟨hp,g,d,tk,os⟩:=s
 have hT:∀ tk',(⟨hp,g,d,tk',os⟩:Shared).TypeIs (.ref a) "set" :=λ_=>⟨_,hx,rfl⟩
 have f3:=F.slot_set_getattribute.lookup
 have f4:=F.slot_set_getattribute.bind (.ref a)
 unfold getAttr getAttrBy
 repeat (any_goals (first |assumption |exact hT _ | ((with_reducible show wpAny _ _ (call (Value.builtin "set.__getattribute__") _ _) _ _ _);refine call_meets F.slot_set_getattribute (hT _) l4 (F.args_set_getattribute_2 _ _) (lD a k st _) ⟨hx,?_⟩) |wp_step))
 have hb:(b && onTheHeap (Value.builtin "set.__getattribute__"))=false:=by cases b<;>rfl
 simp only[hb,Bool.false_eq_true,if_false]
 unfold boundAndCalled
 repeat (any_goals (first |assumption |exact hT _ | ((with_reducible show wpAny _ _ (call (Value.builtin "set.__getattribute__") _ _) _ _ _);refine call_meets F.slot_set_getattribute (hT _) l4 (F.args_set_getattribute_2 _ _) (lD a k st _) ⟨hx,?_⟩) |wp_step))
 exact wpAny_pure h
end
section
variable {C:Cx}{r:Nat}{env:Env}
noncomputable abbrev bObj(id:String)(self:Value):Obj:= {cls:=.type "builtin_function_or_method",data:=.fields #[.builtin id,self]}
theorem yG{h:Heap}{x:Addr}{id:String}{self:Value}(ho:h.get? x=some (bObj id self)):∃ k,(k=Keeper.frame∨k=Keeper.machine∨k=Keeper.boundFrame)/\Looks C.M h (keeperOf (.ref x)) k:=by
 refine⟨.machine,.inr (.inl rfl),(Looks.ld (part:=none) ho).andThen ?_⟩
 exact .now
theorem tQ:isSubtype (.type "dict") (.type "module")=pure false:=by rw[isSubtype_type];kernel_rfl
theorem vQ:isSubtype (.type "set") (.type "module")=pure false:=by rw[isSubtype_type];kernel_rfl
noncomputable def okB(id full:String)(args:Args):Prop:=(match Manifest.signature? id with |some sig=>Bind.checkArgs id {sig with full:=full} args |none=>(pure ():Sem Unit))=pure ()
theorem aG1(a b c:Value):okB "dict.get" "dict.get" ⟨[a,b,c],[]⟩:=by
 unfold okB;rw[signature?_of (id:="dict.get") (n:=['t','e','g']) (o:=['t','c','i','d']) ⋯ PySem.F.owner_dict];kernel_rfl
theorem aG2(a b:Value):okB "set.__contains__" "set.__contains__" ⟨[a,b],[]⟩:=by
 unfold okB;rw[signature?_of (id:="set.__contains__") (n:=['_','_','s','n','i','a','t','n','o','c','_','_']) (o:=['t','e','s']) ⋯ PySem.F.owner_set];kernel_rfl
theorem nK{M:Model}{A:Around}{E:Value->Shared->Prop}{s:Shared}{d:Addr}{rest:List Value}{T id nm:String}{Q:Unit->Shared->Prop}(hk:builtinKind id=some .method)(hn:Bind.lastOf id=nm)(hv:Manifest.varargsMethods.contains id=false)
  (hm:isSubtype (.type T) (.type "module")=pure false){o:Obj} (ho:s.heap.get? d=some o) (hc:o.cls= .type T) (hnc:∀ c,o.data≠ .cls c){full:String} (hfull:s!"{Bind.lastOf T}.{nm}" =full) (hok:okB id full ⟨.ref d :: rest,[]⟩) (h:Q () s):
  wpAny M A (checkBoundCall id ⟨.ref d :: rest,[]⟩) Q E s:=by
 have hT:s.TypeIs (.ref d) T:=⟨o,ho,hc⟩
 unfold checkBoundCall
 rw [<-hfull]at hok
 unfold okB at hok
 cases hs:Manifest.signature? id with
 |none=>exact wpAny_pure h
 |some sig=>
  rw [hs]at hok
  rw [hk]
  dsimp only
  rw [if_neg (by decide),hn]
  refine wpAny_bind (wpAny_isInstance hT hm ?_)
  rw [hv,if_neg (by decide)]
  refine wpAny_bind (m:=isType (.ref d)) ?_
  show wpAny M A (loadHead d >>=λob=>pure (match ob.data with | .cls _=>true |_=>false)) _ _ s
  refine wpAny_bind (m:=loadPart d (some headPart)) (wpAny_loadPart ho ?_)
  have e:(match o.data with | .cls _=>true |_=>false)=false:=by
   cases q:o.data<;>first |rfl |exact absurd q (hnc _)
  rw [e]
  refine wpAny_pure ?_
  rw [if_neg (by decide)]
  refine wpAny_bind (wpAny_typeOf hT ?_)
  exact wpAny_of_eq hok h
theorem aFf:s!"{Bind.lastOf "dict"}.{"get"}" ="dict.get" :=by decide+kernel
theorem aFg:s!"{Bind.lastOf "set"}.{"__contains__"}" ="set.__contains__" :=by decide+kernel
theorem aEn:builtinKind "dict.get" =some .method:=by decide+kernel
theorem aEo:builtinKind "set.__contains__" =some .method:=by decide+kernel
theorem aEl:Bind.lastOf "dict.get" ="get" :=by decide+kernel
theorem aEm:Bind.lastOf "set.__contains__" ="__contains__" :=by decide+kernel
theorem aGm:Manifest.varargsMethods.contains "dict.get" =false:=by decide+kernel
theorem aGn:Manifest.varargsMethods.contains "set.__contains__" =false:=by decide+kernel
theorem qR{prog:Program}{w:World}{A:Around}{E:Value->Shared->Prop}{s:Shared}{x:Addr}{self:Value}{args:List Value}{id:String}{B:Builtin}{S:PySem.Spec}{Q:Value->Shared->Prop}(ho:s.heap.get? x=some (bObj id self))
  (hc:∀ {A':Around}{E':Value->Shared->Prop}{Q':Unit->Shared->Prop},Q' () s->wpAny (model prog w) A' (checkBoundCall id ⟨self :: args,[]⟩) Q' E' s) (hq:plainId id=true) (hb:entryFor table id=some B)
  (g:MeetsIn prog w (B ⟨self :: args,[]⟩) S) (h:S A (wants Q E) s):wpAny (model prog w) A (call (.ref x) args) Q E s:=by
 refine wpAny_call (codeAny_of_tree ?_)
 show wpAny _ A.in1 (callAny (.ref x) ⟨args,[]⟩) _ _ s
 simp only[callAny]
 refine wpAny_bind (wpAny_load ho ?_)
 simp only[show (Value.type "builtin_function_or_method" ==Value.type "method" || Value.type "builtin_function_or_method" ==Value.type "builtin_function_or_method" || Value.type "builtin_function_or_method" ==Value.type "method-wrapper")=true by decide,if_true]
 refine KFB.if_so (by decide) ?_
 refine wpAny_bind (hc ?_)
 refine wpAny_bind (wpAny_pure (wpAny_pure ?_))
 refine⟨plainId_quiet hq _,codeAny_builtin hb ?_⟩
 rw [Around.under_plainId hq]
 exact g A _ s h
theorem yK{h:Heap}{a:Addr}{n:Nat}{t:SetTable}(ho:h.get? a=some {cls:=.type "set",data:=.set #[] n t})(hf:t.fits 0=true)(prog:Program)(w:World):h.SetOf (intKind prog w) a (λ_=>false) 0:=
 ⟨_,#[],n,t,ho,⟨rfl,rfl,rfl⟩,rfl,λe he=>by simp at he,λk=>by simp,by decide,hf,rfl⟩
theorem aBt{prog:Program}{w:World}{a:Addr}{k:Int}{u:Tok}:
  MeetsIn prog w (Builtin.«frozenset.__contains__» ⟨[.ref a,.int k u],[]⟩) (λ_ R s=>(∃ n t,s.heap.get? a=some {cls:=.type "set",data:=.set #[] n t}/\t.fits 0=true)/\R (.ok (.ret (.bool false))) {s with toks:=s.toks+1}):=
 .of_wp λA R s ⟨⟨n,t,ho,hf⟩,h⟩=>by
  have hS:=yK ho hf prog w
  unfold Builtin.«frozenset.__contains__» Builtin.Frozenset.oneOther
  simp only[List.isEmpty_nil,bind_assoc]
  unfold Builtin.Frozenset.addrOf Builtin.Frozenset.withSetAsKey setContains
  refine wpAny_bind (wpAny_pure ?_)
  try dsimp only
  refine wpAny_bind (wpAny_pure ?_)
  try dsimp only
  refine wpAny_bind (wpAny_tryCatch ?_)
  refine wpAny_holding ?_
  refine wpAny_bind ((intKind prog w).pyHash (intKind_is _ _ _ _) ?_)
  refine wpAny_bind (wpAny_setFind_of (s:= {s with toks:=s.toks+1}) (intKind_is _ _ _ _) rfl hS λr hr=>?_)
  refine wpAny_pure ?_
  show wpAny _ _ (ret (Value.bool r.isSome)) _ _ _
  rw [hr]
  exact wpAny_pure ⟨_,rfl,h⟩
noncomputable def eBd(mk:Nat->V)(ok:MO->Bool)(f:EF):EF:=λlo H Q=>f lo H λa H1=>Lf a.rf λi=>Lf H1[i]? λm=>ok m=true/\Q (mk i) H1
noncomputable def okD:MO->Bool | .dict _ _=>true |_=>false
noncomputable def okS:MO->Bool | .eset=>true |_=>false
theorem EV.dget{e:Expr}{pos:Pos}{f:EF}(h:EV C r env e f)(hb:attributeBase e "get" env (eval e env)=eval e env)(ht:∀ o y,letTemporaryGo e o y=pure ()):EV C r env (.Attribute e "get" pos) (eBd .dget okD f):=
 λ_ _ _ _ _ _ hr S F q=>dH hb (h.run hr S F q λS1 N1 r1 q=>q.elim λi hi q=>q.elim λm hH q=>by
  obtain⟨l,_,rfl,g'⟩:=r1.toRef hi
  obtain⟨hok,q⟩:=q
  cases m with
  |dict n g=>
   obtain⟨e1,e2,kvs,⟨⟨oc,od,odt,osl⟩,es,ep,ho,⟨c1,c2,c3⟩,hd,_⟩,_⟩:=S1.objs i _ l hH g'
   simp only at c1 c2 c3 hd
   subst c1 c2 c3 hd
   exact mY ho ⟨(S1.push _).toks _,N1.trans ((Nx.push _).trans (.toks _)),.dget g' (Heap.get?_push_size _ rfl),q⟩
  |_=>cases hok)
theorem aIi{m:MO}(h:okS m=true):m= .eset:=by cases m<;>first |rfl |cases h
theorem EV.scon2{e:Expr}{pos:Pos}{f:EF}(h:EV C r env e f)(hb:attributeBase e "__contains__" env (eval e env)=eval e env):EV C r env (.Attribute e "__contains__" pos) (eBd .scon okS f):=
 λ_ _ _ _ _ _ hr S F q=>dH hb (h.run hr S F q λS1 N1 r1 q=>q.elim λi hi q=>q.elim λm hH q=>by
  obtain⟨l,_,rfl,g'⟩:=r1.toRef hi
  obtain⟨hok,q⟩:=q
  obtain rfl:=aIi hok
  obtain⟨e1,e2,n,t,ho,hf⟩:=S1.objs i _ l hH g'
  exact nW ho ⟨(S1.push _).toks _,N1.trans ((Nx.push _).trans (.toks _)),.scon g' (Heap.get?_push_size _ rfl),q⟩)
theorem aB3{prog:Program}{w:World}{A:Around}{E:Value->Shared->Prop}{s:Shared}{x d:Addr}{k:Int}{u:Tok}{n:Nat}{t:SetTable}{Q:Value->Shared->Prop}(hx:s.heap.get? x=some (bObj "set.__contains__" (.ref d)))
  (ho:s.heap.get? d=some {cls:=.type "set",data:=.set #[] n t}) (hf:t.fits 0=true) (h:Q (.bool false) {s with toks:=s.toks+1}):wpAny (model prog w) A (call (.ref x) [.int k u]) Q E s:=by
 have hs:(λ_ R s=>(∃ n t,s.heap.get? d=some {cls:=.type "set",data:=.set #[] n t}/\t.fits 0=true)/\R (.ok (.ret (.bool false))) {s with toks:=s.toks+1}:PySem.Spec) A (wants Q E) s:=⟨⟨n,t,ho,hf⟩,h⟩
 have hc:∀ {A':Around}{E':Value->Shared->Prop}{Q':Unit->Shared->Prop},Q' () s->wpAny (model prog w) A' (checkBoundCall "set.__contains__" ⟨.ref d :: [.int k u],[]⟩) Q' E' s:=by
  intro A' E' Q' hq
  have h1:∀ c,({cls:=.type "set",data:=.set #[] n t}:Obj).data≠ .cls c:=λc z=>by injection z
  have h2:okB "set.__contains__" "set.__contains__" ⟨.ref d :: [.int k u],[]⟩:=aG2 (.ref d) (.int k u)
  have h3:({cls:=.type "set",data:=.set #[] n t}:Obj).cls= .type "set" :=rfl
  refine nK (T:="set") (nm:="__contains__") (id:="set.__contains__") (full:="set.__contains__") (d:=d) (rest:=[.int k u]) ?_ ?_ ?_ ?_ ho h3 h1 ?_ h2 hq
  ·exact aEo
  ·exact aEm
  ·exact aGn
  ·exact vQ
  ·exact aFg
 exact qR hx hc PySem.F.slot_set_contains.plain entry_set_contains aBt hs
noncomputable def V.bd:V->Option (Bool×Nat) | .dget i=>some (true,i) | .scon i=>some (false,i) |_=>Option.none
noncomputable def twoV(vs:List V):Option (Int×V):=match vs with | [a,b]=>(Ti a).map λk=>(k,b) |_=>none
noncomputable def eCv(f:EF)(fs:EFs):EF:=λlo H Q=>f lo H λa H1=>Lf a.bd λp=>fs lo H1 λvs H2=>
 bif p.1 then Lf (twoV vs) λkv=>Lf (H2[p.2]?.bind MO.dct) λd=>Q ((d.2 kv.1).getD kv.2) H2
 else Lf ((one vs).bind Ti) λk=>H2[p.2]? =some .eset/\Q (.bool false) H2
theorem VR.toBd{ρ:List Lc}{h:Heap}{u:Value}{v:V}{t:Bool}{i:Nat}(r:VR ρ h u v)(e:v.bd=some (t,i)):∃ a l,u= .ref a/\ρ[i]? =some l/\h.get? a=some (bObj (bif t then "dict.get" else "set.__contains__") (.ref l.a)):=by
 cases v with
 |dget n=>cases e;exact r.inv
 |scon n=>cases e;exact r.inv
 |_=>first |exact aQ e |cases e
theorem two_ok{ρ:List Lc}{h:Heap}{us:List Value}{vs:List V}{p:Int×V}(r:VRs ρ h us vs)(e:twoV vs=some p):∃ t u,us= [.int p.1 t,u]/\VR ρ h u p.2:=by
 unfold twoV at e
 split at e
 ·refine xEA (Option.map_eq_some_iff.mp e) λk hk e=>?_
  refine b8 r.a2 λa b z87 ra rb=>?_;subst z87
  refine xE (ra.tiE hk) λt z88=>?_;subst z88
  cases e
  exact⟨t,b,rfl,rb⟩
 ·first |exact aQ e |cases e
theorem aB4{A:Around}{s2:Shared}{ρ2:List Lc}{H2:MH}{ad:Addr}{l:Lc}{i n:Nat}{g:Int->Option V}{kvs:List (Int×Value)}{k:Int}{t:Tok}{c:Value}{K:Value->Shared->Prop}(hb:∃ o,C.base.heap.get? sysModules=some o)(S2:Sim C H2 ρ2 s2)(D:DctAt C H2 ρ2 s2 i l n g kvs)
  (go2:s2.heap.get? ad=some (bObj "dict.get" (.ref l.a))) (h:K ((valueAt kvs k).getD c) {s2 with toks:=s2.toks+1}):wpAny C.M A (call (.ref ad) [.int k t,c]) K NoE s2:=by
 have hx':=D.x
 refine cH hx' λoo es' ep ho z89 hd _=>?_;obtain⟨c1,c2,c3⟩:=z89
 exact qR go2 (λhq=>nK (T:="dict") (nm:="get") aEn aEl aGm tQ ho c1 (λc=>by rw[hd];intro z;cases z) aFf (aG1 _ _ _) hq) PySem.F.slot_dict_get.plain PySem.F.entry_dict_get
  (meets_dict_get_default (intKind C.prog C.w) l.a (k:=k) (intKind_is _ _ _ _) (tP S2 D.g D.h hb) _) ⟨_,D.x.mapOf,h⟩
theorem EV.callV{x:Str}{np pos:Pos}{f:EF}{es:List Expr}{fs:EFs}(hb:∃ o,C.base.heap.get? sysModules=some o)(h:EV C r env (.Name x np) f)(ha:EVs C r env es fs)(hfl:qY env es):
  EV C r env (.Call (.Name x np) es [] pos) (eCv f fs):=
 λA s ρ H lo Q hr S F q=>wpAny_Call_ofName (h.run hr S F q λS1 N1 r1 q=>q.elim λp hp q=>by
  obtain⟨t,i⟩:=p
  refine b8 (r1.toBd hp) λad l z90 gl go=>?_;subst z90
  refine callWith_of (P:=λh=>h.get? ad=some (bObj (bif t then "dict.get" else "set.__contains__") (.ref l.a))) (by rw[hfl.2];rfl) (λh hh=>yG hh) (wmN (l9 ha hfl hr S1 (F.nx N1) q) λa s2 p=>?_)
  obtain⟨ps,kw⟩:=a
  obtain⟨hkw,S2,N2,rs,q⟩:=p
  cases hkw
  have go2:=N2.imm _ _ go (by simp [aW])
  refine⟨go2,?_⟩
  have N:=N1.trans N2
  have hl2:=aO N2.pre gl
  cases t with
  |true=>
   replace q:=show Lf (twoV _) _ from q
   refine q.elim λkv hkv q=>q.elim λd hd q=>?_
   refine xE (uL S2 hl2 (yM hd)) λkvs D=>?_
   refine bP (two_ok rs hkv) λt u e ru=>?_
   cases e
   refine aB4 hb S2 D go2 ?_
   rcases(D.f kv.1).same with ⟨e,e'⟩ |⟨x',v',e,e',rv⟩
   ·rw[e];rw[e']at q;exact bZ.from N (.tok S2 ru q)
   ·rw[e];rw[e']at q;exact bZ.from N (.tok S2 rv q)
  |false=>
   replace q:=show Lf ((one _).bind Ti) _ from q
   refine q.elim λk hk q=>?_
   refine xEA (Option.bind_eq_some_iff.mp hk) λv hv hk=>?_
   refine xEA (kG rs hv) λu e ru=>?_
   cases e
   refine xE (ru.tiE hk) λt z91=>?_;subst z91
   refine kB (S2.objs i _ l q.1 hl2) λg1 g2 n t ho hf=>?_
   exact aB3 go2 ho hf (bZ.from N (.tok S2 (.bool _) q.2)))
end
section
variable {C:Cx}{r:Nat}{env:Env}
theorem Room.deeper{r:Nat}{A:Around}(h:Room (r+1) A)(env:Env):Room r (A.deeper env):=by
 refine xAA h λh1 h2 h3=>?_
 refine⟨h1,?_,?_⟩
 ·show A.depth+1+10*r<=700;exact A30 h2
 ·show A.units+3+40*r<=8000;exact A31 h3
noncomputable def lo0:Lo:=λ_=>none
noncomputable def loB:List Str->List V->Lo->Lo
 |x :: xs,v :: vs,lo=>loB xs vs (upd lo x v)
 |_,_,lo=>lo
theorem loB_c(x:Str)(xs:List Str)(v:V)(vs:List V)(lo:Lo):loB (x :: xs) (v :: vs) lo=loB xs vs (upd lo x v):=rfl
theorem qS{ρ:List Lc}{h:Heap}(kindOf:Str->Option NameKind):∀ (xs:List Str){us:List Value}{vs:List V}{m cm:Str->Option Value}{lo:Lo},VRs ρ h us vs->us.length=xs.length->
  (∀ x∈xs,kindOf x=some .local∨kindOf x=some .cell)->
  (∀ x,kindOf x=some .local->OV ρ h (m x) (lo x))->(∀ x,kindOf x=some .cell->OV ρ h (cm x) (lo x))->
  (∀ x,kindOf x=some .local->OV ρ h (bindL kindOf (xs.zip us) m x) (loB xs vs lo x))/\(∀ x,kindOf x=some .cell->OV ρ h (bindC kindOf (xs.zip us) cm x) (loB xs vs lo x))
 | [],_,_,_,_,_,.nil,_,_,a,b=>⟨a,b⟩
 | [],_,_,_,_,_,.cons _ _,hl,_,_,_=>by simp at hl
 |x :: xs,_,_,_,_,_,.nil,hl,_,_,_=>by simp at hl
 |x :: xs,_,_,m,cm,lo,.cons (u:=u) (v:=v) a b,hl,hk,h1,h2=>by
  simp only[List.zip_cons_cons,bindL,bindC,loB_c]
  have hk':∀ y∈xs,kindOf y=some .local∨kindOf y=some .cell:=λy hy=>hk y (List.mem_cons_of_mem _ hy)
  have hl':=Nat.succ.inj hl
  refine Or.elim (hk x List.mem_cons_self) (λq=>?_) λq=>?_
  ·rw[if_pos q,if_pos q]
   refine qS kindOf xs b hl' hk' (λy hy=>?_) (λy hy=>?_)
   ·by_cases e:y=x
    ·simp [upd,e];exact a
    ·simp [upd,e];exact h1 y hy
   ·have e:y≠x:=by rintro rfl;rw[q]at hy;cases hy
    simp [upd,e];exact h2 y hy
  ·have q': ¬kindOf x=some .local:=by rw[q];intro z;cases z
   rw [if_neg q',if_neg q']
   refine qS kindOf xs b hl' hk' (λy hy=>?_) (λy hy=>?_)
   ·have e:y≠x:=by rintro rfl;rw[q]at hy;cases hy
    simp [upd,e];exact h1 y hy
   ·by_cases e:y=x
    ·simp [upd,e];exact a
    ·simp [upd,e];exact h2 y hy
theorem eS{x:Str}:∀ (names:List (Str×NameKind)) (n:Nat) (acc:List (Str×Addr)),(acc.lookup x).isSome=true∨(∃ k,(x,k)∈names/\k= .cell)->((cellsFrom n names acc).lookup x).isSome=true
 | [],_,_,h=>by
  rcases h with h |⟨k,h,_⟩
  ·exact h
  ·cases h
 | (y,k) :: r,n,acc,h=>by
  unfold cellsFrom
  split
  ·rename_i hk
   refine eS r (n+1) _ ?_
   rcases h with h |⟨k',h,hk'⟩
   ·left
    simp only[List.lookup]
    split
    ·rfl
    ·exact h
   ·refine Or.elim (List.mem_cons.mp h) (λe=>?_) λe=>?_
    ·cases e;left;simp [List.lookup]
    ·exact .inr ⟨k',e,hk'⟩
  ·rename_i hk
   refine eS r n _ ?_
   rcases h with h |⟨k',h,hk'⟩
   ·exact .inl h
   ·refine Or.elim (List.mem_cons.mp h) (λe=>?_) λe=>?_
    ·cases e;subst hk';exact absurd rfl hk
    ·exact .inr ⟨k',e,hk'⟩
structure Def(C:Cx)(a:Addr)(fd:FuncData)(body:List Stmt):Prop where
 obj:∃ o,C.base.heap.get? a=some o/\o.data= .func fd
 code:C.base.heap.CodeRec fd.code fd.qualname
 body:fd.body= .stmts body
 clo:fd.closure= []
 gl:fd.globals=mainGlobals
 bi:fd.builtins=builtinsNs
 kind:fd.scope.kind= .function
 co:fd.scope.isCoroutine=false
 free:∀ x:Str,fd.scope.names.lookup x≠some .free
theorem Fm.call{a:Addr}{fd:FuncData}{body:List Stmt}(D:Def C a fd body){H:MH}{ρ:List Lc}{s s1:Shared}{names:List Str}{us:List Value}{vs:List V}(S:Sim C H ρ s)(hu:VRs ρ s.heap us vs)(hl:us.length=names.length)
  (hn:∀ x∈names,fd.scope.names.lookup x=some .local∨fd.scope.names.lookup x=some .cell)
  (I:InCallC s (callEnvC fd s.heap.objs.size a).locals (bindL (callEnvC fd s.heap.objs.size a).kindOf (names.zip us) λ_=>none) (callEnvC fd s.heap.objs.size a).cells
    (bindC (callEnvC fd s.heap.objs.size a).kindOf (names.zip us) λ_=>none) s1):
  Sim C H ρ s1/\Nx ρ noW s ρ s1/\Fm C (callEnvC fd s.heap.objs.size a) ρ s1 (loB names vs lo0)/\(∀ b,Wr (callEnvC fd s.heap.objs.size a) b->s.heap.get? b=none):=by
 obtain⟨⟨⟨h',tk,e⟩,ns,keep,fresh⟩,cell,apart,above⟩:=I
 subst e
 have S1:Sim C H ρ {s with heap:=h',toks:=tk}:=S.ext keep
 have N1:Nx ρ noW s ρ {s with heap:=h',toks:=tk}:=.ext keep
 have hfr:∀ b,Wr (callEnvC fd s.heap.objs.size a) b->s.heap.get? b=none:=by
  rintro b (rfl |⟨x,hx⟩)
  ·exact bJ _
  ·have:=above x b (mem_of_lookup hx)
   cases q:s.heap.get? b with
   |none=>rfl
   |some o=>have h2:=Heap.lt_size q;exact absurd (show s.heap.objs.size<b from this) (Nat.not_lt.mpr (Nat.le_of_lt h2))
 have hu1:=hu.mono (List.prefix_refl ρ) (eE keep)
 have B:=qS (ρ:=ρ) (h:=h') (callEnvC fd s.heap.objs.size a).kindOf names (m:=λ_=>none) (cm:=λ_=>none) (lo:=lo0) hu1 hl hn (λ_ _=>trivial) (λ_ _=>trivial)
 refine⟨S1,N1,⟨D.kind,D.gl,D.bi,⟨_,ns,B.1⟩,λx hx=>?_,λb hb=>⟨eA S (hfr b hb),dS S (hfr b hb)⟩,λx c hx=>?_,λx y c hx hy=>?_,?_⟩,hfr⟩
 ·refine Or.elim hx (λhx=>?_) λhx=>?_
  ·have hs:((callEnvC fd s.heap.objs.size a).cells.lookup x).isSome=true:=eS _ _ _ (.inr ⟨_,mem_of_lookup hx,rfl⟩)
   refine xE (Option.isSome_iff_exists.mp hs) λc hc=>?_
   refine xEA (cell x c hc) λo h1 h2=>?_
   exact⟨c,o,_,hc,h1,h2,B.2 x hx⟩
  ·exact absurd hx (D.free x)
 ·have:=above x c (mem_of_lookup hx)
  intro q;rw[q]at this;exact Nat.lt_irrefl _ this
 ·exact name_of_addr apart (mem_of_lookup hx) (mem_of_lookup hy)
 ·rintro b (rfl |⟨x,hx⟩)
  ·refine iS ns λo _ _ g _=>?_;exact⟨o,g⟩
  ·refine xEA (cell x b hx) λo g _=>?_;exact⟨o,g⟩
theorem Nx.leave{ρ ρ1:List Lc}{s s0 s1:Shared}{W:Addr->Prop}(a:Nx ρ noW s ρ s0)(b:Nx ρ W s0 ρ1 s1)(hW:∀ x,W x->s.heap.get? x=none):Nx ρ noW s ρ1 s1:=by
 have T:Nx ρ W s ρ1 s1:=a.wr.trans b
 exact⟨T.pre,T.new,λx o e ho _=>T.kp x o e ho (λq=>by rw[hW x q]at e;cases e),T.imm,T.al⟩
noncomputable def kD(Q:EK):SK:=λfl _ H=>match fl with | .ret v=>Q v H | .next=>Q .none H |_=>False
noncomputable def l8(names:List Str)(more:List V)(f:SF):CF:=λvs H Q=>(vs++more).length=names.length/\f (loB names (vs++more) lo0) H (kD Q)
noncomputable def Binds(C:Cx)(fd:FuncData)(names:List Str)(dflt:List Value):Prop:=
 ∀ (s:Shared) (us:List Value),(∀ b o,C.base.heap.get? b=some o->s.heap.get? b=some o)->(us++dflt).length=names.length->BindsTo s fd ⟨us,[]⟩ (names.zip (us++dflt))
noncomputable def uT(C:Cx)(ρ:List Lc)(s:Shared)(Q:EK):Result->Shared->Prop
 | .ok (.ret x),s'=>bZ C ρ s Q x s'
 |_,_=>False
theorem l5{a:Addr}{fd:FuncData}{body:List Stmt}(D:Def C a fd body){names:List Str}{dflt:List Value}{more:List V}{f:SF}(hgen:fd.scope.isGenerator=false)
  (hb:Binds C fd names dflt) (hd:∀ ρ h,VRs ρ h dflt more)
  (hn:∀ x∈names,fd.scope.names.lookup x=some .local∨fd.scope.names.lookup x=some .cell)
  (hf:∀ L,SVs C r (callEnvC fd L a) body f){A:Around}{s:Shared}{ρ:List Lc}{H:MH}{us:List Value}{vs:List V}{Q:EK} (hr:Room (r+1) A) (S:Sim C H ρ s) (hu:VRs ρ s.heap us vs) (e:l8 names more f vs H Q):
  codeAny C.M A (.call (.ref a) ⟨us,[]⟩) (uT C ρ s Q) s:=by
 refine xEA D.obj λo ho hdata=>?_
 refine xA e λhlen e=>?_
 have hu':VRs ρ s.heap (us++dflt) (vs++more):=hu.append (hd _ _)
 have hlen':(us++dflt).length=names.length:=hu'.length.trans hlen
 refine codeAny_call_function hr.lt (S.keep _ _ ho) hdata D.co hgen D.body (D.code.keeps S.keep) (hb s us S.keep hlen' _ _ _ _ ?_)
 rw [D.clo]
 have hbk:∀ x∈names.zip (us++dflt),fd.scope.names.lookup x.1=some .local∨fd.scope.names.lookup x.1=some .cell:=λx hx=>hn x.1 (List.of_mem_zip hx).1
 refine wpAny_newFunctionEnv_cells D.kind (λx hx=>(hbk x hx).imp_right λq=>⟨q,eS _ _ _ (.inr ⟨_,mem_of_lookup q,rfl⟩)⟩) λenv he s1 I=>?_
 subst he
 refine xAAA (Fm.call D S hu' hlen' hn I) λS1 N1 F1 hfr=>?_
 refine⟨(C.lim.keeps S.keep).keeps I.toInCall.keep,codeAny_func (wmN (hf s.heap.objs.size (hr.deeper _) S1 F1 e) λfw s2 p=>?_)⟩
 obtain⟨S2,N2,F2,r2,q⟩:=p
 cases r2 with
 |ret r2=>exact⟨S2,N1.leave N2 hfr,r2,q⟩
 |next=>exact⟨S2,N1.leave N2 hfr,.none,q⟩
 |brk=>exact q.elim
 |cont=>exact q.elim
noncomputable def CC(C:Cx)(r:Nat)(f:Value)(g:CF):Prop:=∀ {A:Around}{s:Shared}{ρ:List Lc}{H:MH}{us:List Value}{vs:List V}{Q:EK},Room r A->Sim C H ρ s->VRs ρ s.heap us vs->g vs H Q->codeAny C.M A (.call f ⟨us,[]⟩) (uT C ρ s Q) s
theorem CC.cv{a:Addr}{g:CF}{o:Obj}{fd:FuncData}(ho:C.base.heap.get? a=some o)(hd:o.data= .func fd)(h:CC C r (.ref a) g):CV C r (.ref a) g:=by
 refine⟨λhp hk=>⟨.frame,.inl rfl,(Looks.ld (part:=none) (hk _ _ ho)).andThen (by rw[hd];exact .now)⟩,λhr S hu e=>wpAny_call (codeAny_mono (h hr S hu e) λrr s' h=>?_)⟩
 rcases rr with x | (x |_ |_ |_)<;>first |exact h |exact h.elim
theorem CV.def_{a:Addr}{fd:FuncData}{body:List Stmt}(D:Def C a fd body){names:List Str}{dflt:List Value}{more:List V}{f:SF}(hgen:fd.scope.isGenerator=false)
  (hb:Binds C fd names dflt) (hd:∀ ρ h,VRs ρ h dflt more)
  (hn:∀ x∈names,fd.scope.names.lookup x=some .local∨fd.scope.names.lookup x=some .cell)
  (hf:∀ L,SVs C r (callEnvC fd L a) body f):CV C (r+1) (.ref a) (l8 names more f):=
 let ⟨_,ho,hdata⟩:=D.obj
 CC.cv ho hdata λhr S hu e=>l5 D hgen hb hd hn hf hr S hu e
end
section
variable {C:Cx}{r:Nat}{env:Env}
noncomputable def gW(cells:List (Str×Addr)):List (Str×NameKind)->List (Str×Addr)->List (Str×Addr)
 | [],acc=>acc
 | (n,k) :: r,acc=>if k== .free then gW cells r ((n,(cells.lookup n).getD 0) :: acc) else gW cells r acc
theorem kQ{M:Model}{A:Around}{E:Value->Shared->Prop}{s:Shared}(f:Str×NameKind->List (Str×Addr)->Sem (ForInStep (List (Str×Addr))))
  (hf:∀ name kind cs,f (name,kind) cs=if kind== .free then(do let a<-cellOf env name;pure (.yield ((name,a) :: cs))) else pure (.yield cs)):
  ∀ (names:List (Str×NameKind)) (acc:List (Str×Addr)) (Q:List (Str×Addr)->Shared->Prop),(∀ p∈names,p.2= .free->∃ c,env.cells.lookup p.1=some c)->
   Q (gW env.cells names acc) s->wpAny M A (forIn names acc f) Q E s
 | [],acc,Q,_,h=>by rw[List.forIn_nil];exact wpAny_pure h
 | (name,kind) :: r,acc,Q,hc,h=>by
  rw [List.forIn_cons,hf]
  unfold gW at h
  split at h
  ·rename_i hk
   rw [if_pos hk]
   refine xE (hc (name,kind) List.mem_cons_self (by simpa using hk)) λc hc1=>?_
   dsimp only at hc1
   rw [hc1]at h
   refine wpAny_bind (wpAny_bind (wpAny_cellOf hc1 (wpAny_pure ?_)))
   exact kQ f hf r _ Q (λp hp=>hc p (List.mem_cons_of_mem _ hp)) h
  ·rename_i hk
   rw [if_neg hk]
   exact wpAny_bind (wpAny_pure (kQ f hf r _ Q (λp hp=>hc p (List.mem_cons_of_mem _ hp)) h))
theorem kR{cells:List (Str×Addr)}{x:Str}{c:Addr}:∀ (names:List (Str×NameKind)) (acc:List (Str×Addr)),(∀ p∈names,p.2= .free->∃ c,cells.lookup p.1=some c)->(x,c)∈gW cells names acc->(x,c)∈acc∨cells.lookup x=some c
 | [],_,_,h=>.inl h
 | (n,k) :: r,acc,hc,h=>by
  unfold gW at h
  split at h
  ·rename_i hk
   refine Or.elim (kR r _ (λp hp=>hc p (List.mem_cons_of_mem _ hp)) h) (λq=>?_) λq=>?_
   ·refine Or.elim (List.mem_cons.mp q) (λe=>?_) λe=>?_
    ·cases e
     refine xE (hc (x,k) List.mem_cons_self (by simpa using hk)) λc hc1=>?_
     right;simp at hc1;rw[hc1];rfl
    ·exact .inl e
   ·exact .inr q
  ·exact kR r _ (λp hp=>hc p (List.mem_cons_of_mem _ hp)) h
theorem kS{cells:List (Str×Addr)}{x:Str}:∀ (names:List (Str×NameKind)) (acc:List (Str×Addr)),(∀ p∈names,p.2= .free->∃ c,cells.lookup p.1=some c)->(acc.lookup x).isSome=true∨(x,NameKind.free)∈names->((gW cells names acc).lookup x).isSome=true
 | [],_,_,h=>by
  refine Or.elim h (λh=>?_) λh=>?_
  ·exact h
  ·cases h
 | (n,k) :: r,acc,hc,h=>by
  unfold gW
  split
  ·rename_i hk
   refine kS r _ (λp hp=>hc p (List.mem_cons_of_mem _ hp)) ?_
   refine Or.elim h (λh=>?_) λh=>?_
   ·left
    simp only[List.lookup]
    split
    ·rfl
    ·exact h
   ·refine Or.elim (List.mem_cons.mp h) (λe=>?_) λe=>?_
    ·cases e;left;simp [List.lookup]
    ·exact .inr e
  ·rename_i hk
   refine kS r _ (λp hp=>hc p (List.mem_cons_of_mem _ hp)) ?_
   refine Or.elim h (λh=>?_) λh=>?_
   ·exact .inl h
   ·refine Or.elim (List.mem_cons.mp h) (λe=>?_) λe=>?_
    ·cases e;exact absurd rfl hk
    ·exact .inr e
noncomputable def ownN(env:Env)(n:Str)(k:NameKind):Bool:=k== .free && env.scope.kind== .function && env.kindOf n==some .cell
noncomputable def iB(env:Env)(sc:Scope)(L:Addr):Env:=
 {(newEnv sc L env.globals (gW env.cells sc.names []) env.qual none .none (some env) builtinsNs) with scope:= {sc with names:=sc.names.map λp=>if ownN env p.1 p.2 then(p.1,.cell) else(p.1,p.2)}}
theorem pV{f:Str->NameKind->NameKind}{x:Str}:∀ l:List (Str×NameKind),(l.map λp=>(p.1,f p.1 p.2)).lookup x=(l.lookup x).map (f x)
 | []=>rfl
 | (n,k) :: r=>by
  simp only[List.map_cons,List.lookup]
  cases h:x==n with
  |true=>obtain rfl:=beq_iff_eq.mp h;rfl
  |false=>exact pV r
theorem m6(env:Env)(sc:Scope)(L:Addr)(x:Str):(iB env sc L).kindOf x=(sc.names.lookup x).map λk=>if ownN env x k then .cell else k:=by
 show(sc.names.map λp=>if ownN env p.1 p.2 then(p.1,NameKind.cell) else(p.1,p.2)).lookup x=_
 rw [<-pV (f:=λn k=>if ownN env n k then .cell else k)]
 congr 1
 refine List.map_congr_left λp _=>?_
 split<;>rfl
structure qZ(env:Env)(sc:Scope)(hid:List Str):Prop where
 kind:sc.kind= .function
 nocell:(sc.names.all λp=>p.2 != .cell)=true
 free:(sc.names.all λp=>p.2 != .free || (env.kindOf p.1==some .cell))=true
 hid:(sc.names.all λp=>p.2 != .local || (sc.names.lookup p.1==some .local && hid.contains p.1))=true
noncomputable def hide(hid:List Str)(lo:Lo):Lo:=λx=>if hid.contains x then none else lo x
theorem Fm.comp{sc:Scope}{hid:List Str}(K:qZ env sc hid)(hh:∀ x∈hid,sc.names.lookup x≠some .free){H:MH}{ρ:List Lc}{s s1:Shared}{lo:Lo}{L:Addr}(S:Sim C H ρ s)(F:Fm C env ρ s lo)(hL:s.heap.get? L=none)
  (hns:s1.heap.Ns L λ_=>none) (N:Nx ρ noW s ρ s1):Fm C (iB env sc L) ρ s1 (hide hid lo)/\(∀ b,Wr (iB env sc L) b->b=L∨Wr env b):=by
 have hfc:∀ p∈sc.names,p.2= .free->∃ c,env.cells.lookup p.1=some c:=λp hp hk=>by
  have h:=List.all_eq_true.mp K.free p hp
  rw [hk]at h
  simp at h
  refine iS (F.cl p.1 (.inl h)) λc _ _ hc _=>?_
  exact⟨c,hc⟩
 have hcells:∀ x c,(iB env sc L).cells.lookup x=some c->env.cells.lookup x=some c:=λx c h=>by
  refine Or.elim (kR sc.names [] hfc (mem_of_lookup h)) (λq=>?_) λq=>?_
  ·cases q
  ·exact q
 have hW:∀ b,Wr (iB env sc L) b->b=L∨Wr env b:=by
  rintro b (rfl |⟨x,hx⟩)
  ·exact .inl rfl
  ·exact .inr (.inr ⟨x,hcells x b hx⟩)
 have F1:=F.next N λ_ _ q=>q
 refine⟨⟨K.kind,F.gl,F.bi,⟨_,hns,λx hx=>?_⟩,λx hx=>?_,λb hb=>?_,λx c hc=>?_,λx y c hx hy=>F.inj x y c (hcells x c hx) (hcells y c hy),λb hb=>?_⟩,hW⟩
 ·rw[m6]at hx
  have hm:hid.contains x=true:=by
   cases hk:sc.names.lookup x with
   |none=>rw [hk]at hx;cases hx
   |some k=>
    rw [hk]at hx
    simp only[Option.map_some,Option.some.injEq]at hx
    split at hx
    ·cases hx
    ·subst hx
     have h:=List.all_eq_true.mp K.hid _ (mem_of_lookup hk)
     simp at h
     simpa using h.2
  unfold hide
  rw [if_pos hm]
  trivial
 ·rw[m6]at hx
  have hfr:sc.names.lookup x=some .free:=by
   cases hk:sc.names.lookup x with
   |none=>rw [hk]at hx;refine Or.elim hx (λhx=>?_) λhx=>?_<;>cases hx
   |some k=>
    have h2:=List.all_eq_true.mp K.nocell _ (mem_of_lookup hk)
    rw [hk]at hx
    simp only[Option.map_some,Option.some.injEq]at hx
    by_cases ho:ownN env x k=true
    ·have:k= .free:=by unfold ownN at ho;simp at ho;exact ho.1.1
     rw [this]
    ·rw[if_neg ho]at hx
     refine Or.elim hx (λhx=>?_) λhx=>?_
     ·subst hx;simp at h2
     ·rw[hx]
  have hkx:env.kindOf x=some .cell:=by
   have h:=List.all_eq_true.mp K.free _ (mem_of_lookup hfr)
   simpa using h
  refine cH (F1.cl x (.inl hkx)) λc o u h1 h2 h3 h4=>?_
  have hs:=kS sc.names [] hfc (.inr (mem_of_lookup hfr))
  refine xE (Option.isSome_iff_exists.mp hs) λc' hc'=>?_
  have:=hcells x c' hc'
  rw [h1]at this
  cases this
  refine⟨c,o,u,hc',h2,h3,?_⟩
  have hn: ¬(hid.contains x=true):=λq=>hh x (by simpa using q) hfr
  unfold hide
  rw [if_neg hn]
  exact h4
 ·rcases hW b hb with rfl |q
  ·exact⟨eA S hL,dS S hL⟩
  ·exact F1.own b q
 ·intro q
  have q':c=L:=q
  rw [q']at hc
  refine xE (F.alv L (.inr ⟨x,hcells x L hc⟩)) λo ho=>?_
  rw [hL]at ho;cases ho
 ·rcases hW b hb with rfl |q
  ·refine iS hns λo _ _ g _=>?_;exact⟨o,g⟩
  ·exact F1.alv b q
noncomputable def LW(env:Env):Addr->Prop:=λb=>b=env.locals
noncomputable abbrev ALV(C:Cx)(r:Nat)(env:Env)(t:Expr)(f:AF):Prop:=AVW C LW r env t f
theorem ALV.name{x:Str}{pos}(hk:env.kindOf x=some .local):ALV C r env (.Name x pos) (aN x):=λ_ _ _ _ _ _ _ _ _ S F rv e=>wpAny_assign_Name (hO (W:=LW env) S F rv (.inl ⟨hk,rfl⟩) λ_ S N F=>⟨S,N,F,e⟩)
noncomputable abbrev kV(C:Cx)(r:Nat)(env:Env)(ts:List Expr)(f:AFs):Prop:=nY C LW r env ts f
theorem kV.nil:kV C r env [] asN:=nY.nil
theorem kV.cons{t:Expr}{ts:List Expr}{f:AF}{g:AFs}(h:ALV C r env t f)(hs:kV C r env ts g)(he:assignEach (t :: ts) env=(false,assign t env) :: assignEach ts env):kV C r env (t :: ts) (asC f g):=nY.cons h hs he
theorem ALV.tuple{ts:List Expr}{k:Nat}{pos}{n:Nat}{g:AFs}(h:kV C r env ts g)(hn:(assignEach ts env).length=n)(hstar:(assignEach ts env).findIdx? (·.1)=none):ALV C r env (.Tuple ts k pos) (yZ n g):=AVW.tuple h hn hstar
end
section
variable {C:Cx}{r:Nat}{env:Env}
noncomputable def dF(K:ItK C):Prop:=∀ {A:Around}{s:Shared}{ρ:List Lc}{H:MH}{it:K.σ}{x:Value}{X:Addr->Prop}{Q:Value->Shared->Prop},Sim C H ρ s->(∃ y,K.nx it H y)->K.rel ρ s it x X->Q x s->wpAny C.M A (pyIter x) Q NoE s
theorem dF.list:dF (aT C):=by
 rintro A s ρ H it x X Q _ _ ⟨a,rfl,rfl,l,h1,h2⟩ h
 exact wpAny_pyIter_listiter h2 h
theorem dF.range:dF (kK C):=by
 rintro A s ρ H it x X Q _ _ ⟨a,rfl,rfl,h1⟩ h
 exact wpAny_pyIter_rangeiter h1 h
theorem dF.enum:dF (j4 C):=by
 rintro A s ρ H it x X Q _ _ R h
 cases R with
 |mk h1 h2 h3 h4=>exact wpAny_pyIter_enum h3 h
noncomputable def CnV(C:Cx)(r:Nat)(env:Env)(cs:List Expr)(f:TF):Prop:=
 ∀ ⦃A:Around⦄⦃s:Shared⦄⦃ρ:List Lc⦄⦃H:MH⦄⦃lo:Lo⦄⦃Q:Bool->MH->Prop⦄,Room r A->Sim C H ρ s->Fm C env ρ s lo->f lo H Q->
  wpAny C.M A (forIn cs true λc ok=>if ok=true then(do let ok<-PySem.isTrue c env (eval c env);pure (ForInStep.yield ok)) else pure (ForInStep.yield ok)) (nN C ρ s Q) NoE s
theorem CnV.nil:CnV C r env [] (tK true):=by
 intro A s ρ H lo Q hr S F e
 rw [List.forIn_nil]
 exact wpAny_pure ⟨S,.refl,e⟩
theorem wZ{M:Model}{A:Around}{E:Value->Shared->Prop}{s:Shared}{Q:Bool->Shared->Prop}:∀ cs:List Expr,Q false s->wpAny M A (forIn cs false λc ok=>if ok=true then(do let ok<-PySem.isTrue c env (eval c env);pure (ForInStep.yield ok)) else pure (ForInStep.yield ok)) Q E s
 | [],h=>by rw[List.forIn_nil];exact wpAny_pure h
 |c :: cs,h=>by
  rw [List.forIn_cons,if_neg (by decide)]
  exact wpAny_bind (wpAny_pure (wZ cs h))
theorem CnV.cons{c:Expr}{cs:List Expr}{f g:TF}(h:TV C r env c f)(hs:CnV C r env cs g):CnV C r env (c :: cs) (aU f g):=by
 intro A s ρ H lo Q hr S F q
 rw [List.forIn_cons,if_pos rfl]
 exact wpAny_bind (wpAny_bind (h.run hr S F q λ{b _ _ _} S1 N1 q=>wpAny_pure (match b,q with
  |true,q=>wmN (hs hr S1 (F.nx N1) q) λ_ _ p=>p.from N1
  |false,q=>wZ _ ⟨S1,N1,q⟩)))
noncomputable abbrev LK:=Lo->MH->Prop
noncomputable abbrev BF:=Nat->Lo->MH->LK->Prop
noncomputable def aAm(elt:Expr)(gens:List Comprehension)(sc:Scope)(pos:Pos)(d:Nat)(acc:Value)(env:Env)(K:Sem PySem.Fin):Sem PySem.Fin:=
 match gens[d+1]? with
 |some g'=>do
  let x<-eval g'.iter env
  standAt g'.iter.pos
  if (g'.is_async != 0)=true then do
    let x<-foldedIterable g'.iter x
    let it<-holding [x] (if (g'.is_async != 0)=true then asyncIter x else pyIter x)
    let _<-runOwn (Code.compStart (elt.ListComp gens sc pos) (d+1) it acc env) env
    K
   else do
    let x<-foldedSetIterable g'.iter env x
    let it<-holding [x] (if (g'.is_async != 0)=true then asyncIter x else pyIter x)
    let _<-runOwn (Code.compStart (elt.ListComp gens sc pos) (d+1) it acc env) env
    K
 |none=>(do
   let v<-eval elt env
   let _<-call (Value.builtin "list.append") [acc,v]
   pure ():Sem PUnit) >>=λ_=>K
noncomputable def BV(C:Cx)(r:Nat)(env:Env)(elt:Expr)(gens:List Comprehension)(sc:Scope)(pos:Pos)(d:Nat)(bf:BF):Prop:=
 ∀ ⦃A:Around⦄⦃s:Shared⦄⦃ρ:List Lc⦄⦃H:MH⦄⦃lo:Lo⦄⦃Q0:LK⦄⦃ai:Nat⦄⦃l:Lc⦄⦃Q:PySem.Fin->Shared->Prop⦄⦃K:Sem PySem.Fin⦄,Room r A->Sim C H ρ s->Fm C env ρ s lo->ρ[ai]? =some l->bf ai lo H Q0->
  (∀ {s' ρ' lo' H'},Sim C H' ρ' s'->Nx ρ (LW env) s ρ' s'->Fm C env ρ' s' lo'->Q0 lo' H'->wpAny C.M A K Q NoE s')->wpAny C.M A (aAm elt gens sc pos d (.ref l.a) env K) Q NoE s
noncomputable def bA(f:EF):BF:=λai lo H Q=>f lo H λv H1=>Lf (H1[ai]?.bind MO.own) λvs=>vs.length<1000000/\Q lo (H1.set ai (.list (vs++[v])))
theorem BV.last{elt:Expr}{gens:List Comprehension}{sc:Scope}{pos:Pos}{d:Nat}{f:EF}(h:EV C r env elt f)(hg:gens[d+1]? =none):BV C r env elt gens sc pos d (bA f):=by
 intro A s ρ H lo Q0 ai l Q K hr S F hl q hK
 unfold aAm
 rw [hg]
 refine wpAny_bind (wpAny_bind (h.run hr S F q λ{x s1 ρ1 v1 H1} S1 N1 r1 q=>q.elim λvs hv q=>?_))
 refine xEE (gP S1 (aO N1.pre hl) (i8 hv)) λxs n O=>?_
 have hsz:=O.r.sz
 have hlen:=q.1
 have hz:xs.size<=sizeLine:=by rw[sizeLine_eq];exact A33 hsz hlen
 refine wpAny_bind (wpAny_call_entry slot_list_append ⟨_,O.x,rfl⟩ entry_list_append ?_ (args_list_append _ _))
 show wpAny _ _ (updateSeq l.a (·.push x) >>=λ_=>ret .none) _ _ s1
 refine wpAny_bind (wpAny_updateSeq O.x rfl (wpAny_pure ⟨.none,rfl,wpAny_pure ?_⟩) hz (by rw[Array.size_push];exact Nat.succ_le_succ hz))
 have st:=O.put (k:=s1.toks) S1 (λxs=>xs.push x) (by simpa using O.r.append (.cons r1 .nil))
 have N2:Nx ρ noW s ρ1 _:=N1.trans (st.2 _)
 exact hK st.1 N2.wr (F.nx N2) q.2
noncomputable def pC(K:ItK C)(tgt:AF)(t:TF)(bf:Lo->MH->LK->Prop):Nat->K.σ->Lo->MH->LK->Prop
 |0,_,_,_,_=>False
 |n+1,it,lo,H,Q=>K.nx it H λres H1=>match res with
  |none=>Q lo H1
  |some p=>tgt p.1 lo H1 λlo1 H2=>t lo1 H2 λb H3=>bif b then bf lo1 H3 (λlo2 H4=>pC K tgt t bf n p.2 lo2 H4 Q) else pC K tgt t bf n p.2 lo1 H3 Q
inductive CEnd(C:Cx)(env:Env)(ρ0:List Lc)(s0:Shared)(ai:Nat)(l:Lc)(Q:LK)(s':Shared):Prop
 |mk {ρ':List Lc}{lo':Lo}{H':MH} (S:Sim C H' ρ' s') (N:Nx ρ0 (LW env) s0 ρ' s') (F:Fm C env ρ' s' lo') (hl:ρ'[ai]? =some l) (q:Q lo' H'):CEnd C env ρ0 s0 ai l Q s'
noncomputable def q6(C:Cx)(env:Env)(ρ0:List Lc)(s0:Shared)(ai:Nat)(l:Lc)(Q:LK):Result->Shared->Prop
 | .ok _,s'=>CEnd C env ρ0 s0 ai l Q s'
 | .error _,_=>False
theorem sQ{K:ItK C}{elt target iter:Expr}{ifs:List Expr}{gens:List Comprehension}{sc:Scope}{pos:Pos}{d:Nat}{tgt:AF}{t:TF}{bf:BF}(hg:gens[d]? =some ⟨target,iter,ifs,0⟩)
  (ht:ALV C r env target tgt) (hc:CnV C r env ifs t) (hb:BV C r env elt gens sc pos d bf) (htg:K.tg target/\K.need<=r){ai:Nat}{l:Lc}:
  ∀ (n:Nat){A:Around}{s0 s:Shared}{ρ0 ρ:List Lc}{H:MH}{lo:Lo}{it:K.σ}{x:Value}{X:Addr->Prop}{Q:LK},Room r A->ρ[ai]? =some l->Nx ρ0 (LW env) s0 ρ s->Sim C H ρ s->Fm C env ρ s lo->
   K.rel ρ s it x X->Apart C env ρ s0 X->pC K tgt t (bf ai) n it lo H Q->
   codeAny C.M A (.compLoop (.ListComp elt gens sc pos) d x (.ref l.a) env) (q6 C env ρ0 s0 ai l Q) s
 |0,_,_,_,_,_,_,_,_,_,_,_,_,_,_,_,_,_,_,e=>e.elim
 |n+1,A,s0,s,ρ0,ρ,H,lo,it,x,X,Q,hr,hl,N,S,F,R,hX,e=>by
  refine codeAny_of_tree ?_
  rw [Around.under_of_weight (c:=.compLoop (.ListComp elt gens sc pos) d x (.ref l.a) env) rfl rfl]
  show wpAny C.M A ((compTurn (.ListComp elt gens sc pos) d x (.ref l.a) env).onRaise (λx=>do noteFrame x env;theTreesLotGoes x)) _ _ s
  refine wpAny_onRaise (wpAny_mono (Q:=λfin s'=>match fin with
   | .done f=>q6 C env ρ0 s0 ai l Q (.ok f) s'
   | .again c'=>c'.quiet=true/\codeAny C.M A c' (q6 C env ρ0 s0 ai l Q) s') (E:=NoE) ?_ (λ_ _ z=>z) (λ_ _ z=>z.elim))
  unfold compTurn
  simp only[hg]
  refine wpAny_bind (wpAny_standAt (wpAny_bind (wmN (K.next htg.2 hr S R hX.two e) λo s1 p=>?_)))
  cases p with
  |done S1 I1 q=>exact wpAny_pure ⟨S1,N.stepI I1 (λb q=>(hX b q).1),F.nextI I1 (λb hw q=>(hX b q).2.2.2 hw),aO I1.pre hl,q⟩
  |item S1 I1 ru R1 q=>
   have hl1:=aO I1.pre hl
   have hX1:Apart C env _ s0 X:=λb q=>let ⟨o',e'⟩:=K.alive R b q;⟨(hX b q).1,I1.owns e' (hX b q).2.1,(hX b q).2.2⟩
   refine wpAny_bind (wmN (K.lgo (target:=target) hr S1 R1 htg.1 hX1.two) λ_ s2 p=>?_)
   refine xAA p λS2 I2 R2=>?_
   have N2:=(N.stepI I1 (λb q=>(hX b q).1)).stepI I2 (λb q=>(hX b q).1)
   have fin:∀ {ρ5 s5 lo5 H5},Sim C H5 ρ5 s5->Nx _ (LW env) s2 ρ5 s5->Fm C env ρ5 s5 lo5->pC K tgt t (bf ai) n _ lo5 H5 Q->
     codeAny C.M A (.compLoop (.ListComp elt gens sc pos) d x (.ref l.a) env) (q6 C env ρ0 s0 ai l Q) s5:=λS5 N5 F5 e5=>
    sQ hg ht hc hb htg n hr (aO N5.pre hl1) (N2.trans N5) S5 F5 (K.mono R2 N5.pre N5.imm (λb o q e'=>N5.kp b o e' (hX1 b q).2.1 (λz=>(hX b q).2.2.2 (.inl z))))
     (λb z=>let ⟨o',e'⟩:=K.alive R2 b z;⟨(hX b z).1,N5.own e' (hX1 b z).2.1,(hX b z).2.2⟩) e5
   refine wpAny_bind (dX.run (α:=Unit) (ht hr S2 ((F.nextI I1 (λb hw q=>(hX b q).2.2.2 hw)).nextI I2 (λb hw q=>(hX1 b q).2.2.2 hw)) (ru.mono I2.pre I2.imm) q) λS3 N3 F3 q=>wpAny_bind (wmN (hc hr S3 F3 q) λok s4 p=>?_))
   obtain⟨S4,N4,q⟩:=p
   have N34:=N3.trans N4.wr
   cases ok with
   |false=>
    rw [if_neg (by decide)]
    exact wpAny_pure ⟨rfl,fin S4 N34 (F3.nx N4) q⟩
   |true=>
    rw [if_pos rfl]
    show wpAny C.M A (aAm elt gens sc pos d (.ref l.a) env (again (Code.compLoop (elt.ListComp gens sc pos) d x (Value.ref l.a) env))) _ _ s4
    exact hb hr S4 (F3.nx N4) (aO N34.pre hl1) q λS5 N5 F5 q=>wpAny_pure ⟨rfl,fin S5 (N34.trans N5) F5 q⟩
theorem l7{K:ItK C}{elt target iter:Expr}{ifs:List Expr}{gens:List Comprehension}{sc:Scope}{pos:Pos}{d:Nat}{tgt:AF}{t:TF}{bf:BF}(hg:gens[d]? =some ⟨target,iter,ifs,0⟩)(hre:dF K)
  (ht:ALV C r env target tgt) (hc:CnV C r env ifs t) (hb:BV C r env elt gens sc pos d bf) (htg:K.tg target/\K.need<=r){ai:Nat}{l:Lc}
  (n:Nat){A:Around}{s0 s:Shared}{ρ0 ρ:List Lc}{H:MH}{lo:Lo}{it:K.σ}{x:Value}{X:Addr->Prop}{Q:LK} (hr:Room r A) (hl:ρ[ai]? =some l) (N:Nx ρ0 (LW env) s0 ρ s) (S:Sim C H ρ s) (F:Fm C env ρ s lo)
  (R:K.rel ρ s it x X) (hX:Apart C env ρ s0 X) (e:pC K tgt t (bf ai) n it lo H Q):
  codeAny C.M A (.compStart (.ListComp elt gens sc pos) d x (.ref l.a) env) (q6 C env ρ0 s0 ai l Q) s:=by
 have L:=sQ hg ht hc hb htg n hr hl N S F R hX e
 have hnx:∃ y,K.nx it H y:=by
  cases n with
  |zero=>exact e.elim
  |succ n=>exact⟨_,e⟩
 refine codeAny_of_tree ?_
 rw [Around.under_of_weight (c:=.compStart (.ListComp elt gens sc pos) d x (.ref l.a) env) rfl rfl]
 show wpAny _ _ ((compStart (.ListComp elt gens sc pos) d x (.ref l.a) env).onRaise (λx=>do noteFrame x env;standAt theWindowsPlace)) _ _ s
 refine wpAny_onRaise (wpAny_mono (Q:=λfin s'=>match fin with
   | .done f=>q6 C env ρ0 s0 ai l Q (.ok f) s'
   | .again c'=>c'.quiet=true/\codeAny C.M A c' (q6 C env ρ0 s0 ai l Q) s') (E:=NoE) ?_ (λ_ _ z=>z) (λ_ _ z=>z.elim))
 unfold compStart
 have hcl:clausesOf (.ListComp elt gens sc pos)=gens:=rfl
 rw [hcl,hg]
 show wpAny _ _ (ask >>=_) _ _ s
 refine wpAny_bind (wpAny_askSetting (wpAny_ite ?_))
 split
 ·first
   |exact wpAny_bind (wpAny_pure (wpAny_pure (And.intro rfl L)))
   |exact wpAny_pure (And.intro rfl L)
 ·refine wpAny_bind (wpAny_rule ?_)
  show wpAny _ _ (standAt iter.pos >>=_) _ _ s
  exact wpAny_bind (wpAny_standAt (wpAny_bind (hre S hnx R (wpAny_pure (And.intro rfl L)))))
theorem aGd{K:ItK C}{ρ2 ρ:List Lc}{s s2:Shared}{lo:Lo}{X:Addr->Prop}(F:Fm C env ρ s lo)(hX:∀ b,X b->s.heap.get? b=none/\¬Own ρ2 b/\C.base.heap.get? b=none):Apart C env ρ2 s X:=λb q=>
 ⟨(hX b q).1,(hX b q).2.1,(hX b q).2.2,λhw=>by refine xE (F.alv b hw) λo e'=>?_;rw[(hX b q).1]at e';cases e'⟩
noncomputable def w4(K:ItK C)(fi:IF K)(tgt:AF)(t:TF)(bf:BF):BF:=λai lo H Q=>fi lo H λit H1=>∃ n,pC K tgt t (bf ai) n it lo H1 Q
theorem BV.more{K:ItK C}{elt target iter:Expr}{ifs:List Expr}{gens:List Comprehension}{sc:Scope}{pos:Pos}{d:Nat}{fi:IF K}{tgt:AF}{t:TF}{bf:BF}(hg:gens[d+1]? =some ⟨target,iter,ifs,0⟩)(hre:dF K)
  (hi:IV K r env iter fi) (ht:ALV C r env target tgt) (hc:CnV C r env ifs t) (hb:BV C r env elt gens sc pos (d+1) bf) (htg:K.tg target/\K.need<=r) (hs:∀ x,foldedSetIterable iter env x=pure x):BV C r env elt gens sc pos d (w4 K fi tgt t bf):=by
 intro A s ρ H lo Q0 ai l Q K' hr S F hl q hK
 unfold aAm
 rw [hg]
 refine wpAny_bind (wmN (hi hr S F q) λx s1 h=>wpAny_bind (wpAny_standAt ?_))
 rw [if_neg (by simp)]
 refine wpAny_bind (wpAny_of_eq (hs x) (wpAny_bind (wpAny_holding ?_)))
 rw [if_neg (by simp)]
 refine wmN h λy s2 p=>wpAny_bind (wpAny_runOwn ?_)
 obtain⟨S2,N2,R2,hX,n,q⟩:=p
 refine codeAny_mono (l7 (s0:=s) (ρ0:=ρ) hg hre ht hc hb htg n (A:=A.mark none) hr (aO N2.pre hl) N2.wr S2 (F.nx N2) R2 (aGd (K:=K) (s2:=s2) F hX) q) λrr s3 hL=>?_
 cases rr with
 |ok f=>obtain⟨S3,N3,F3,_,q⟩:=hL;exact hK S3 N3 F3 q
 |error _=>exact hL.elim
end
section
variable {C:Cx}{r:Nat}{env:Env}
theorem aF2{M:Model}{A:Around}{E:Value->Shared->Prop}{s:Shared}{e:Expr}{sc:Scope}{pos:Pos}{newAcc first:Sem Value}{g:Comprehension}{gs:List Comprehension}{use:Option (Value->Sem Unit)}{hid:List Str}{Q:Value->Shared->Prop}
  (hcl:clausesOf e=g :: gs) (hs:∀ x,foldedSetIterable g.iter env x=pure x) (K:qZ env sc hid) (hcell:∀ p∈sc.names,p.2= .free->∃ c,env.cells.lookup p.1=some c)
  (h:wpAny M A first (λx s₁=>wpAny M A (pyIter x) (λit s₂=>wpAny M A newAcc (λacc s₃=>
   ∀ h₄,h₄.Ns s₃.heap.objs.size (λ_=>none)->Heap.SameBut s₃.heap.objs.size (s₃.heap.push {cls:=.type "dict",data:=.dict #[]}) h₄->
    codeAny M A (.compStart e 0 it acc (iB env sc s₃.heap.objs.size)) (λr s'=>match r with
     | .ok _=>(∃ m,s'.heap.Ns s₃.heap.objs.size m)/\(match use with
      |none=>∀ h',Heap.SameBut s₃.heap.objs.size s'.heap h'->Q acc {s' with heap:=h'}
      |some u=>wpAny M A (u acc) (λ_ s''=>(∃ m,s''.heap.Ns s₃.heap.objs.size m)/\∀ h',Heap.SameBut s₃.heap.objs.size s''.heap h'->Q .none {s'' with heap:=h'}) E s')
     | .error _=>False) {s₃ with heap:=h₄}) E s₂) E s₁) E s):
  wpAny M A (comprehension e sc env pos newAcc false first use) Q E s:=by
 unfold comprehension
 rw [hcl]
 refine wpAny_bind (wpAny_mono h (λx s₁ h₁=>wpAny_bind (wpAny_standAt (wpAny_bind (wpAny_of_eq (hs x) (wpAny_bind (wpAny_holding (wpAny_mono h₁ (λit s₂ h₂=>
  wpAny_standIf (wpAny_bind (wpAny_mono h₂ (λacc s₃ h₃=>?_) λ_ _ h'=>h'))) λ_ _ h'=>h'))))))) λ_ _ h'=>h')
 have hclo:∀ {Q':List (Str×Addr)->Shared->Prop},Q' (gW env.cells sc.names []) s₃->wpAny M A (closureFor sc env) Q' E s₃:=by
  intro Q' hq
  unfold closureFor
  refine wpAny_bind (kQ (env:=env) _ (λname kind cs=>by cases hkc:kind==NameKind.free<;>simp [hkc]) sc.names [] _ hcell (wpAny_pure hq))
 refine wpAny_bind (hclo ?_)
 have hnc:∀ x∈sc.names,x.2≠ .cell:=λx hx=>by have:=List.all_eq_true.mp K.nocell x hx;simpa using this
 refine wpAny_bind (wpAny_newFunctionEnv (binds:=[]) hnc (λx hx=>by cases hx) (λh₄ hn₄ hs₄=>?_) K.kind)
 have hc4:=h₃ h₄ hn₄ hs₄
 dsimp only
 have hv:∀ (vs:List (Str×NameKind)),(∀ p∈vs,p∈sc.names)->∀ p∈vs,p.2= .local->(iB env sc s₃.heap.objs.size).kindOf p.1=some .local:=λvs hvs p hp hl=>by
  have h1:=List.all_eq_true.mp K.hid p (hvs p hp)
  rw [hl]at h1
  simp at h1
  rw [m6,h1.1]
  rfl
 have hk':(iB env sc s₃.heap.objs.size).scope.kind= .function:=K.kind
 refine wpAny_holding (wpAny_bind (wpAny_attempt (wpAny_holding (wpAny_run (codeAny_mono hc4 λr s' hr=>?_)))))
 cases r with
 |error x=>exact hr.elim
 |ok f=>
  refine xA hr λz92 hq=>?_;obtain⟨m,hm⟩:=z92
  cases use with
  |none=>
   refine wpAny_bind (wpAny_holding (wpAny_comp_letGo (cenv:=iB env sc s₃.heap.objs.size) hk' _ s' m (hv _ λp hp=>?_) hm λh' m' _ hs'=>wpAny_pure (hq h' hs')))
   exact(List.mem_filter.mp (List.mem_reverse.mp hp)).1
  |some u=>
   refine wpAny_bind (wpAny_rule (wpAny_bind (wpAny_holding (wpAny_mono hq ?_ λ_ _ z=>z))))
   rintro _ s'' ⟨⟨m',hm'⟩,hq'⟩
   refine wpAny_bind (wpAny_comp_letGo (cenv:=iB env sc s₃.heap.objs.size) hk' _ s'' m' (hv _ λp hp=>?_) hm' λh' m' _ hs'=>wpAny_pure (hq' h' hs'))
   refine Or.elim (List.mem_append.mp hp) (λz=>?_) λz=>?_
   ·exact(List.mem_filter.mp (List.mem_reverse.mp (List.mem_of_mem_drop z))).1
   ·exact(List.mem_filter.mp (List.mem_reverse.mp (List.mem_of_mem_take z))).1
noncomputable def b6(K:ItK C)(hid:List Str)(fi:IF K)(tgt:AF)(t:TF)(bf:BF):EF:=λlo H Q=>fi lo H λit H1=>∃ n,pC K tgt t (bf H1.length) n it (hide hid lo) (H1++[.list []]) λ_ H2=>Q (.ref H1.length) H2
inductive CoEnd(C:Cx)(ρ:List Lc)(s:Shared)(Q0:EK)(x:Value)(L:Addr)(s':Shared):Prop
 |mk {ρ' v H'} (hL:s.heap.get? L=none) (S:Sim C H' ρ' s') (N:Nx ρ (λb=>b=L) s ρ' s') (r:VR ρ' s'.heap x v) (ho: ¬Own ρ' L) (hb:C.base.heap.get? L=none) (hm:∃ m,s'.heap.Ns L m) (q:Q0 v H'):CoEnd C ρ s Q0 x L s'
theorem sO{K:ItK C}{elt target iter:Expr}{ifs:List Expr}{gs:List Comprehension}{sc:Scope}{pos p:Pos}{hid:List Str}{fi:IF K}{tgt:AF}{t:TF}{bf:BF}{use:Option (Value->Sem Unit)}
  (hsc:qZ env sc hid) (hh:(hid.all λx=>sc.names.lookup x != some .free)=true) (hre:dF K) (hi:IV K r env iter fi)
  (ht:∀ L,ALV C r (iB env sc L) target tgt) (hc:∀ L,CnV C r (iB env sc L) ifs t) (hb:∀ L,BV C r (iB env sc L) elt (⟨target,iter,ifs,0⟩ :: gs) sc pos 0 bf) (htg:K.tg target/\K.need<=r) (hs:∀ x,foldedSetIterable iter env x=pure x)
  {A:Around}{s:Shared}{ρ:List Lc}{H:MH}{lo:Lo}{Q0:EK}{Q:Value->Shared->Prop} (hr:Room r A) (S:Sim C H ρ s) (F:Fm C env ρ s lo) (q:b6 K hid fi tgt t bf lo H Q0)
  (hQ:∀ x L s',CoEnd C ρ s Q0 x L s'->
   (match use with
    |none=>∀ h',Heap.SameBut L s'.heap h'->Q x {s' with heap:=h'}
    |some u=>wpAny C.M A (u x) (λ_ s''=>(∃ m,s''.heap.Ns L m)/\∀ h',Heap.SameBut L s''.heap h'->Q .none {s'' with heap:=h'}) NoE s')):
  wpAny C.M A (comprehension (.ListComp elt (⟨target,iter,ifs,0⟩ :: gs) sc pos) sc env p (newList []) false (eval iter env) use) Q NoE s:=by
 have hfc:∀ p∈sc.names,p.2= .free->∃ c,env.cells.lookup p.1=some c:=λp hp hk=>by
  have h:=List.all_eq_true.mp hsc.free p hp
  rw [hk]at h
  refine iS (F.cl p.1 (.inl (eq_of_beq h))) λc _ _ hc _=>?_
  exact⟨c,hc⟩
 refine aF2 (g:=⟨target,iter,ifs,0⟩) rfl hs hsc hfc (wmN (hi hr S F q) λx s1 hx=>wmN hx λy s2 p=>?_)
 obtain⟨S2,N2,R2,hX,n,q⟩:=p
 rename_i ρ2 X it H1
 refine wpAny_newList ?_ (by rw[sizeLine_eq];decide)
 have S3:=S2.alloc {cls:=.type "list",data:=.seq #[]} (.list []) ⟨rfl,rfl,#[],0,Heap.get?_push_size _ rfl,.nil⟩
 have N3:Nx ρ2 noW s2 _ _:=.alloc {cls:=.type "list",data:=.seq #[]}
 have hl:=S2.last (l:=⟨s2.heap.objs.size,s2.heap.objs.size,none⟩)
 intro h4 hn4 hs4
 have N23:=N2.trans N3
 have keep4:∀ b o,(s2.heap.push {cls:=.type "list",data:=.seq #[]}).get? b=some o->h4.get? b=some o:=λb o e=>by
  rw [hs4.2 b (Nat.ne_of_lt (Heap.lt_size e))]
  exact Heap.get?_push_of_some _ e
 have N34:=N3.trans (.ext (k:=s2.toks) keep4)
 have hLf:(s2.heap.push {cls:=.type "list",data:=.seq #[]}).get? (s2.heap.push {cls:=.type "list",data:=.seq #[]}).objs.size=none:=bJ _
 refine xA (Fm.comp hsc (λx hx=>by have:=List.all_eq_true.mp hh x hx;simpa using this) S3 ((F.nx N2).nx N3) hLf hn4 (.ext (k:=s2.toks) keep4)) λF4 hW=>?_
 have hLs:=(c4 N23 S3 hLf).1
 refine codeAny_mono (l7 (s0:=s) (ρ0:=ρ) (env:=iB env sc (s2.heap.push {cls:=.type "list",data:=.seq #[]}).objs.size) rfl hre (ht _) (hc _) (hb _) htg n hr hl (N2.trans N34).wr (S3.ext (k:=s2.toks) keep4) F4
  (K.mono R2 N3.pre N34.imm (λb o qb e'=>N34.kp b o e' (hX b qb).2.1 (λz=>z))) (λb qb=>?_) q) λrr s5 hL=>?_
 ·refine xE (K.alive R2 b qb) λo' e'=>?_
  refine⟨(hX b qb).1,N34.own e' (hX b qb).2.1,(hX b qb).2.2,λhw=>?_⟩
  refine Or.elim (hW b hw) (λz=>?_) λz=>?_
  ·refine xE (N3.al _ _ e') λo2 e2=>?_
   rw [z,hLf]at e2;cases e2
  ·refine xE (F.alv b z) λo e''=>?_;rw[(hX b qb).1]at e'';cases e''
 ·cases rr with
  |error _=>exact hL.elim
  |ok f=>
   obtain⟨S5,N5,F5,hl5,q5⟩:=hL
   refine xEA F5.ns λm5 hm5 _=>?_
   have fw:=F5.own _ (.inl rfl)
   exact⟨⟨m5,hm5⟩,hQ _ _ s5 ⟨hLs,S5,N5,.ref hl5,fw.1,fw.2,⟨m5,hm5⟩,q5⟩⟩
theorem Sim.sameL{H:MH}{ρ:List Lc}{s:Shared}{h':Heap}{L:Addr}(S:Sim C H ρ s)(hs:Heap.SameBut L s.heap h')(hm:∃ m,s.heap.Ns L m)(ho: ¬Own ρ L)(hb:C.base.heap.get? L=none):
  Sim C H ρ {s with heap:=h'}/\Imm s.heap h':=by
 refine jS hm λm o es ep g hd _=>?_
 have hi: ¬aW o:=by simp [aW,hd]
 exact⟨S.side (k:=s.toks) hs g hi ho hb,dJ hs g hi⟩
theorem Nx.gone{ρ ρ1:List Lc}{W:Addr->Prop}{s s1:Shared}{h':Heap}{L:Addr}(N1:Nx ρ (λb=>b=L∨W b) s ρ1 s1)(hL:s.heap.get? L=none)(hs':Heap.SameBut L s1.heap h')(im:Imm s1.heap h'):Nx ρ W s ρ1 {s1 with heap:=h'}:=by
 have ne:∀ {b o},s.heap.get? b=some o->b≠L:=λe q=>by rw[q,hL]at e;cases e
 exact⟨N1.pre,N1.new,λb o e hb' hw=>(hs'.2 b (ne e)).trans (N1.kp b o e hb' λq=>q.elim (ne e) hw),N1.imm.trans im,λb o e=>let ⟨o',e'⟩:=N1.al b o e;⟨o',(hs'.2 b (ne e)).trans e'⟩⟩
theorem EV.comp{K:ItK C}{elt target iter:Expr}{ifs:List Expr}{gs:List Comprehension}{sc:Scope}{pos:Pos}{hid:List Str}{fi:IF K}{tgt:AF}{t:TF}{bf:BF}
  (hsc:qZ env sc hid) (hh:(hid.all λx=>sc.names.lookup x != some .free)=true) (hre:dF K) (hi:IV K r env iter fi)
  (ht:∀ L,ALV C r (iB env sc L) target tgt) (hc:∀ L,CnV C r (iB env sc L) ifs t) (hb:∀ L,BV C r (iB env sc L) elt (⟨target,iter,ifs,0⟩ :: gs) sc pos 0 bf) (htg:K.tg target/\K.need<=r) (hs:∀ x,foldedSetIterable iter env x=pure x):
  EV C r env (.ListComp elt (⟨target,iter,ifs,0⟩ :: gs) sc pos) (b6 K hid fi tgt t bf):=by
 intro A s ρ H lo Q hr S F q
 rw [eval_ListComp]
 refine sO hsc hh hre hi ht hc hb htg hs hr S F q λx L s1 p h' hs'=>?_
 obtain⟨hL,S1,N1,r1,ho,hb,hm,q⟩:=p
 refine xA (S1.sameL hs' hm ho hb) λS2 im=>?_
 exact⟨S2,(N1.weaken λb q=>.inl q).gone hL hs' im,r1.mono (List.prefix_refl _) im,q⟩
theorem SV.assignC{K:ItK C}{x:Str}{elt target iter:Expr}{ifs:List Expr}{gs:List Comprehension}{sc:Scope}{pos pos' spos:Pos}{hid:List Str}{fi:IF K}{tgt:AF}{t:TF}{bf:BF}(hk:env.kindOf x=some .local)(hsw:swapsWith (.ListComp elt (⟨target,iter,ifs,0⟩ :: gs) sc pos) (some (.Name x pos')) spos.line env=pure true)
  (hsc:qZ env sc hid) (hh:(hid.all λx=>sc.names.lookup x != some .free)=true) (hre:dF K) (hi:IV K r env iter fi)
  (ht:∀ L,ALV C r (iB env sc L) target tgt) (hc:∀ L,CnV C r (iB env sc L) ifs t) (hb:∀ L,BV C r (iB env sc L) elt (⟨target,iter,ifs,0⟩ :: gs) sc pos 0 bf) (htg:K.tg target/\K.need<=r) (hs:∀ x,foldedSetIterable iter env x=pure x):
  SV C r env (.Assign [.Name x pos'] (.ListComp elt (⟨target,iter,ifs,0⟩ :: gs) sc pos) spos) (aX x (b6 K hid fi tgt t bf)):=by
 intro A s ρ H lo Q hr S F q
 rw [exec_Assign_Name_used _ _ _ _ hsw]
 refine wpAny_bind (wpAny_standAt (wpAny_bind ?_))
 rw [arm_evalThenUse_ListComp]
 refine wpAny_bind (sO hsc hh hre hi ht hc hb htg hs hr S F q λu L s1 p=>?_)
 obtain⟨hL,S1,N1,r1,ho,hbL,hm,q⟩:=p
 rename_i ρ2 v2 H2
 have F1:=F.next N1 (λb hb e=>by subst e;refine xE (F.alv _ hb) λo e'=>?_;rw[hL]at e';cases e')
 have hLW: ¬Wr env L:=λhw=>by refine xE (F.alv _ hw) λo e'=>?_;rw[hL]at e';cases e'
 show wpAny C.M A (PySem.assign (.Name x pos') env u) _ _ s1
 refine wpAny_assign_Name (hO S1 F1 r1 (uW (.inl hk)) λs2 S2 N2 F2=>?_)
 refine oK hm λm o es ep g hr'=>?_
 have hm2:∃ m,s2.heap.Ns L m:=⟨m,o,es,ep,N2.kp L o g ho hLW,hr'⟩
 refine⟨hm2,λh' hs'=>wpAny_pure (wpAny_pure ?_)⟩
 refine xA (S2.sameL hs' hm2 ho hbL) λS3 im=>?_
 have N3:NxI ρ2 (λb=>b=L) s2 ρ2 {s2 with heap:=h'}:=⟨List.prefix_refl _,λl hl=>by simp at hl,λb o e _ hne=>(hs'.2 b hne).trans e,im,λb o e hne=>⟨o,(hs'.2 b hne).trans e⟩⟩
 exact⟨S3,((N1.weaken λb q=>.inl q).trans (N2.weaken λb q=>.inr q)).gone hL hs' im,F2.nextI N3 (λb hb e=>by subst e;exact hLW hb),.next,q⟩
end
section
variable {C:Cx}{r:Nat}{env:Env}
noncomputable def Sg(M:Model)(A:Around)(c:Code)(t:Sem PySem.Fin)(fs:List Frame)(Φ:End->Shared->Prop)(s:Shared):Prop:=
 ∀ Γ p,Γ.code=c->Γ.Woken A->∃ e s',Runs M Γ p t fs s e s'/\Φ e s'
section
variable {M:Model}{A:Around}{c:Code}{fs:List Frame}{Φ:End->Shared->Prop}{s:Shared}
theorem iF{α:Type}{m:Sem α}{K:α->Sem PySem.Fin}{H:Value->Sem PySem.Fin}{gd lv}(h:wpAny M (A.over c fs) m (λa s'=>Sg M A c (K a) fs Φ s') (λx s'=>Sg M A c (H x) fs Φ s') s):Sg M A c (m.wrap K H gd lv) fs Φ s:=by
 rintro Γ p rfl hΓ
 exact runs_wrap_of_wp K H gd lv m (h (Γ.over fs) p (hΓ.over fs)) (λa p' s' h'=>h' Γ p' rfl hΓ) (λx p' s' h'=>h' Γ p' rfl hΓ)
theorem aDe{p':Pos}{k:Unit->Sem PySem.Fin}(h:Sg M A c (k ()) fs Φ s):Sg M A c (.at p' k) fs Φ s:=
 iF (m:=standAt p') (K:=k) (H:=.raise) (gd:=id) (lv:=id) (wpAny_standAt h)
theorem aDc{l:List Value}{k:Unit->Sem PySem.Fin}(h:Sg M A c (k ()) fs Φ s):Sg M A c (.point l k) fs Φ s:=
 iF (m:=point) (K:=k) (H:=.raise) (gd:=id) (lv:=λ_=>l) (wpAny_point h)
theorem aG4{c':Code}{h g l}{k:Result->Sem PySem.Fin}(hc:∀ p,Sg M A c' (M.den c') (.ret k h g l c p [] :: fs) Φ s):Sg M A c (.call c' h g l k) fs Φ s:=by
 rintro Γ p rfl hΓ
 refine bP (hc p (Γ.goto c') p rfl (hΓ.goto c')) λe s' hr he=>?_
 exact⟨e,s',runs_call_seg hr,he⟩
theorem aG3{k h g l c₁ p₁ kp}(r:Result)(hk:Sg M A c₁ (k r) fs Φ s):Sg M A c (leafOf r) (.ret k h g l c₁ p₁ kp :: fs) Φ s:=by
 rintro Γ p rfl hΓ
 refine bP (hk (Γ.goto c₁) p₁ rfl (hΓ.goto c₁)) λe s' hr he=>?_
 exact⟨e,s',Runs.pop r hr,he⟩
theorem o0{c':Code}(hq:c'.quiet=true)(hc:Sg M A c' (M.den c') fs Φ s):Sg M A c (.pure (.again c')) fs Φ s:=by
 rintro Γ p rfl hΓ
 refine bP (hc (Γ.goto c') p rfl (hΓ.goto c')) λe s' hr he=>?_
 exact⟨e,s',Runs.head (c₁:=c') (λ_ _ x=>.again hq x) hr,he⟩
theorem aDd(r:Result)(h:Φ (.ret r) s):Sg M A c (leafOf r) [] Φ s:=by
 rintro Γ p rfl _
 exact⟨.ret r,s,Runs.leaf r,h⟩
theorem aC9{v g l}{k:Resume->Sem PySem.Fin}(hfs:splitAtGen fs=none)(h:∀ p,Φ (.susp v g l k c p fs) s):Sg M A c (.yield v g l k) fs Φ s:=by
 rintro Γ p rfl _
 exact⟨_,s,Runs.yield' fs hfs,h p⟩
noncomputable def aGi(M:Model)(A:Around)(Φ:End->Shared->Prop)(r:Resume)(s:Shared):GenState->Prop
 | .fresh c=>r= .send .none/\Sg M A c (M.den c) [] Φ s
 | .suspended k₀ _ c _ fs _=>Sg M A c (k₀ r) fs Φ s
 |_=>False
theorem w9{E:Value->Shared->Prop}{g:Nat}{gs:GenState}{r:Resume}{l:List Value}{α:Type}{k:GenResult->Sem α}{Q:α->Shared->Prop}(hg:s.gens[g]? =some gs)
  (hgo:aGi M A Φ r (s.setGen g .running) gs)
  (hq:∀ e s₁,Φ e s₁->e.quiet=true/\wpAny M A (k e.result) Q E (s₁.setGen g e.genState)):wpAny M A (.resume g r l k) Q E s:=by
 intro Γ p hΓ
 rw [Sem.wp_resume]
 have hB:∀ c,(Γ.wake c p).Woken A:=λc=>hΓ.wake c p
 cases gs with
 |fresh c=>
  refine xA hgo λz93 hs=>?_;clear hgo;subst z93
  refine bP (hs (Γ.wake c p) p rfl (hB c)) λe₁ s₁ hr he=>?_
  exact⟨_,_,by unfold Wakes;rw[hg];exact⟨e₁,s₁,hr,(hq e₁ s₁ he).1,rfl,rfl⟩,(hq e₁ s₁ he).2 Γ p hΓ⟩
 |suspended k₀ l₀ c₀ p₀ fs₀ cl=>
  refine bP (hgo (Γ.wake c₀ p) p₀ rfl (hB c₀)) λe₁ s₁ hr he=>?_
  exact⟨_,_,by unfold Wakes;rw[hg];exact⟨e₁,s₁,hr,(hq e₁ s₁ he).1,rfl,rfl⟩,(hq e₁ s₁ he).2 Γ p hΓ⟩
 |running=>exact hgo.elim
 |finished=>exact hgo.elim
end
section
variable {M:Model}{A:Around}{c:Code}{fs:List Frame}{Φ:End->Shared->Prop}{s:Shared}{K:Flow->Sem PySem.Fin}{H:Value->Sem PySem.Fin}{gd:Bool->Bool}{lv:List Value->List Value}
theorem cV{st:Stmt}{rest:List Stmt}(h:Sg M A c ((exec st env).wrap (λf=>match f with | .next=>(execs rest env).wrap K H gd lv |f=>K f) H gd lv) fs Φ s):
  Sg M A c ((execs (st :: rest) env).wrap K H gd lv) fs Φ s:=by rw[execs_cons_wrap];exact h
theorem jW{e:Expr}{ypos pos:Pos}(hfs:splitAtGen fs=none)(hgd:gd false=false)
  (h:wpAny M (A.over c fs) (eval e env) (λv s'=>∀ l k p,k (.send .none)=K .next->Φ (.susp v false l k c p fs) s') (λx s'=>Sg M A c (H x) fs Φ s') s) (hco:env.scope.isCoroutine=false) (hi:interactive env=false):
  Sg M A c ((exec (.Expr (.Yield (some e) ypos) pos) env).wrap K H gd lv) fs Φ s:=by
 rw [exec_Expr env _ pos hi rfl]
 show Sg M A c (.at pos λ_=>((eval e env >>=λv=>(standAt ypos >>=λ_=>yieldOut env v)) >>=λx=>
  dropValue (.Yield (some e) ypos) pos x).wrap K H gd lv) fs Φ s
 have hy:∀ v,yieldOut env v=yieldValue v:=λv=>by simp only[yieldOut,hco,Bool.false_eq_true,if_false]
 simp only[hy]
 refine aDe ?_
 rw [Sem.bind_eq_wrap',Sem.bind_eq_wrap',Sem.wrap_wrap,Sem.wrap_wrap]
 refine iF (wpAny_mono h (λv s' h'=>?_) λ_ _ x=>x)
 refine aDe ?_
 have key:=λl k p hk=>h' l k p hk
 rw [<-hgd]at key
 exact aC9 hfs λp=>key _ _ p rfl
theorem sg_If{test:Expr}{b1 b2:List Stmt}{pos:Pos}(h:wpAny M (A.over c fs) (isTrue test env (eval test env)) (λb s'=>if b=true then Sg M A c ((execs b1 env).wrap K H gd lv) fs Φ s' else Sg M A c ((execs b2 env).wrap K H gd lv) fs Φ s') (λx s'=>Sg M A c (H x) fs Φ s') s):
  Sg M A c ((exec (.If test b1 b2 pos) env).wrap K H gd lv) fs Φ s:=by
 rw [exec_If]
 show Sg M A c (.at _ λ_=>(isTrue test env (eval test env) >>=λb=>if b=true then execs b1 env else execs b2 env).wrap K H gd lv) fs Φ s
 refine aDe ?_
 rw [Sem.bind_eq_wrap',Sem.wrap_wrap]
 refine iF (wpAny_mono h (λb s' hb=>?_) λ_ _ x=>x)
 cases b with
 |true=>exact hb
 |false=>exact hb
end
end
section
variable {C:Cx}{r:Nat}{env:Env}
theorem nR{prog:Program}{w:World}{A:Around}{E:Value->Shared->Prop}{s:Shared}{it l:Addr}{i:Nat}{items}{Q:Option Value->Shared->Prop}(hh:A.handled=none)
  (hit:s.heap.IsListIter it l i) (hl:s.heap.IsList l items) (hx:items[i]? =none)
  (hQ:∀ h' o',h'.get? it=some o'->¬aW o'->Heap.ExtBut it s.heap h'->Q none {s with heap:=h'}):wpAny (model prog w) A (pyNext (.ref it)) Q E s:=by
 refine dC (id hit) λo ho hc hd=>?_
 refine y5 hl λol hol _ nl hdl=>?_
 unfold pyNext
 refine wpAny_bind (wpAny_attempt (wpAny_callSpecial?_slot (name:=Str.ofString "__next__") hit.typeIs slot_listiter_next
  (wpAny_call_entry slot_listiter_next hit.typeIs entry_listiter_next ?_ (args_listiter_next _))))
 show wpAny _ _ (field (.ref it) 0 >>=_) _ _ s
 refine wpAny_bind (wpAny_field ho hd (x:=.ref l) rfl ?_)
 show wpAny _ _ (if (Value.ref l==Value.none)=true then _ else _) _ _ s
 rw [if_neg (show¬((Value.ref l==Value.none)=true) from Bool.false_ne_true)]
 show wpAny _ _ (field (.ref it) 1 >>=_) _ _ s
 refine wpAny_bind (wpAny_field ho hd (x:=.int i 0) rfl ?_)
 show wpAny _ _ (seqItems? (.ref l) >>=_) _ _ s
 refine wpAny_bind (wpAny_seqItems hol hdl ?_)
 simp only[Int.toNat_natCast,hx]
 refine wpAny_bind (wpAny_rule (wpAny_bind (wpAny_setField ho hd (by simp) ?_)))
 show wpAny _ _ (newExc (.type "StopIteration") [] >>=_) _ _ _
 refine wpAny_bind ?_
 simp only[newExc,newTuple]
 refine wpAny_bind (wpAny_newObj_type ?_ (by size_fits))
 refine wpAny_bind (m:=firstArgMember _ _) (wpAny_of_eq (a:=Value.none) (by first |rfl | (simp only[firstArgMember];rfl)) ?_)
 refine wpAny_newObj_type ?_ (by size_fits)
 simp only[raiseNew]
 refine wpAny_bind (wpAny_handled ?_)
 rw [show A.in1.handled=none from hh]
 refine wpAny_bind (wpAny_pure (wpAny_throw ?_))
 refine wpAny_bind (wpAny_isInstance (T:="StopIteration") (b:=true) ⟨_,Heap.get?_push_size _ rfl,rfl⟩ isSubtype_stop ?_)
 have hd':=Obj.data_mapFields hd (·.setIfInBounds 0 Value.none)
 refine wpAny_pure (hQ _ _ (Heap.get?_push_of_some _ (Heap.get?_push_of_some _ (Heap.get?_update_self _ ho (Obj.isFreed_of_fields hd')))) ?_ (((Heap.SameBut.update ..).extBut.push _).push _))
 have hc':=(Obj.cls_mapFields o (·.setIfInBounds 0 Value.none)).trans hc
 simp [aW,hd',hc']
noncomputable def MO.iv:MO->Option (Nat×Nat) | .itr (some p)=>some p |_=>none
theorem iv_mo{m:Option MO}{p:Nat×Nat}(e:m.bind MO.iv=some p):m=some (.itr (some p)):=by
 refine xEA (Option.bind_eq_some_iff.mp e) λm z94 h2=>?_;subst z94
 cases m with
 |itr o=>cases o with
  |none=>cases h2
  |some q=>cases h2;rfl
 |_=>cases h2
inductive ItrN(C:Cx)(H:MH)(ρ:List Lc)(s:Shared)(j ci k:Nat)(vs:List V):Option Value->Shared->Prop
 |item {u v s'} (hv:vs[k]? =some v) (S:Sim C (H.set j (.itr (some (ci,k+1)))) ρ s') (N:∀ W,Nx ρ W s ρ s') (r:VR ρ s'.heap u v):ItrN C H ρ s j ci k vs (some u) s'
 |done {s'} (hv:vs[k]? =none) (S:Sim C (H.set j (.itr none)) ρ s') (N:∀ W,Nx ρ W s ρ s'):ItrN C H ρ s j ci k vs none s'
theorem aEr{A:Around}{s:Shared}{ρ:List Lc}{H:MH}{j ci k:Nat}{l:Lc}{vs:List V}(hr:Room r A)(S:Sim C H ρ s)(hl:ρ[j]? =some l)(hH:H[j]? =some (.itr (some (ci,k))))(hv:lst H (.ref ci)=some vs):
  wpAny C.M A (pyNext (.ref l.a)) (ItrN C H ρ s j ci k vs) NoE s:=by
 refine r6 (S.objs j _ l hH hl) λg1 g2 li hli hit=>?_
 refine b8 (cZ S (.ref hli) hv) λad xs q1 q2 q3=>?_
 cases q1
 refine dC (id hit) λo h2 h3 h4=>?_
 have hi: ¬aW o:=tU h3 h4
 cases hvk:vs[k]? with
 |some v=>
  refine xEA (q3.get hvk) λu hu ru=>?_
  refine wpAny_pyNext_list_item hit q2 (by simpa using hu) λh' hit2 hs=>?_
  have st:=S.put (k:=s.toks) (h':=h') (m':=.itr (some (ci,k+1))) hl hH g1 h2 hi hs (let ⟨o2,e2,_⟩:=hit2;⟨o2,e2⟩) (by intro _ h;cases h) (by intro _ h;cases h) λim=>⟨g1,g2,li,hli,hit2⟩
  exact .item hvk st.1 st.2 (ru.nx (st.2 noW))
 |none=>
  refine nR hr.1 hit q2 (Array.getElem?_eq_none (by rw[q3.sz];exact List.getElem?_eq_none_iff.mp hvk)) λh' o' e' hi' he=>?_
  have im:Imm s.heap h':=λb x e i=>by
   by_cases q:b=l.a
   ·subst q;rw[h2]at e;cases e;exact absurd i hi
   ·exact he b x q e
  refine .done hvk (S.upd hl hH (by intro _ h;cases h) (λb o e hb=>he b o (λq=>hb (.inl q)) e) im rfl rfl ⟨g1,g2,o',e',hi'⟩ (by intro _ h;cases h))
   λW=>⟨List.prefix_refl _,λl hl=>by simp at hl,λb x e ho _=>he b x (λq=>ho (q▸⟨l,List.mem_of_getElem? hl,.inl rfl⟩)) e,im,λb x e=>?_⟩
  by_cases q:b=l.a
  ·rw[q];exact⟨o',e'⟩
  ·exact⟨x,he b x q e⟩
structure GSh where
 fd:FuncData
 fa:Addr
 pre:List Stmt
 target:Expr
 iter:Expr
 cond:Expr
 ye:Expr
 cond2:Expr
 ye2:Expr
 s1:Stmt
 s3:Stmt
 s2:List Stmt
 p1:Pos
 p2:Pos
 p3:Pos
 p4:Pos
 p5:Pos
 p6:Pos
 p7:Pos
namespace GSh
variable (G:GSh)
noncomputable def yst:Stmt:=.Expr (.Yield (some G.ye) G.p1) G.p2
noncomputable def yst2:Stmt:=.Expr (.Yield (some G.ye2) G.p3) G.p4
noncomputable def lb:List Stmt:=[.If G.cond (G.s1 :: G.yst :: G.s2) [] G.p5,G.s3]
noncomputable def if2:Stmt:=.If G.cond2 [G.yst2] [] G.p6
noncomputable def tail:List Stmt:=[.For G.target G.iter G.lb [] G.p7,G.if2]
noncomputable def body:List Stmt:=G.pre++G.tail
noncomputable def envL(L:Addr):Env:=callEnvC G.fd L G.fa
noncomputable def Kf:Flow->Sem PySem.Fin:=λf=>.pure (.done (.ret (match f with | .ret v=>v |_=>.none)))
noncomputable def Hf(env:Env):Value->Sem PySem.Fin:=λe=>(leaving env e).wrap (λ_=>.raise e) .raise id id
noncomputable def Ka(env:Env):Flow->Sem PySem.Fin:=λf=>match f with | .next=>(execs [G.if2] env).wrap Kf (Hf env) id id |f=>Kf f
noncomputable def fs1(env:Env)(p:Pos):List Frame:=[.ret (λr=>((match r with | .ok f=>(.pure f:Sem Flow) | .error e=>.raise e).onRaise fun(x:Value)=>do
    if (<-field x 1)==Value.none then unsupported "frame.own-activation:exception-without-traceback"
    setFlight x env.frame).wrap (G.Ka env) (Hf env) id id) none false [] (.func G.body env) p []]
noncomputable def loopC(env:Env)(x:Value):Code:=.forLoop G.target x G.lb [] env
noncomputable def Kt(env:Env)(x:Value):Flow->Sem PySem.Fin:=λf=>match f with
 | .next | .cont=>.pure (.again (G.loopC env x))
 | .brk=>.pure (.done .next)
 | .ret v=>.pure (.done (.ret v))
noncomputable def Ht(env:Env):Value->Sem PySem.Fin:=λe=>(do noteFrame e env;theTreesLotGoes e:Sem Unit).wrap (λ_=>.raise e) .raise id id
noncomputable def K1(env:Env)(x:Value):Flow->Sem PySem.Fin:=λf=>match f with | .next=>(execs [G.s3] env).wrap (G.Kt env x) (Ht env) id id |f=>G.Kt env x f
noncomputable def T1(env:Env)(x:Value):Sem PySem.Fin:=(execs G.s2 env).wrap (G.K1 env x) (Ht env) id id
end GSh
theorem dR{M:Model}{A:Around}{c:Code}{fs:List Frame}{Φ:End->Shared->Prop}{s:Shared}{α β:Type}{m:Sem α}{f:α->Sem β}{K:β->Sem PySem.Fin}{H:Value->Sem PySem.Fin}{gd:Bool->Bool}{lv:List Value->List Value}
  (h:wpAny M (A.over c fs) m (λa s'=>Sg M A c ((f a).wrap K H gd lv) fs Φ s') (λx s'=>Sg M A c (H x) fs Φ s') s):Sg M A c ((m >>=f).wrap K H gd lv) fs Φ s:=by
 rw [Sem.bind_eq_wrap',Sem.wrap_wrap]
 exact iF h
theorem fS{K:Flow->Sem PySem.Fin}{H:Value->Sem PySem.Fin}:∀ (a b:List Stmt),(execs (a++b) env).wrap K H id id=(execs a env).wrap (λf=>match f with | .next=>(execs b env).wrap K H id id |f=>K f) H id id
 | [],b=>rfl
 |st :: a,b=>by
  rw [List.cons_append,execs_cons_wrap,execs_cons_wrap]
  refine Sem.wrap_congr _ _ _ (λf=>?_) (λ_=>rfl)
  cases f with
  |next=>exact fS a b
  |_=>rfl
inductive mA where
 |yl (it:Nat) (lo:Lo) (v:V)
 |yr (lo:Lo) (v:V)
 |done
structure GFn where
 pre:SF
 it:EF
 tgt:AF
 fc:TF
 f1:SF
 fy:EF
 f2:SF
 f3:SF
 fc2:TF
 fy2:EF
namespace GFn
variable (g:GFn)
noncomputable def tail(lo:Lo)(H:MH)(Q:mA->MH->Prop):Prop:=g.fc2 lo H λb H2=>bif b then g.fy2 lo H2 λv H3=>Q (.yr lo v) H3 else Q .done H2
noncomputable def nextK(k:Lo->MH->Prop):SK:=λfl lo H=>match fl with | .next=>k lo H |_=>False
noncomputable def loopN:Nat->Nat->Lo->MH->(mA->MH->Prop)->Prop
 |0,_,_,_,_=>False
 |n+1,it,lo,H,Q=>Lf (H[it]?.bind MO.iv) λp=>Lf (lst H (.ref p.1)) λvs=>match vs[p.2]? with
  |some v=>g.tgt v lo (H.set it (.itr (some (p.1,p.2+1)))) λlo1 H1=>g.fc lo1 H1 λb H2=>
    bif b then g.f1 lo1 H2 (nextK λlo2 H3=>g.fy lo2 H3 λv H4=>Q (.yl it lo2 v) H4)
    else g.f3 lo1 H2 (nextK λlo2 H3=>loopN n it lo2 H3 Q)
  |none=>g.tail lo (H.set it (.itr none)) Q
noncomputable def loop(it:Nat)(lo:Lo)(H:MH)(Q:mA->MH->Prop):Prop:=∃ n,g.loopN n it lo H Q
noncomputable def start(lo:Lo)(H:MH)(Q:mA->MH->Prop):Prop:=g.pre lo H (nextK λlo1 H1=>g.it lo1 H1 λa H2=>Lf a.rf λci=>(∃ vs,lst H2 (.ref ci)=some vs)/\g.loop H2.length lo1 (H2++[.itr (some (ci,0))]) Q)
noncomputable def more(it:Nat)(lo:Lo)(H:MH)(Q:mA->MH->Prop):Prop:=g.f2 lo H (nextK λlo1 H1=>g.f3 lo1 H1 (nextK λlo2 H2=>g.loop it lo2 H2 Q))
end GFn
structure GV(C:Cx)(r:Nat)(G:GSh)(g:GFn)(env:Env):Prop where
 pre:SVs C r env G.pre g.pre
 it:EV C r env G.iter g.it
 tgt:AV C r env G.target g.tgt
 fc:TV C r env G.cond g.fc
 f1:SV C r env G.s1 g.f1
 fy:EV C r env G.ye g.fy
 f2:SVs C r env G.s2 g.f2
 f3:SV C r env G.s3 g.f3
 fc2:TV C r env G.cond2 g.fc2
 fy2:EV C r env G.ye2 g.fy2
 hs:∀ x,foldedSetIterable G.iter env x=pure x
 co:env.scope.isCoroutine=false
 ia:interactive env=false
inductive GΦ(C:Cx)(G:GSh)(env:Env)(ρ0:List Lc)(s0:Shared)(Q:mA->MH->Prop):End->Shared->Prop
 |yl {ρ1 H1 it lo v li u l k p p' s'} (S:Sim C H1 ρ1 s') (N:Nx ρ0 (Wr env) s0 ρ1 s') (hk:k (.send .none)=G.T1 env (.ref li.a)) (hli:ρ1[it]? =some li) (r:VR ρ1 s'.heap u v) (F:Fm C env ρ1 s' lo) (q:Q (.yl it lo v) H1):
   GΦ C G env ρ0 s0 Q (.susp u false l k (G.loopC env (.ref li.a)) p (G.fs1 env p')) s'
 |yr {ρ1 H1 lo v u l k p s'} (S:Sim C H1 ρ1 s') (N:Nx ρ0 (Wr env) s0 ρ1 s') (hk:k (.send .none)=GSh.Kf .next) (r:VR ρ1 s'.heap u v) (F:Fm C env ρ1 s' lo) (q:Q (.yr lo v) H1):GΦ C G env ρ0 s0 Q (.susp u false l k (.func G.body env) p []) s'
 |done {ρ1 H1 s'} (S:Sim C H1 ρ1 s') (N:Nx ρ0 (Wr env) s0 ρ1 s') (o:∃ o,s'.heap.get? env.locals=some o/\¬aW o) (q:Q .done H1):GΦ C G env ρ0 s0 Q (.ret (.ok (.ret .none))) s'
theorem Room.overF{A:Around}{b:List Stmt}{e:Env}(hr:Room (r+1) A):Room r (A.over (.func b e) []):=by
 refine xAA hr λh1 h2 h3=>?_
 have w1:(Code.func b e).weight=1:=rfl
 have w2:(Code.func b e).cUnits=3:=rfl
 refine⟨h1,?_,?_⟩
 ·show A.depth+0+(Code.func b e).weight+10*r<=700
  rw [w1];exact A34 h2
 ·show A.units+0+(Code.func b e).cUnits+40*r<=8000
  rw [w2];exact A35 h3
theorem Room.overL{A:Around}{G:GSh}{x:Value}{e:Env}{p:Pos}(hr:Room (r+1) A):Room r (A.over (G.loopC e x) (G.fs1 e p)):=by
 refine xAA hr λh1 h2 h3=>?_
 refine⟨h1,?_,?_⟩
 ·show A.depth+(1+0)+0+10*r<=700
  exact A36 h2
 ·show A.units+(3+0)+0+40*r<=8000
  exact A37 h3
theorem Fm.locals{ρ:List Lc}{s:Shared}{lo:Lo}(F:Fm C env ρ s lo):∃ o,s.heap.get? env.locals=some o/\¬aW o:=by
 refine xEA F.ns λm z95 _=>?_;obtain⟨o,es,ep,g,hd,_⟩:=z95
 exact⟨o,g,by unfold aW;rw[hd];exact id⟩
theorem aE4{G:GSh}{g:GFn}(V:GV C r G g env){A:Around}{s0 s:Shared}{ρ0 ρ:List Lc}{H:MH}{lo:Lo}{Q:mA->MH->Prop}(hr:Room (r+1) A)(N:Nx ρ0 (Wr env) s0 ρ s)(S:Sim C H ρ s)(F:Fm C env ρ s lo)
  (e:g.tail lo H Q):Sg C.M A (.func G.body env) ((execs [G.if2] env).wrap GSh.Kf (GSh.Hf env) id id) [] (GΦ C G env ρ0 s0 Q) s:=
 cV (sg_If (TV.run V.fc2 hr.overF S F e λ{b s1 _ _} S1 N1 e=>by
  cases b with
  |true=>
   rw [if_pos rfl]
   exact cV (jW rfl rfl (EV.run V.fy2 hr.overF S1 (F.nx N1) e λS2 N2 r2 q l k p hk=>.yr S2 ((N.trans N1.wr).trans N2.wr) hk r2 ((F.nx N1).nx N2) q) V.co V.ia)
  |false=>
   rw [if_neg (by decide)]
   exact aDd (.ok (.ret .none)) (.done S1 (N.trans N1.wr) (F.nx N1).locals e)))
theorem aDb{A:Around}{st:Stmt}{rest:List Stmt}{f:SF}{k:Lo->MH->Prop}{c:Code}{fs:List Frame}{Φ:End->Shared->Prop}{K:Flow->Sem PySem.Fin}{Hh:Value->Sem PySem.Fin}{s:Shared}{ρ:List Lc}{H:MH}{lo:Lo}(V:SV C r env st f)(hr:Room r (A.over c fs))(S:Sim C H ρ s)(F:Fm C env ρ s lo)(e:f lo H (GFn.nextK k))
  (h:∀ {s1 ρ1 H1 lo1},Sim C H1 ρ1 s1->Nx ρ (Wr env) s ρ1 s1->Fm C env ρ1 s1 lo1->k lo1 H1->Sg C.M A c ((execs rest env).wrap K Hh id id) fs Φ s1):Sg C.M A c ((execs (st :: rest) env).wrap K Hh id id) fs Φ s:=
 cV (iF (wmN (V hr S F e) λfw s1 p=>by
  obtain⟨S1,N1,F1,r1,q⟩:=p
  cases r1 with
  |next=>exact h S1 N1 F1 q
  |brk=>exact q.elim
  |cont=>exact q.elim
  |ret _=>exact q.elim))
theorem aDa{A:Around}{st:List Stmt}{f:SF}{k:Lo->MH->Prop}{c:Code}{fs:List Frame}{Φ:End->Shared->Prop}{K:Flow->Sem PySem.Fin}{Hh:Value->Sem PySem.Fin}{s:Shared}{ρ:List Lc}{H:MH}{lo:Lo}(V:SVs C r env st f)(hr:Room r (A.over c fs))(S:Sim C H ρ s)(F:Fm C env ρ s lo)(e:f lo H (GFn.nextK k))
  (h:∀ {s1 ρ1 H1 lo1},Sim C H1 ρ1 s1->Nx ρ (Wr env) s ρ1 s1->Fm C env ρ1 s1 lo1->k lo1 H1->Sg C.M A c (K .next) fs Φ s1):Sg C.M A c ((execs st env).wrap K Hh id id) fs Φ s:=
 iF (wmN (V hr S F e) λfw s1 p=>by
  obtain⟨S1,N1,F1,r1,q⟩:=p
  cases r1 with
  |next=>exact h S1 N1 F1 q
  |brk=>exact q.elim
  |cont=>exact q.elim
  |ret _=>exact q.elim)
theorem qB{G:GSh}{g:GFn}(V:GV C r G g env){it:Nat}{li:Lc}{p:Pos}:∀ (n:Nat){A:Around}{s0 s:Shared}{ρ0 ρ:List Lc}{H:MH}{lo:Lo}{Q:mA->MH->Prop},Room (r+1) A->Nx ρ0 (Wr env) s0 ρ s->Sim C H ρ s->Fm C env ρ s lo->ρ[it]? =some li->
  g.loopN n it lo H Q->Sg C.M A (G.loopC env (.ref li.a)) (C.M.den (G.loopC env (.ref li.a))) (G.fs1 env p) (GΦ C G env ρ0 s0 Q) s
 |0,_,_,_,_,_,_,_,_,_,_,_,_,_,e=>e.elim
 |n+1,A,s0,s,ρ0,ρ,H,lo,Q,hr,N,S,F,hli,e=>by
  show Sg C.M A _ ((forTurn G.target (.ref li.a) G.lb [] env).onRaise (λx=>do noteFrame x env;theTreesLotGoes x)) _ _ s
  rw [Sem.onRaise_eq_wrap]
  have eH:(λe=>(do noteFrame e env;theTreesLotGoes e:Sem Unit).bind λ_=>(.raise e:Sem PySem.Fin))=GSh.Ht env:=by
   funext e
   exact Sem.bind_eq_wrap _ _
  rw [eH]
  unfold forTurn
  refine dR (wpAny_standAt ?_)
  refine e.elim λck hH e=>e.elim λvs hv e=>?_
  have hH:=iv_mo hH
  refine dR (wpAny_onRaise (wmN (aEr (r:=r) (A:=A.over (G.loopC env (.ref li.a)) (G.fs1 env p)) hr.overL S hli hH hv) λo s1 m1=>?_))
  cases m1 with
  |item hvk S1 N1 ru=>
   rw [hvk]at e
   obtain⟨_,_,lc,_,oi,hoi,hci,_⟩:=S1.objs it _ li (by rw[List.getElem?_set_self (List.getElem?_eq_some_iff.mp hH).1]) hli
   show Sg C.M A _ ((letOwnedTupleGo G.target (.ref li.a) _ >>=λ_=>(assign G.target env _ >>=λ_=>(execs G.lb env >>=λf=>match f with
    | .next | .cont=>again (.forLoop G.target (.ref li.a) G.lb [] env)
    | .brk=>pure (.done .next)
    | .ret v=>pure (.done (.ret v))))).wrap .pure (GSh.Ht env) id id) _ _ s1
   refine dR (jU (T:="list_iterator") hoi hci (by decide) (dR (dX.run (α:=Unit) (V.tgt hr.overL S1 (F.nx (N1 _)) ru e) λ{_ s2 _ _ _} S2 N2 F2 e=>?_)))
   rw [Sem.bind_eq_wrap',Sem.wrap_wrap]
   refine(congrArg (λt=>Sg C.M A (G.loopC env (.ref li.a)) t (G.fs1 env p) (GΦ C G env ρ0 s0 Q) s2) (Sem.wrap_congr (K':=G.Kt env (.ref li.a)) (H':=GSh.Ht env) (execs G.lb env) _ _ (λf=>by cases f<;>rfl) (λ_=>rfl))).mpr ?_
   show Sg C.M A _ ((execs G.lb env).wrap (G.Kt env (.ref li.a)) (GSh.Ht env) id id) _ _ s2
   have N02:=(N.trans (N1 _)).trans N2
   have hli2:=aO N2.pre hli
   refine cV (sg_If (TV.run V.fc hr.overL S2 F2 e λ{b s3 _ _} S3 N3 e=>?_))
   cases b with
   |true=>
    rw [if_pos rfl]
    exact aDb V.f1 hr.overL S3 (F2.nx N3) e λS4 N4 F4 e=>cV (jW rfl rfl (EV.run V.fy hr.overL S4 F4 e λS5 N5 r5 q l k p' hk=>
     .yl S5 (((N02.trans N3.wr).trans N4).trans N5.wr) hk (aO N5.pre (aO N4.pre (aO N3.pre hli2))) r5 (F4.nx N5) q) V.co V.ia)
   |false=>
    rw [if_neg (by decide)]
    exact aDb V.f3 hr.overL S3 (F2.nx N3) e λS4 N4 F4 e=>o0 rfl (qB V n hr ((N02.trans N3.wr).trans N4) S4 F4 (aO N4.pre (aO N3.pre hli2)) e)
  |done hvk S1 N1=>
   rw [hvk]at e
   show Sg C.M A _ (.pure (.again (.block [] env))) _ _ s1
   refine o0 rfl ?_
   show Sg C.M A (.block [] env) (leafOf (.ok .next)) _ _ s1
   exact aG3 (.ok .next) (aE4 V hr (N.trans (N1 _)) S1 (F.nx (N1 _)) e)
theorem aE9{G:GSh}{g:GFn}(V:GV C r G g env){it:Nat}{li:Lc}{p:Pos}{A:Around}{s0 s:Shared}{ρ0 ρ:List Lc}{H:MH}{lo:Lo}{Q:mA->MH->Prop}(hr:Room (r+1) A)(N:Nx ρ0 (Wr env) s0 ρ s)(S:Sim C H ρ s)(F:Fm C env ρ s lo)(hli:ρ[it]? =some li)
  (e:g.more it lo H Q):Sg C.M A (G.loopC env (.ref li.a)) (G.T1 env (.ref li.a)) (G.fs1 env p) (GΦ C G env ρ0 s0 Q) s:=
 aDa V.f2 hr.overL S F e λS1 N1 F1 e=>aDb V.f3 hr.overL S1 F1 e λS2 N2 F2 e=>by
  refine xE e λn e=>?_
  exact o0 rfl (qB V n hr ((N.trans N1).trans N2) S2 F2 (aO N2.pre (aO N1.pre hli)) e)
theorem aBx{G:GSh}{g:GFn}(V:GV C r G g env){A:Around}{s0 s:Shared}{ρ0 ρ:List Lc}{H:MH}{lo:Lo}{Q:mA->MH->Prop}(hr:Room (r+1) A)(N:Nx ρ0 (Wr env) s0 ρ s)(S:Sim C H ρ s)(F:Fm C env ρ s lo)
  (e:g.start lo H Q):Sg C.M A (.func G.body env) (C.M.den (.func G.body env)) [] (GΦ C G env ρ0 s0 Q) s:=by
 show Sg C.M A _ (.point [] λ_=>((execs G.body env).onRaise (leaving env)) >>=_) [] _ s
 refine aDc ?_
 rw [Sem.onRaise_eq_wrap,Sem.bind_eq_wrap',Sem.wrap_wrap]
 rw [Sem.wrap_congr (execs G.body env) _ _ (K':=GSh.Kf) (H':=GSh.Hf env) (λf=>by cases f<;>rfl) (λe=>by rw[Sem.bind_eq_wrap,Sem.wrap_wrap];rfl)]
 show Sg C.M A _ ((execs (G.pre++G.tail) env).wrap GSh.Kf (GSh.Hf env) id id) [] _ s
 rw [fS]
 refine aDa V.pre hr.overF S F e λ{s1 _ _ _} S1 N1 F1 e=>?_
 unfold GSh.tail
 refine cV ?_
 rw [exec_For]
 refine dR (wpAny_standAt (dR (EV.run V.it hr.overF S1 F1 e λ{x s2 ρ2 v2 H2} S2 N2 r2 e=>e.elim λci hi e=>?_)))
 refine xAE e λz96 n e=>?_;obtain⟨vs,hv⟩:=z96
 refine dC (r2.toRef hi) λlc _ hx gl=>?_
 subst hx
 refine b8 (cZ S2 (.ref gl) hv) λad xs ha q2 q3=>?_
 cases ha
 refine dR (wpAny_of_eq (V.hs _) (dR (wpAny_standAt (dR (wpAny_holding (wpAny_pyIter_list q2 ?_))))))
 have S3:=S2.alloc {cls:=.type "list_iterator",data:=.fields #[.ref lc.a,.int 0 0]} (.itr (some (ci,0))) ⟨rfl,rfl,lc,aO (List.prefix_append _ _) gl,_,Heap.get?_push_size _ rfl,rfl,rfl⟩
 have N3:Nx ρ2 noW s2 _ _:=.alloc {cls:=.type "list_iterator",data:=.fields #[.ref lc.a,.int 0 0]}
 exact aG4 λp=>qB V n (li:=⟨s2.heap.objs.size,s2.heap.objs.size,none⟩) hr (((N.trans N1).trans N2.wr).trans N3.wr) S3 ((F1.nx N2).nx N3) S2.last e
theorem aFa{G:GSh}{A:Around}{s0 s:Shared}{ρ0 ρ:List Lc}{H:MH}{lo:Lo}{Q:mA->MH->Prop}(N:Nx ρ0 (Wr env) s0 ρ s)(S:Sim C H ρ s)(F:Fm C env ρ s lo)(q:Q .done H):
  Sg C.M A (.func G.body env) (GSh.Kf .next) [] (GΦ C G env ρ0 s0 Q) s:=aDd (.ok (.ret .none)) (.done S N F.locals q)
end
section
variable {C:Cx}{r:Nat}{env:Env}
noncomputable def fV(G:GSh)(ρ:List Lc)(s:Shared)(L:Addr)(lo:Lo):Prop:=∃ m,s.heap.Ns L m/\∀ x,(G.envL L).kindOf x=some .local->OV ρ s.heap (m x) (lo x)
noncomputable def eQ(G:GSh)(ρ:List Lc)(s:Shared)(l:Lc)(gn:Gn):Prop:=
 ∃ g nm qn,l.g=some g/\s.heap.get? l.a=some {cls:=.type "generator",data:=.fields #[.int (g:Nat) 0,nm,qn]}/\(match gn with
  | .fresh lo=>l.d≠l.a/\fV G ρ s l.d lo/\s.gens[g]? =some (.fresh (.func G.body (G.envL l.d)))
  | .loop it lo=>l.d≠l.a/\fV G ρ s l.d lo/\∃ li k l' p p',ρ[it]? =some li/\k (.send .none)=G.T1 (G.envL l.d) (.ref li.a)/\s.gens[g]? =some (.suspended k l' (G.loopC (G.envL l.d) (.ref li.a)) p (G.fs1 (G.envL l.d) p') false)
  | .last lo=>l.d≠l.a/\fV G ρ s l.d lo/\∃ k l' p,k (.send .none)=GSh.Kf .next/\s.gens[g]? =some (.suspended k l' (.func G.body (G.envL l.d)) p [] false)
  | .run=>l.d=l.a/\s.gens[g]? =some .running
  | .fin=>l.d≠l.a/\(∃ o,s.heap.get? l.d=some o/\¬aW o)/\s.gens[g]? =some .finished)
theorem fV.mono{G:GSh}{ρ ρ':List Lc}{s s':Shared}{L:Addr}{lo:Lo}(h:fV G ρ s L lo)(e:ρ<+:ρ')(i:Imm s.heap s'.heap)(h2:∀ o,s.heap.get? L=some o->s'.heap.get? L=some o):fV G ρ' s' L lo:=by
 refine xEA h λm z97 hm=>?_;obtain⟨o,es,ep,ho,q⟩:=z97
 exact⟨m,⟨o,es,ep,h2 _ ho,q⟩,λx hx=>(hm x hx).mono e i⟩
theorem eQ.mono{G:GSh}{ρ ρ':List Lc}{s s':Shared}{l:Lc}{gn:Gn}(e:ρ<+:ρ')(i:Imm s.heap s'.heap)(h1:∀ o,s.heap.get? l.a=some o->s'.heap.get? l.a=some o)
  (h2:∀ o,s.heap.get? l.d=some o->s'.heap.get? l.d=some o) (h3:∀ k x,l.g=some k->s.gens[k]? =some x->s'.gens[k]? =some x) (h:eQ G ρ s l gn):eQ G ρ' s' l gn:=by
 refine fX h λg nm qn hg ho hm=>?_
 refine⟨g,nm,qn,hg,h1 _ ho,?_⟩
 cases gn with
 |fresh lo=>exact⟨hm.1,hm.2.1.mono e i h2,h3 _ _ hg hm.2.2⟩
 |loop it lo=>refine iD hm λa b li k l' p p' x y z=>?_;exact⟨a,b.mono e i h2,li,k,l',p,p',aO e x,y,h3 _ _ hg z⟩
 |last lo=>refine sS hm λa b k l' p y z=>?_;exact⟨a,b.mono e i h2,k,l',p,y,h3 _ _ hg z⟩
 |run=>exact⟨hm.1,h3 _ _ hg hm.2⟩
 |fin=>refine xAA hm λa z98 z=>?_;obtain⟨o,x,y⟩:=z98;exact⟨a,⟨o,h2 _ x,y⟩,h3 _ _ hg z⟩
theorem eQ.here{G:GSh}{ρ:List Lc}{s:Shared}{l:Lc}{gn:Gn}(h:eQ G ρ s l gn):∃ o o',s.heap.get? l.a=some o/\s.heap.get? l.d=some o'/\¬aW o/\¬aW o':=by
 refine fX h λg nm qn hg ho hm=>?_
 have hi: ¬aW ({cls:=.type "generator",data:=.fields #[.int (g:Nat) 0,nm,qn]}:Obj):=by simp [aW]
 have fr:∀ lo,fV G ρ s l.d lo->∃ o o',s.heap.get? l.a=some o/\s.heap.get? l.d=some o'/\¬aW o/\¬aW o':=by
  rintro lo ⟨m,⟨o,es,ep,h2,hd,_⟩,_⟩
  exact⟨_,o,ho,h2,hi,by simp [aW,hd]⟩
 cases gn with
 |fresh lo=>exact fr lo hm.2.1
 |loop it lo=>exact fr lo hm.2.1
 |last lo=>exact fr lo hm.2.1
 |run=>rw [hm.1];exact⟨_,_,ho,ho,hi,hi⟩
 |fin=>refine xAA hm λ_ z99 _=>?_;obtain⟨o,x,y⟩:=z99;exact⟨_,o,ho,x,hi,y⟩
noncomputable def mkCx(prog:Program)(w:World)(base:Shared)(lim:base.heap.NoLimit)(G:GSh):Cx:=⟨prog,w,base,lim,eQ G,eQ.mono,eQ.here⟩
structure GCx(C:Cx)(G:GSh):Prop where
 gr:∀ ρ s l gn,C.GR ρ s l gn=eQ G ρ s l gn
 loc:∀ L x,(G.envL L).kindOf x≠some .cell/\(G.envL L).kindOf x≠some .free
 cells:∀ L,(G.envL L).cells= []
 kind:G.fd.scope.kind= .function
 gl:G.fd.globals=mainGlobals
 bi:G.fd.builtins=builtinsNs
noncomputable def jQ(ρ ρ':List Lc):Prop:=∀ (n:Nat) (l:Lc),ρ[n]? =some l->∃ l',ρ'[n]? =some l'/\l'.a=l.a
theorem VR.sameA{ρ ρ':List Lc}{h:Heap}(e:jQ ρ ρ'){u:Value}{v:V}(r:VR ρ h u v):VR ρ' h u v:=by
 refine VR.rec (motive_1:=λu v _=>VR ρ' h u v) (motive_2:=λus vs _=>VRs ρ' h us vs) .none .bool .int .str ?_ ?_ ?_ ?_ ?_ ?_ .raw .nil ?_ r
 ·intro a xs n vs g _ ih;exact .tup g ih
 ·intro a n x y z t u v dd g;exact .mat g
 ·intro n l g;refine xEA (e n l g) λl' h1 h2=>?_;rw[<-h2];exact .ref h1
 ·intro a n l g g';refine xEA (e n l g) λl' h1 h2=>?_;rw[<-h2]at g';exact .dget h1 g'
 ·intro a n l g g';refine xEA (e n l g) λl' h1 h2=>?_;rw[<-h2]at g';exact .scon h1 g'
 ·intro a x y z t u v g;exact .rng g
 ·intro u us v vs _ _ a b;exact .cons a b
theorem VRs.sameA{ρ ρ':List Lc}{h:Heap}(e:jQ ρ ρ'):∀ {us:List Value}{vs:List V},VRs ρ h us vs->VRs ρ' h us vs
 |_,_,.nil=>.nil
 |_,_,.cons a b=>.cons (a.sameA e) (b.sameA e)
theorem OV.sameA{ρ ρ':List Lc}{h:Heap}(e:jQ ρ ρ'):∀ {u:Option Value}{v:Option V},OV ρ h u v->OV ρ' h u v
 |none,none,_=>trivial
 |some _,some _,x=>VR.sameA e x
 |none,some _,x=>False.elim x
 |some _,none,x=>False.elim x
theorem OR.sameA{G:GSh}(hG:GCx C G){ρ ρ':List Lc}{s:Shared}{l:Lc}{m:MO}(e:jQ ρ ρ')(r:OR C ρ s l m):OR C ρ' s l m:=by
 cases m with
 |list vs=>refine kB r λa g xs n x y=>?_;exact⟨a,g,xs,n,x,y.sameA e⟩
 |ro vs=>refine r6 r λa g xs x y=>?_;exact⟨a,g,xs,x,y.sameA e⟩
 |dict n f=>refine w8 r λa g kvs q x y=>?_;exact⟨a,g,kvs,q,x,λk=>(y k).sameA e⟩
 |eset=>exact r
 |inst fs=>refine oM r λg ne o m a b c d=>?_;exact⟨g,ne,o,m,a,b,c,λk=>(d k).sameA e⟩
 |gen gn=>
  have r':C.GR ρ s l gn:=r
  rw [hG.gr]at r'
  show C.GR ρ' s l gn
  rw [hG.gr]
  refine fX r' λg nm qn hg ho hm=>?_
  refine⟨g,nm,qn,hg,ho,?_⟩
  have fr:∀ {lo},fV G ρ s l.d lo->fV G ρ' s l.d lo:=λ⟨m,hn,hm⟩=>⟨m,hn,λx hx=>(hm x hx).sameA e⟩
  cases gn with
  |fresh lo=>exact⟨hm.1,fr hm.2.1,hm.2.2⟩
  |loop it lo=>refine iD hm λa b li k l' p p' x y z=>?_;refine xEA (e _ _ x) λli' h1 h2=>?_;rw[<-h2]at y z;exact⟨a,fr b,li',k,l',p,p',h1,y,z⟩
  |last lo=>refine xAA hm λa b c=>?_;exact⟨a,fr b,c⟩
  |run=>exact hm
  |fin=>exact hm
 |itr p=>cases p with
  |none=>exact r
  |some p=>refine r6 r λa g li x y=>?_;refine xEA (e _ _ x) λli' h1 h2=>?_;rw[<-h2]at y;exact⟨a,g,li',h1,y⟩
theorem xI{s:Shared}{g k:Nat}{x y:GenState}(h:k≠g)(e:s.gens[k]? =some y):(s.setGen g x).gens[k]? =some y:=by
 show(s.gens.setIfInBounds g x)[k]? =some y
 rw [Array.getElem?_setIfInBounds_ne (Ne.symm h)];exact e
theorem fQ{s:Shared}{g:Nat}{x y:GenState}(e:s.gens[g]? =some y):(s.setGen g x).gens[g]? =some x:=by
 have:g<s.gens.size:=by
  refine Or.elim (Nat.lt_or_ge g s.gens.size) (λq=>?_) λq=>?_
  ·exact q
  ·rw[Array.getElem?_eq_none q]at e;cases e
 show(s.gens.setIfInBounds g x)[g]? =some x
 simp [Array.getElem?_setIfInBounds,this]
theorem vD{s:Shared}{g:Nat}{x:GenState}(h:AllBare s.gens)(hx:x.bare=true):AllBare (s.setGen g x).gens:=by
 intro y hy
 have hy':y∈s.gens.setIfInBounds g x:=hy
 obtain⟨i,hi,rfl⟩:=Array.mem_iff_getElem.mp hy'
 rw [Array.getElem_setIfInBounds (by simpa using hi)]
 split
 ·exact hx
 ·exact h _ (Array.getElem_mem _)
theorem mM{ρ:List Lc}{gi:Nat}{l l':Lc}(hl:ρ[gi]? =some l)(ha:l'.a=l.a):jQ ρ (ρ.set gi l'):=by
 intro n x hx
 have hlt:gi<ρ.length:=(List.getElem?_eq_some_iff.mp hl).1
 by_cases q:n=gi
 ·subst q
  rw [hl]at hx;cases hx
  exact⟨l',by rw[List.getElem?_set_self hlt],ha⟩
 ·exact⟨x,by rw[List.getElem?_set_ne (Ne.symm q)];exact hx,rfl⟩
theorem Sim.swapG{G:GSh}(hG:GCx C G){H:MH}{ρ:List Lc}{s:Shared}{gi g:Nat}{l l':Lc}{gn gn':Gn}{gs:GenState}(S:Sim C H ρ s)(hl:ρ[gi]? =some l)(hH:H[gi]? =some (.gen gn))(ha:l'.a=l.a)(hg:l'.g=l.g)(hg':l.g=some g)(hb:gs.bare=true)
  (hd:l'.d=l.a∨l'.d=l.d∨(¬Own ρ l'.d/\C.base.heap.get? l'.d=none)) (hnew:eQ G (ρ.set gi l') (s.setGen g gs) l' gn'):Sim C (H.set gi (.gen gn')) (ρ.set gi l') (s.setGen g gs):=by
 have hlt:gi<ρ.length:=(List.getElem?_eq_some_iff.mp hl).1
 have hltH:gi<H.length:=by rw[<-S.len];exact hlt
 have sa:=mM hl ha
 have other:∀ {i:Nat}{x:Lc},(ρ.set gi l')[i]? =some x->(i=gi/\x=l')∨(i≠gi/\ρ[i]? =some x):=by
  intro i x h
  by_cases q:i=gi
  ·subst q;rw[List.getElem?_set_self hlt]at h;cases h;exact .inl ⟨rfl,rfl⟩
  ·rw[List.getElem?_set_ne (Ne.symm q)]at h;exact .inr ⟨q,h⟩
 have hbase:C.base.heap.get? l.a=none/\C.base.heap.get? l.d=none:=by
  rcases S.ro gi l hl with ⟨vs,e⟩ |e
  ·rw[hH]at e;cases e
  ·exact e
 have hdis:∀ {i:Nat}{x:Lc},i≠gi->ρ[i]? =some x->∀ b,l'.has b->¬x.has b:=by
  intro i x q hx b hb hxb
  have old:=S.disj gi i l x hl hx (Ne.symm q)
  rcases hb with rfl |rfl
  ·rw[ha]at hxb;exact old _ (.inl rfl) hxb
  ·rcases hd with e |e |⟨e,_⟩
   ·rw[e]at hxb;exact old _ (.inl rfl) hxb
   ·rw[e]at hxb;exact old _ (.inr rfl) hxb
   ·exact e ⟨x,List.mem_of_getElem? hx,hxb⟩
 refine⟨by simp [S.len],S.keep,λi m x hm hx=>?_,λi x hx=>?_,λi j li lj hi hj hne b h1 h2=>?_,λi j li lj k hi hj hne h1 h2=>?_,S.os,vD S.bare hb⟩
 ·rcases other hx with ⟨rfl,rfl⟩ |⟨q,hx'⟩
  ·rw[List.getElem?_set_self hltH]at hm;cases hm
   show C.GR _ _ _ _
   rw [hG.gr];exact hnew
  ·rw[List.getElem?_set_ne (Ne.symm q)]at hm
   have o:=S.objs i m x hm hx'
   have o2:OR C ρ (s.setGen g gs) x m:=o.mono (s:=s) (s':=s.setGen g gs) (List.prefix_refl _) (.refl _) (λ_ e=>e) (λ_ e=>e) (λk y hk e=>xI (λz=>S.disjG i gi x l k hx' hl q hk (by rw[hg',z])) e)
   exact OR.sameA hG sa o2
 ·rcases other hx with ⟨rfl,rfl⟩ |⟨q,hx'⟩
  ·right
   refine⟨by rw[ha];exact hbase.1,?_⟩
   rcases hd with e |e |⟨_,e⟩
   ·rw[e];exact hbase.1
   ·rw[e];exact hbase.2
   ·exact e
  ·rw[List.getElem?_set_ne (Ne.symm q)];exact S.ro i x hx'
 ·rcases other hi with ⟨rfl,rfl⟩ |⟨q,hi'⟩<;>rcases other hj with ⟨rfl,rfl⟩ |⟨q',hj'⟩
  ·exact hne rfl
  ·exact hdis q' hj' b h1 h2
  ·exact hdis q hi' b h2 h1
  ·exact S.disj i j li lj hi' hj' hne b h1 h2
 ·rcases other hi with ⟨rfl,rfl⟩ |⟨q,hi'⟩<;>rcases other hj with ⟨rfl,rfl⟩ |⟨q',hj'⟩
  ·exact hne rfl
  ·exact S.disjG i j l lj k hl hj' hne (hg▸h1) h2
  ·exact S.disjG i j li l k hi' hl hne h1 (hg▸h2)
  ·exact S.disjG i j li lj k hi' hj' hne h1 h2
noncomputable def MO.gn:MO->Option Gn | .gen g=>some g |_=>none
theorem gn_mo{m:Option MO}{g:Gn}(e:m.bind MO.gn=some g):m=some (.gen g):=by
 refine xEA (Option.bind_eq_some_iff.mp e) λm z101 h2=>?_;subst z101
 cases m with
 |gen g=>cases h2;rfl
 |_=>cases h2
noncomputable def GFn.finK(gi:Nat)(Q:Option V->MH->Prop):mA->MH->Prop:=λo H1=>H1[gi]? =some (.gen .run)/\match o with
 | .yl it lo v=>Q (some v) (H1.set gi (.gen (.loop it lo)))
 | .yr lo v=>Q (some v) (H1.set gi (.gen (.last lo)))
 | .done=>Q none (H1.set gi (.gen .fin))
noncomputable def GFn.nxG(g:GFn)(gi:Nat)(H:MH)(Q:Option V->MH->Prop):Gn->Prop
 | .fresh lo=>g.start lo (H.set gi (.gen .run)) (GFn.finK gi Q)
 | .loop it lo=>g.more it lo (H.set gi (.gen .run)) (GFn.finK gi Q)
 | .last lo=>Q none (H.set gi (.gen .fin))
 | .fin=>Q none H
 | .run=>False
noncomputable def GFn.nx(g:GFn)(gi:Nat)(H:MH)(Q:Option V->MH->Prop):Prop:=Lf (H[gi]?.bind MO.gn) λgn=>g.nxG gi H Q gn
theorem Fm.ofFrm{G:GSh}(hG:GCx C G){ρ:List Lc}{s:Shared}{L:Addr}{lo:Lo}(h:fV G ρ s L lo)(ho: ¬Own ρ L)(hb:C.base.heap.get? L=none):Fm C (G.envL L) ρ s lo:=by
 refine xEA h λm hn hm=>?_
 have hc:∀ x c,(G.envL L).cells.lookup x=some c->False:=λx c e=>by rw[hG.cells]at e;cases e
 refine⟨hG.kind,hG.gl,hG.bi,⟨m,hn,hm⟩,λx hx=>?_,λb hb'=>?_,λx c e=>(hc x c e).elim,λx y c e=>(hc x c e).elim,λb hb'=>?_⟩
 ·refine Or.elim hx (λhx=>?_) λhx=>?_
  ·exact absurd hx (hG.loc L x).1
  ·exact absurd hx (hG.loc L x).2
 ·rcases hb' with rfl |⟨x,e⟩
  ·exact⟨ho,hb⟩
  ·exact(hc x b e).elim
 ·rcases hb' with rfl |⟨x,e⟩
  ·refine iS hn λo _ _ g _=>?_;exact⟨o,g⟩
  ·exact(hc x b e).elim
theorem Fm.frm{G:GSh}{ρ:List Lc}{s:Shared}{L:Addr}{lo:Lo}(F:Fm C (G.envL L) ρ s lo):fV G ρ s L lo:=F.ns
theorem zC{prog:Program}{w:World}{A:Around}{E:Value->Shared->Prop}{s:Shared}{α β:Type}{k':β->Sem α}{R:α->Shared->Prop}(hh:A.handled=none)
  (hE:∀ x h',(∃ o,h'.get? x=some o/\o.cls= .type "StopIteration")->(∀ b o,s.heap.get? b=some o->h'.get? b=some o)->E (.ref x) {s with heap:=h'}):
  wpAny (model prog w) A (newExc (.type "StopIteration") [] >>=λx=>(raiseNew x:Sem β) >>=k') R E s:=by
 refine wpAny_bind ?_
 simp only[newExc,newTuple]
 refine wpAny_bind (wpAny_newObj_type ?_ (by size_fits))
 refine wpAny_bind (m:=firstArgMember _ _) (wpAny_of_eq (a:=Value.none) (by first |rfl | (simp only[firstArgMember];rfl)) ?_)
 refine wpAny_newObj_type ?_ (by size_fits)
 refine wpAny_bind ?_
 simp only[raiseNew]
 refine wpAny_bind (wpAny_handled ?_)
 rw [hh]
 refine wpAny_bind (wpAny_pure (wpAny_throw ?_))
 exact hE _ _ ⟨_,Heap.get?_push_size _ rfl,rfl⟩ (λb o hb=>Heap.get?_push_of_some _ (Heap.get?_push_of_some _ hb))
theorem Sim.extS{H:MH}{ρ:List Lc}{s:Shared}{h':Heap}(S:Sim C H ρ s)(hk:∀ b o,s.heap.get? b=some o->h'.get? b=some o):Sim C H ρ {s with heap:=h'}:=S.ext (k:=s.toks) hk
structure GAt(C:Cx)(G:GSh)(H:MH)(ρ:List Lc)(s:Shared)(gi gk:Nat)(l:Lc):Prop where
 S:Sim C H ρ s
 hl:ρ[gi]? =some l
 hH:∃ gn,H[gi]? =some (.gen gn)
 hg:l.g=some gk
 ho:∃ nm qn,s.heap.get? l.a=some {cls:=.type "generator",data:=.fields #[.int (gk:Nat) 0,nm,qn]}
 base:C.base.heap.get? l.a=none/\C.base.heap.get? l.d=none
 ne:l.d≠l.a
 hL:∃ oL,s.heap.get? l.d=some oL
noncomputable abbrev lrun(l:Lc):Lc:= {l with d:=l.a}
theorem GAt.run{G:GSh}(hG:GCx C G){s:Shared}{ρ:List Lc}{H:MH}{gi gk:Nat}{l:Lc}{gs:GenState}(a:GAt C G H ρ s gi gk l)(hgs:s.gens[gk]? =some gs):
  Sim C (H.set gi (.gen .run)) (ρ.set gi (lrun l)) (s.setGen gk .running)/\¬Own (ρ.set gi (lrun l)) l.d/\jQ ρ (ρ.set gi (lrun l)):=by
 refine xEE a.ho λnm qn ho=>?_
 refine xE a.hH λgn hH=>?_
 have hlt:gi<ρ.length:=(List.getElem?_eq_some_iff.mp a.hl).1
 refine⟨a.S.swapG hG (l':=lrun l) a.hl hH rfl rfl a.hg rfl (.inl rfl) ⟨gk,nm,qn,a.hg,ho,rfl,fQ hgs⟩,?_,mM a.hl rfl⟩
 rintro ⟨x,hx,hb⟩
 refine xE (List.getElem?_of_mem hx) λi hi=>?_
 by_cases q:i=gi
 ·subst q
  rw [List.getElem?_set_self hlt]at hi;cases hi
  refine Or.elim hb (λz=>?_) λz=>?_<;>exact a.ne z
 ·rw[List.getElem?_set_ne (Ne.symm q)]at hi
  exact a.S.disj gi i l x a.hl hi (Ne.symm q) _ (.inr rfl) hb
theorem GAt.back{G:GSh}(hG:GCx C G){s:Shared}{ρ:List Lc}{H:MH}{gi gk:Nat}{l:Lc}(a:GAt C G H ρ s gi gk l)(hown: ¬Own (ρ.set gi (lrun l)) l.d)
  {ρ1:List Lc}{s1:Shared}{H1:MH}{gs:GenState}{gn':Gn} (N:Nx (ρ.set gi (lrun l)) (Wr (G.envL l.d)) (s.setGen gk .running) ρ1 s1) (S1:Sim C H1 ρ1 s1) (hH1:H1[gi]? =some (.gen .run)) (hbare:gs.bare=true)
  (hnew:∀ nm qn,s1.heap.get? l.a=some {cls:=.type "generator",data:=.fields #[.int (gk:Nat) 0,nm,qn]}->jQ ρ1 (ρ1.set gi l)->(∃ y,s1.gens[gk]? =some y)->eQ G (ρ1.set gi l) (s1.setGen gk gs) l gn'):
  Sim C (H1.set gi (.gen gn')) (ρ1.set gi l) (s1.setGen gk gs)/\Nx ρ noW s (ρ1.set gi l) (s1.setGen gk gs)/\jQ ρ1 (ρ1.set gi l):=by
 have hlt:gi<ρ.length:=(List.getElem?_eq_some_iff.mp a.hl).1
 have hl1:ρ1[gi]? =some (lrun l):=aO N.pre (by rw[List.getElem?_set_self hlt])
 have sa:jQ ρ1 (ρ1.set gi l):=mM hl1 rfl
 have o1:eQ G ρ1 s1 (lrun l) .run:=by have:=S1.objs gi _ _ hH1 hl1;rw[<-hG.gr];exact this
 refine cH o1 λgk' nm' qn' hg' ho' _ hrun=>?_
 obtain rfl:gk'=gk:=Option.some.inj (hg'.symm.trans a.hg)
 refine xE a.hL λoL hoL=>?_
 refine⟨S1.swapG hG hl1 hH1 rfl rfl a.hg hbare (.inr (.inr ⟨N.own hoL hown,a.base.2⟩)) (hnew nm' qn' ho' sa ⟨_,hrun⟩),?_,sa⟩
 refine xE N.pre λt ht=>?_
 have hpre:ρ1.set gi l=ρ++t:=by
  rw [<-ht,List.set_append_left _ _ (by simpa using hlt),List.set_set]
  refine xE (List.getElem?_eq_some_iff.mp a.hl) λhh e=>?_
  rw [<-e,List.set_getElem_self]
 refine⟨⟨t,hpre.symm⟩,λx hx=>?_,λb o e ho' _=>?_,N.imm,λb o e=>N.al b o e⟩
 ·rw[hpre,List.drop_left]at hx
  refine N.new x ?_
  rw [<-ht,List.drop_left];exact hx
 ·refine N.kp b o e ?_ ?_
  ·rintro ⟨x,hx,hb⟩
   refine xE (List.getElem?_of_mem hx) λi hi=>?_
   by_cases q:i=gi
   ·subst q
    rw [List.getElem?_set_self hlt]at hi;cases hi
    exact ho' ⟨l,List.mem_of_getElem? a.hl,hb.elim .inl .inl⟩
   ·rw[List.getElem?_set_ne (Ne.symm q)]at hi
    exact ho' ⟨x,List.mem_of_getElem? hi,hb⟩
  ·rintro (rfl |⟨x,hx⟩)
   ·exact ho' ⟨l,List.mem_of_getElem? a.hl,.inr rfl⟩
   ·rw[hG.cells]at hx;cases hx
inductive nQ(C:Cx)(gi:Nat)(ρ:List Lc)(s:Shared)(Q:Option V->MH->Prop):Option Value->Shared->Prop
 |item {u v ρ' s' H'} (S:Sim C H' ρ' s') (N:Nx ρ noW s ρ' s') (r:VR ρ' s'.heap u v) (hg:∃ gn,H'[gi]? =some (.gen gn)) (q:Q (some v) H'):nQ C gi ρ s Q (some u) s'
 |done {ρ' s' H'} (S:Sim C H' ρ' s') (N:Nx ρ noW s ρ' s') (q:Q none H'):nQ C gi ρ s Q none s'
theorem nQ.ext{gi:Nat}{ρ:List Lc}{s s1:Shared}{Q:Option V->MH->Prop}{h':Heap}(h:nQ C gi ρ s Q none s1)(hk:∀ b o,s1.heap.get? b=some o->h'.get? b=some o):nQ C gi ρ s Q none {s1 with heap:=h'}:=by
 cases h with
 |done S N q=>exact .done (S.extS hk) (N.trans (.ext (k:=s1.toks) hk)) q
structure Wk(C:Cx)(A:Around)(P:Option Value->Shared->Prop)(Q:PySem.Fin->Shared->Prop)(E:Value->Shared->Prop)(kk:GenResult->Sem PySem.Fin):Prop where
 y:∀ v,kk (.yielded v)=ret v
 r:∃ k':PUnit->Sem PySem.Fin,kk (.returned .none)=(newExc (.type "StopIteration") [] >>=λx=>(raiseNew x:Sem PUnit) >>=k')
 h1:∀ u s',P (some u) s'->Q (.done (.ret u)) s'
 h2:∀ x h' s1,P none s1->(∃ o,h'.get? x=some o/\o.cls= .type "StopIteration")->(∀ b o,s1.heap.get? b=some o->h'.get? b=some o)->E (.ref x) {s1 with heap:=h'}
theorem GAt.main{G:GSh}(hG:GCx C G){A:Around}{s:Shared}{ρ:List Lc}{H:MH}{gi gk:Nat}{l:Lc}{gs:GenState}{Q0:Option V->MH->Prop}(hr:A.handled=none)(a:GAt C G H ρ s gi gk l)(hown: ¬Own (ρ.set gi (lrun l)) l.d)(hgs:s.gens[gk]? =some gs)
  (hgo:aGi C.M A (GΦ C G (G.envL l.d) (ρ.set gi (lrun l)) (s.setGen gk .running) (GFn.finK gi Q0)) (.send .none) (s.setGen gk .running) gs)
  {Q:PySem.Fin->Shared->Prop}{E:Value->Shared->Prop}{kk:GenResult->Sem PySem.Fin} (W:Wk C A (nQ C gi ρ s Q0) Q E kk):wpAny C.M A (.resume gk (.send .none) [] kk) Q E s:=by
 have frs:∀ {ρ1:List Lc}{s1:Shared}{lo:Lo}{gs':GenState},jQ ρ1 (ρ1.set gi l)->Fm C (G.envL l.d) ρ1 s1 lo->fV G (ρ1.set gi l) (s1.setGen gk gs') l.d lo:=λsa F=>
  let ⟨m,hn,hm⟩:=F.frm;⟨m,hn,λx hx=>(hm x hx).sameA sa⟩
 refine w9 hgs hgo λe s1 hΦ=>?_
 cases hΦ with
 |yl S1 N1 hk hli ru Fu q=>
  refine⟨rfl,?_⟩
  rename_i li u l' k p p'
  have B:=a.back hG hown (gs:=.suspended k l' (G.loopC (G.envL l.d) (.ref li.a)) p (G.fs1 (G.envL l.d) p') false) (gn':=.loop _ _) N1 S1 q.1 rfl (λnm qn ho' sa ⟨y,hy⟩=>by
   refine xEA (sa _ li hli) λli' e1 e2=>?_
   exact⟨gk,nm,qn,a.hg,ho',a.ne,frs sa Fu,li',k,l',p,p',e1,by rw[e2];exact hk,by rw[e2];exact fQ hy⟩)
  show wpAny C.M A (kk (.yielded u)) Q E _
  rw [W.y]
  exact wpAny_pure (W.h1 u _ (.item B.1 B.2.1 (ru.sameA B.2.2) ⟨_,List.getElem?_set_self (List.getElem?_eq_some_iff.mp q.1).1⟩ q.2))
 |yr S1 N1 hk ru Fu q=>
  refine⟨rfl,?_⟩
  rename_i u l' k p
  have B:=a.back hG hown (gs:=.suspended k l' (.func G.body (G.envL l.d)) p [] false) (gn':=.last _) N1 S1 q.1 rfl (λnm qn ho' sa ⟨y,hy⟩=>⟨gk,nm,qn,a.hg,ho',a.ne,frs sa Fu,k,l',p,hk,fQ hy⟩)
  show wpAny C.M A (kk (.yielded u)) Q E _
  rw [W.y]
  exact wpAny_pure (W.h1 u _ (.item B.1 B.2.1 (ru.sameA B.2.2) ⟨_,List.getElem?_set_self (List.getElem?_eq_some_iff.mp q.1).1⟩ q.2))
 |done S1 N1 hD q=>
  refine⟨rfl,?_⟩
  have B:=a.back hG hown (gs:=.finished) (gn':=.fin) N1 S1 q.1 rfl (λnm qn ho' sa ⟨y,hy⟩=>⟨gk,nm,qn,a.hg,ho',a.ne,hD,fQ hy⟩)
  show wpAny C.M A (kk (.returned .none)) Q E (s1.setGen gk .finished)
  refine xE W.r λk' hk2=>?_
  rw [hk2]
  exact zC hr λx h' hx hk=>W.h2 x h' _ (.done B.1 B.2.1 q.2) hx hk
theorem wC{A:Around}{s:Shared}{a:Addr}{gk:Nat}{gs:GenState}{Q:Option Value->Shared->Prop}(hIs:s.heap.IsGen a gk)(hgs:s.gens[gk]? =some gs)
  (h:wpAny C.M A.in1 (Builtin.Generator.genWake (.ref a) (.send .none)) (λfin s'=>∃ u,fin= .done (.ret u)/\Q (some u) s') (λe s'=>∃ x,e= .ref x/\(∃ o,s'.heap.get? x=some o/\o.cls= .type "StopIteration")/\Q none s') s):wpAny C.M A (pyNext (.ref a)) Q NoE s:=by
 unfold pyNext
 refine wpAny_bind (wpAny_attempt (wpAny_callSpecial?_slot (name:=Str.ofString "__next__") hIs.typeIs slot_gen_next
  (wpAny_call_entry slot_gen_next hIs.typeIs entry_gen_next (wpAny_mono h (λfin s' h=>?_) λe s' h=>?_) (args_gen_next _))))
 ·obtain⟨u,rfl,h⟩:=h
  exact⟨u,rfl,wpAny_pure h⟩
 ·obtain⟨x,rfl,⟨o,ho2,hc2⟩,h⟩:=h
  exact wpAny_bind (wpAny_isInstance (T:="StopIteration") (b:=true) ⟨o,ho2,hc2⟩ isSubtype_stop (wpAny_pure h))
theorem GAt.wake{G:GSh}(hG:GCx C G){A:Around}{s:Shared}{ρ:List Lc}{H:MH}{gi gk:Nat}{l:Lc}{gs:GenState}{Q0:Option V->MH->Prop}(hr:Room (r+2) A)(a:GAt C G H ρ s gi gk l)(hown: ¬Own (ρ.set gi (lrun l)) l.d)(hgs:s.gens[gk]? =some gs)
  (hgo:aGi C.M A.in1 (GΦ C G (G.envL l.d) (ρ.set gi (lrun l)) (s.setGen gk .running) (GFn.finK gi Q0)) (.send .none) (s.setGen gk .running) gs):wpAny C.M A (pyNext (.ref l.a)) (nQ C gi ρ s Q0) NoE s:=by
 refine xEE a.ho λnm qn ho=>?_
 have hIs:s.heap.IsGen l.a gk:=⟨_,nm,qn,ho,rfl,rfl,rfl⟩
 refine wC hIs hgs ?_
 unfold Builtin.Generator.genWake
 refine wpAny_bind (wpAny_holding (wpAny_genNumber hIs (wpAny_bind (wpAny_genState hgs ?_))))
 cases gs with
 |running=>exact hgo.elim
 |finished=>exact hgo.elim
 |_=>
  refine wpAny_bind (wpAny_roomToWake (C.lim.keeps a.S.keep) hr.lt ?_)
  show wpAny _ A.in1 (.resume gk (.send .none) [] _) _ _ s
  exact GAt.main (A:=A.in1) hG (show A.in1.handled=none from hr.1) a hown hgs hgo ⟨λ_=>rfl,⟨_,rfl⟩,λu s' hp=>⟨u,rfl,hp⟩,λx h' s1 hp hx hk=>⟨x,rfl,hx,hp.ext hk⟩⟩
theorem Room.in1{A:Around}(hr:Room (r+2) A):Room (r+1) A.in1:=⟨hr.1,by have:=hr.2.1;show A.depth+10*(r+1)<=700;exact A38 this,by have:=hr.2.2;show A.units+1+40*(r+1)<=8000;exact A39 this⟩
theorem aFb{G:GSh}{g:GFn}(hG:GCx C G)(VV:∀ L,GV C r G g (G.envL L)){A:Around}{s:Shared}{ρ:List Lc}{H:MH}{gi:Nat}{l:Lc}{Q:Option V->MH->Prop}(hr:Room (r+2) A)(S:Sim C H ρ s)(hl:ρ[gi]? =some l)
  (e:g.nx gi H Q):wpAny C.M A (pyNext (.ref l.a)) (nQ C gi ρ s Q) NoE s:=by
 refine e.elim λgn hH e=>?_
 have hH:=gn_mo hH
 have o:eQ G ρ s l gn:=by have:=S.objs gi _ l hH hl;rw[<-hG.gr];exact this
 refine fX o λgk nm qn hg ho hm=>?_
 have hbase:C.base.heap.get? l.a=none/\C.base.heap.get? l.d=none:=by
  rcases S.ro gi l hl with ⟨vs,e⟩ |e
  ·rw[hH]at e;cases e
  ·exact e
 have mk:∀ {lo},l.d≠l.a->fV G ρ s l.d lo->GAt C G H ρ s gi gk l:=λhne hfr=>⟨S,hl,⟨_,hH⟩,hg,⟨nm,qn,ho⟩,hbase,hne,let ⟨m,⟨o,_,_,g,_⟩,_⟩:=hfr;⟨o,g⟩⟩
 have fm:∀ {lo},jQ ρ (ρ.set gi (lrun l))->fV G ρ s l.d lo->¬Own (ρ.set gi (lrun l)) l.d->Fm C (G.envL l.d) (ρ.set gi (lrun l)) (s.setGen gk .running) lo:=λsa hfr hown=>
  Fm.ofFrm hG (let ⟨m,hn,hm⟩:=hfr;⟨m,hn,λx hx=>(hm x hx).sameA sa⟩) hown hbase.2
 cases gn with
 |fresh lo=>
  refine xAA hm λhne hfr hgs=>?_
  refine xAA ((mk hne hfr).run hG hgs) λS1 hown sa=>?_
  exact(mk hne hfr).wake hG hr hown hgs ⟨rfl,aBx (VV l.d) hr.in1 .refl S1 (fm sa hfr hown) e⟩
 |loop it lo=>
  refine iD hm λhne hfr li k l' p p' hli hk hgs=>?_
  refine xAA ((mk hne hfr).run hG hgs) λS1 hown sa=>?_
  refine xEA (sa it li hli) λli' e1 e2=>?_
  refine(mk hne hfr).wake hG hr hown hgs ?_
  show Sg C.M A.in1 _ (k (.send .none)) _ _ _
  rw [hk,<-e2]
  exact aE9 (VV l.d) hr.in1 .refl S1 (fm sa hfr hown) e1 e
 |last lo=>
  refine sS hm λhne hfr k l' p hk hgs=>?_
  refine xAA ((mk hne hfr).run hG hgs) λS1 hown sa=>?_
  refine(mk hne hfr).wake hG hr hown hgs ?_
  show Sg C.M A.in1 _ (k (.send .none)) _ _ _
  rw [hk]
  exact aFa .refl S1 (fm sa hfr hown) ⟨List.getElem?_set_self (List.getElem?_eq_some_iff.mp hH).1,by rw[List.set_set];exact e⟩
 |run=>exact e.elim
 |fin=>
  refine xAA hm λhne _ hgs=>?_
  have hIs:s.heap.IsGen l.a gk:=⟨_,nm,qn,ho,rfl,rfl,rfl⟩
  refine wC hIs hgs ?_
  unfold Builtin.Generator.genWake
  refine wpAny_bind (wpAny_holding (wpAny_genNumber hIs (wpAny_bind (wpAny_genState hgs ?_))))
  have W:∀ {kk:GenResult->Sem PySem.Fin}{Q:PySem.Fin->Shared->Prop}{E:Value->Shared->Prop},wpAny C.M A.in1 (kk .finished) Q E s->wpAny C.M A.in1 (.resume gk (.send .none) [] kk) Q E s:=by
   intro kk Q E h Γ p hΓ
   rw [Sem.wp_resume]
   exact⟨.finished,s,by unfold Wakes;rw[hgs];exact⟨rfl,rfl⟩,h Γ p hΓ⟩
  show wpAny _ A.in1 (.resume gk (.send .none) [] _) _ _ s
  refine W ?_
  have e2:(newExc (.type "StopIteration") [] >>=λx=>(raiseNew x:Sem PySem.Fin))=(newExc (.type "StopIteration") [] >>=λx=>(raiseNew x:Sem PySem.Fin) >>=λy=>(pure y:Sem PySem.Fin)):=by simp
  show wpAny C.M A.in1 (newExc (.type "StopIteration") [] >>=λx=>(raiseNew x:Sem PySem.Fin)) _ _ s
  rw [e2]
  exact zC hr.1 λx h' hx hk=>⟨x,rfl,hx,.done (S.extS hk) (.ext (k:=s.toks) hk) e⟩
end
section
variable {C:Cx}{r:Nat}{env:Env}
theorem g_lt{G:GSh}(hG:GCx C G){H:MH}{ρ:List Lc}{s:Shared}{i k:Nat}{l:Lc}(S:Sim C H ρ s)(hl:ρ[i]? =some l)(hk:l.g=some k):k<s.gens.size:=by
 have hlt:i<H.length:=by rw[<-S.len];exact(List.getElem?_eq_some_iff.mp hl).1
 have o:=S.objs i H[i] l (List.getElem?_eq_getElem hlt) hl
 revert o
 cases H[i] with
 |list vs=>rintro ⟨_,g,_⟩;rw[g]at hk;cases hk
 |ro vs=>rintro ⟨_,g,_⟩;rw[g]at hk;cases hk
 |dict n f=>rintro ⟨_,g,_⟩;rw[g]at hk;cases hk
 |eset=>rintro ⟨_,g,_⟩;rw[g]at hk;cases hk
 |inst fs=>rintro ⟨g,_⟩;rw[g]at hk;cases hk
 |itr p=>
  cases p with
  |none=>rintro ⟨_,g,_⟩;rw[g]at hk;cases hk
  |some p=>rintro ⟨_,g,_⟩;rw[g]at hk;cases hk
 |gen gn=>
  intro o
  have o':eQ G ρ s l gn:=by rw[<-hG.gr];exact o
  refine fX o' λg nm qn hg ho hm=>?_
  obtain rfl:g=k:=by rw[hg]at hk;exact Option.some.inj hk
  have sz:∀ {x},s.gens[g]? =some x->g<s.gens.size:=λ{x} e=>by
   refine Or.elim (Nat.lt_or_ge g s.gens.size) (λq=>?_) λq=>?_
   ·exact q
   ·rw[Array.getElem?_eq_none q]at e;cases e
  cases gn with
  |fresh lo=>exact sz hm.2.2
  |loop it lo=>refine iD hm λ_ _ _ _ _ _ _ _ _ z=>?_;exact sz z
  |last lo=>refine sS hm λ_ _ _ _ _ _ z=>?_;exact sz z
  |run=>exact sz hm.2
  |fin=>exact sz hm.2.2
noncomputable def cGen(names:List Str)(more:List V):CF:=λvs H Q=>(vs++more).length=names.length/\Q (.ref H.length) (H++[.gen (.fresh (loB names (vs++more) lo0))])
theorem CV.gen{G:GSh}(hG:GCx C G)(D:Def C G.fa G.fd G.body){names:List Str}{dflt:List Value}{more:List V}(hgen:G.fd.scope.isGenerator=true)(hb:Binds C G.fd names dflt)(hd:∀ ρ h,VRs ρ h dflt more)
  (hn:∀ x∈names,G.fd.scope.names.lookup x=some .local):CV C (r+1) (.ref G.fa) (cGen names more):=by
 refine xEA D.obj λo ho hdata=>?_
 refine CC.cv ho hdata ?_
 intro A s ρ H us vs Q hr S hu e
 refine xA e λhlen q=>?_
 have hu':VRs ρ s.heap (us++dflt) (vs++more):=hu.append (hd _ _)
 have hlen':(us++dflt).length=names.length:=hu'.length.trans hlen
 refine codeAny_call_generator hr.lt (S.keep _ _ ho) hdata D.co hgen D.body (D.code.keeps S.keep) (hb s us S.keep hlen' _ _ _ _ ?_)
 rw [D.clo]
 refine wpAny_newFunctionEnv_cells D.kind (λx hx=>.inl (hn x.1 (List.of_mem_zip hx).1)) λenv he s1 I=>?_
 subst he
 refine xAAA (Fm.call D S hu' hlen' (λx hx=>.inl (hn x hx)) I) λS1 N1 F1 hfr=>?_
 refine⟨(C.lim.keeps S.keep).keeps I.toInCall.keep,?_⟩
 refine xEE I.toInCall.same λh1 tk1 e1=>?_
 refine xEA F1.ns λm hns hm=>?_
 have hLne:s.heap.objs.size≠s1.heap.objs.size:=λq=>by
  refine iS hns λo _ _ g _=>?_
  have:=Heap.lt_size g
  have h2:(callEnvC G.fd s.heap.objs.size G.fa).locals=s.heap.objs.size:=rfl
  rw [h2,q]at this
  exact Nat.lt_irrefl _ this
 have hgs:s1.gens=s.gens:=by rw[e1]
 have keepG:∀ b o,s1.heap.get? b=some o->(s1.heap.push {cls:=.type "generator",data:=.fields #[.int s1.gens.size 0,.str G.fd.name s1.toks,.str G.fd.qualname (s1.toks+1)]}).get? b=some o:=λb o e=>Heap.get?_push_of_some _ e
 have kall:∀ b o,s.heap.get? b=some o->(s1.heap.push {cls:=.type "generator",data:=.fields #[.int s1.gens.size 0,.str G.fd.name s1.toks,.str G.fd.qualname (s1.toks+1)]}).get? b=some o:=λb o e=>keepG b o (I.toInCall.keep b o e)
 have hka:s.heap.get? s1.heap.objs.size=none:=by
  cases q:s.heap.get? s1.heap.objs.size with
  |none=>rfl
  |some o=>have:=I.toInCall.keep _ _ q;rw[bJ]at this;cases this
 have SN:=S.new (s':= {s1 with gens:=s1.gens.push (.fresh (.func G.body (callEnvC G.fd s.heap.objs.size G.fa))),toks:=s1.toks+1+1,heap:=s1.heap.push {cls:=.type "generator",data:=.fields #[.int s1.gens.size 0,.str G.fd.name s1.toks,.str G.fd.qualname (s1.toks+1)]}})
  (l:=⟨s1.heap.objs.size,s.heap.objs.size,some s.gens.size⟩) (m:=.gen (.fresh (loB names (vs++more) lo0))) kall (λk x e=>by
   have hlt:k<s.gens.size:=by
    refine Or.elim (Nat.lt_or_ge k s.gens.size) (λq=>?_) λq=>?_
    ·exact q
    ·rw[Array.getElem?_eq_none q]at e;cases e
   show(s1.gens.push _)[k]? =some x
   rw [hgs,Array.getElem?_push,if_neg (Nat.ne_of_lt hlt)];exact e) (by rw[e1]) (by rw[hgs];exact S.bare.push rfl) hka (bJ _)
  (λk e l' hl' e'=>by
   refine xE (List.getElem?_of_mem hl') λi hi=>?_
   have:=g_lt hG S hi e';cases e;exact Nat.lt_irrefl _ this)
  (by
   show C.GR _ _ _ _
   rw [hG.gr]
   exact⟨s.gens.size,.str G.fd.name s1.toks,.str G.fd.qualname (s1.toks+1),rfl,by rw[<-hgs];exact Heap.get?_push_size _ rfl,hLne,⟨m,hns.keeps keepG,λx hx=>(hm x hx).mono (List.prefix_append _ _) (eE keepG)⟩,by rw[hgs];simp;rfl⟩)
 exact⟨SN.1,SN.2 _,VR.ref (l:=⟨s1.heap.objs.size,s.heap.objs.size,some s.gens.size⟩) S.last,q⟩
theorem wB{G:GSh}(hG:GCx C G){H:MH}{ρ:List Lc}{s:Shared}{gi:Nat}{l:Lc}{gn:Gn}(S:Sim C H ρ s)(hl:ρ[gi]? =some l)(hH:H[gi]? =some (.gen gn)):∃ k,s.heap.IsGen l.a k:=by
 have o:eQ G ρ s l gn:=by have:=S.objs gi _ l hH hl;rw[<-hG.gr];exact this
 refine fX o λgk nm qn hg ho hm=>?_
 exact⟨gk,_,nm,qn,ho,rfl,rfl,rfl⟩
inductive GnM{C:Cx}(ρ:List Lc)(s:Shared)(gi:Nat):Value->(Addr->Prop)->Prop
 |mk {l k} (h1:ρ[gi]? =some l) (h2:s.heap.IsGen l.a k):GnM ρ s gi (.ref l.a) (λ_=>False)
noncomputable def lF{G:GSh}{g:GFn}(hG:GCx C G)(r0:Nat)(VV:∀ L,GV C r0 G g (G.envL L)):ItK C where
 σ:=Nat
 nx:=λgi H Q=>g.nx gi H λo H'=>Q (o.map λv=>(v,gi)) H'
 rel:=λρ s gi x X=>∃ l,ρ[gi]? =some l/\x= .ref l.a/\X=λ_=>False
 mid:=λρ s gi u x X=>GnM (C:=C) ρ s gi x X
 tg:=λ_=>True
 need:=r0+2
 mono:=λ⟨l,h1,h2,h3⟩ e i hk=>⟨l,aO e h1,h2,h3⟩
 alive:=λ⟨l,h1,h2,h3⟩ b hb=>by subst h3;exact hb.elim
 next:=by
  rintro A s ρ H gi x X Q r hnd hr S ⟨l,hl,rfl,rfl⟩ hX e
  have hr':Room (r0+2) A:=by
   refine xAA hr λh1 h2 h3=>?_
   exact⟨h1,A40 hnd h2,A41 hnd h3⟩
  have nxi:∀ {ρ' s'},Nx ρ noW s ρ' s'->NxI ρ (λ_=>False) s ρ' s':=λN=>⟨N.pre,N.new,N.kp,N.imm,λb o e _=>N.al b o e⟩
  refine wmN (aFb hG VV hr' S hl e) λo s' p=>?_
  cases p with
  |item S' N' r' hg q=>
   refine xE hg λgn hH=>?_
   refine xE (wB hG S' (aO N'.pre hl) hH) λk hk=>?_
   exact .item S' (nxi N') r' (.mk (aO N'.pre hl) hk) q
  |done S' N' q=>exact .done S' (nxi N') q
 lgo:=by
  rintro A s ρ H it x X u target r hr S M _ hX
  cases M with
  |mk h1 h2=>
   refine fX h2 λo nm qn h2 h3 _=>?_
   exact jU (T:="generator") h2 h3 (by decide) ⟨S,.refl,_,h1,rfl,rfl⟩
noncomputable def dV(K:ItK C)(ai:Nat):Nat->K.σ->MH->(MH->Prop)->Prop
 |0,_,_,_=>False
 |n+1,it,H,Q=>K.nx it H λres H1=>match res with
  |none=>Q H1
  |some p=>Lf (H1[ai]?.bind MO.own) λvs=>vs.length<1000000/\dV K ai n p.2 (H1.set ai (.list (vs++[p.1]))) Q
inductive XEnd(C:Cx)(ρ0:List Lc)(s0:Shared)(ai:Nat)(l:Lc)(Q:MH->Prop)(s':Shared):Prop
 |mk {ρ' H'} (S:Sim C H' ρ' s') (N:Nx ρ0 noW s0 ρ' s') (hl:ρ'[ai]? =some l) (q:Q H'):XEnd C ρ0 s0 ai l Q s'
theorem wS{K:ItK C}{ai:Nat}{l:Lc}{res:Value}(hneed:K.need<=r)(hlg:∀ {ρ s it x X u},K.mid ρ s it u x X->K.rel ρ s it x X):
  ∀ (n:Nat){A:Around}{s0 s:Shared}{ρ0 ρ:List Lc}{H:MH}{it:K.σ}{x:Value}{X:Addr->Prop}{Q:MH->Prop},Room r A.in1->ρ[ai]? =some l->Nx ρ0 noW s0 ρ s->Sim C H ρ s->
   K.rel ρ s it x X->(∀ b,X b->s0.heap.get? b=none/\¬Own ρ b/\C.base.heap.get? b=none)->dV K ai n it H Q->
   codeAny C.M A (.builtin "list.extend.loop" ⟨[.ref l.a,x,res],[]⟩) (λrr s'=>rr= .ok (.ret res)/\XEnd C ρ0 s0 ai l Q s') s
 |0,_,_,_,_,_,_,_,_,_,_,_,_,_,_,_,_,e=>e.elim
 |n+1,A,s0,s,ρ0,ρ,H,it,x,X,Q,hr,hl,N,S,R,hX,e=>by
  refine codeAny_builtin PySem.F.entry_extend_loop ?_
  rw [Around.under_plainId PySem.F.plain_extend_loop _]
  show wpAny _ A.in1 (pyNext x >>=_) _ _ s
  refine wpAny_bind (wmN (K.next hneed hr S R (λb q=>⟨(hX b q).2.1,(hX b q).2.2⟩) e) λo s1 p=>?_)
  cases p with
  |done S1 I1 q=>exact wpAny_pure ⟨rfl,S1,N.stepI I1 (λb q=>(hX b q).1),aO I1.pre hl,q⟩
  |item S1 I1 ru R1 q=>
   refine q.elim λvs hv q=>?_
   refine xEE (gP S1 (aO I1.pre hl) (i8 hv)) λxs nn O=>?_
   have hsz:=O.r.sz
   have hlen:=q.1
   have hz:xs.size<=sizeLine:=by rw[sizeLine_eq];exact A33 hsz hlen
   have hX1:∀ b,X b->¬Own _ b:=λb q=>let ⟨o',e'⟩:=K.alive R b q;I1.owns e' (hX b q).2.1
   show wpAny _ A.in1 (updateSeq l.a (·.push _) >>=_) _ _ s1
   refine wpAny_bind (wpAny_updateSeq O.x rfl (wpAny_pure ?_) hz (by rw[Array.size_push];exact Nat.succ_le_succ hz))
   have st:=O.put (k:=s1.toks) S1 (λxs=>xs.push _) (by simpa using O.r.append (.cons ru .nil))
   have N2:Nx _ noW s1 _ _:=st.2 noW
   exact⟨plainId_quiet PySem.F.plain_extend_loop _,wS hneed hlg n hr (aO I1.pre hl) ((N.stepI I1 (λb q=>(hX b q).1)).trans N2) st.1 (K.mono (hlg R1) N2.pre N2.imm (λb o q e'=>N2.kp b o e' (hX1 b q) (λz=>z))) (λb q=>⟨(hX b q).1,hX1 b q,(hX b q).2.2⟩) q.2⟩
theorem nil_of{ρ:List Lc}{h:Heap}{xs:Array Value}(r:VRs ρ h xs.toList []):xs= #[]:=Array.eq_empty_of_size_eq_zero r.sz
theorem pX{H:MH}{ρ:List Lc}{s:Shared}{la:Lc}{vs:List V}(S:Sim C (H++[.list vs]) ρ s)(hla:ρ[H.length]? =some la):∃ xs n,jR (H++[.list vs]) ρ s H.length la vs xs n:=gP S hla (by simp)
theorem pW{H:MH}{ρ:List Lc}{s:Shared}{la:Lc}{vs vs':List V}{xs:Array Value}{n:Nat}(S:Sim C (H++[.list vs]) ρ s)(O:jR (H++[.list vs]) ρ s H.length la vs xs n)(f:Array Value->Array Value)(hv:VRs ρ s.heap (f xs).toList vs'):
  Sim C (H++[.list vs']) ρ {s with heap:=s.heap.update la.a (Obj.mapSeq f)}/\Nx ρ noW s ρ {s with heap:=s.heap.update la.a (Obj.mapSeq f)}:=by
 have st:=O.put (k:=s.toks) S f hv
 have e3:(H++[MO.list vs]).set H.length (MO.list vs')=H++[MO.list vs']:=by simp
 rw [e3]at st
 exact⟨st.1,st.2 _⟩
theorem sD{K:ItK C}{T:String}(hneed:K.need<=r)(hlg:∀ {ρ s it x X u},K.mid ρ s it u x X->K.rel ρ s it x X)(hT1:(Value.type T==Value.type "list")=false)(hT2:(Value.type T==Value.type "tuple")=false)
  (hno1:typeLookup (.type T) "__len__" =pure none) (hno2:typeLookup (.type T) "__length_hint__" =pure none){n:Nat}{A:Around}{s0 s:Shared}{ρ0 ρ:List Lc}{H:MH}{it:K.σ}{a:Addr}{X:Addr->Prop}{Q:MH->Prop}
  (hr:Room (r+1) A) (N0:Nx ρ0 noW s0 ρ s) (S:Sim C H ρ s) (R:K.rel ρ s it (.ref a) X) (hX:∀ b,X b->s0.heap.get? b=none/\¬Own ρ b/\C.base.heap.get? b=none) (hty:s.TypeIs (.ref a) T)
  (hit:∀ {A':Around}{E' Q':Value->Shared->Prop} (s':Shared),s'.heap.get? a=s.heap.get? a->Q' (.ref a) s'->wpAny C.M A' (pyIter (.ref a)) Q' E' s') (e:dV K H.length n it (H++[.list []]) Q):
  wpAny C.M A (call (.type "list") [.ref a]) (bZ C ρ0 s0 λv H'=>v= .ref H.length/\Q H') NoE s:=by
 refine callType_codes (Q₁:=λobj s₁=>obj= .ref s.heap.objs.size/\s₁= {s with heap:=s.heap.push {cls:=.type "list",data:=.seq #[]}}) PySem.F.called_list (PySem.F.typeCall_list_1 _) PySem.F.entry_list_init
  (code_list_new _ ⟨rfl,rfl⟩) λobj s₁ h₁=>?_
 refine xA h₁ λz107 z108=>?_;clear h₁;subst z107;subst z108
 refine xEA hty λoa hoa hca=>?_
 have hS:(s.heap.push {cls:=.type "list",data:=.seq #[]}).get? s.heap.objs.size=some {cls:=.type "list",data:=.seq #[]}:=Heap.get?_push_size _ rfl
 refine⟨⟨_,hS,rfl⟩,PySem.F.args_list_init_2 _ _,?_⟩
 have S1:=S.alloc {cls:=.type "list",data:=.seq #[]} (.list []) ⟨rfl,rfl,#[],0,Heap.get?_push_size _ rfl,.nil⟩
 have N1:Nx ρ noW s _ _:=.alloc {cls:=.type "list",data:=.seq #[]}
 have hla:=S.last (l:=⟨s.heap.objs.size,s.heap.objs.size,none⟩)
 have hne:s.heap.objs.size≠a:=λq=>by have:=Heap.lt_size hoa;rw[q]at this;exact Nat.lt_irrefl _ this
 refine xEE (pX S1 hla) λxs1 n1 O1=>?_
 have st2:=pW S1 O1 (λ_=> #[]) (vs':=[]) .nil
 show wpAny _ A.in1.in1 (do let old<-Builtin.List.listItems (.ref s.heap.objs.size);Builtin.List.listUpdate (.ref s.heap.objs.size) (λ_=> #[]);letGo old.toList.reverse;Builtin.List.listExtendWith (.ref s.heap.objs.size) (.ref a) .none) _ _ _
 refine wpAny_bind ?_
 unfold Builtin.List.listItems
 refine wpAny_bind (wpAny_seqItems hS rfl (wpAny_pure ?_))
 show wpAny _ A.in1.in1 (updateSeq s.heap.objs.size (λ_=> #[]) >>=λ_=>letGo (#[]:Array Value).toList.reverse >>=λ_=>Builtin.List.listExtendWith (.ref s.heap.objs.size) (.ref a) .none) _ _ _
 refine wpAny_bind (wpAny_updateSeq hS rfl (wpAny_bind (wpAny_letGo ?_)))
 have g2:((s.heap.push {cls:=.type "list",data:=.seq #[]}).update s.heap.objs.size (Obj.mapSeq λ_=> #[])).get? a=some oa:=((Heap.SameBut.update ..).2 a (Ne.symm hne)).trans (Heap.get?_push_of_some _ hoa)
 unfold Builtin.List.listExtendWith
 refine wpAny_bind (wpAny_typeOf ⟨oa,g2,hca⟩ ?_)
 have h1:Builtin.List.listSameRef (.ref s.heap.objs.size) (.ref a)=false:=by simp only[Builtin.List.listSameRef];simpa using hne
 simp only[h1,hT1,hT2,Bool.or_false,Bool.false_eq_true,if_false]
 refine wpAny_bind (hit _ (g2.trans hoa.symm) (wpAny_bind (wpAny_holding ?_)))
 unfold Builtin.List.listLengthHint
 refine wpAny_bind (wpAny_specialOf ⟨oa,g2,hca⟩ hno1 ?_)
 show wpAny _ A.in1.in1 (specialOf (Value.ref a) (Str.ofString "__length_hint__") >>=_) _ _ _
 refine wpAny_bind (wpAny_specialOf ⟨oa,g2,hca⟩ hno2 (wpAny_pure ?_))
 show wpAny _ A.in1.in1 (rule "list.extend.makes-room" >>=λ_=>Builtin.List.listTouch (.ref s.heap.objs.size) >>=λ_=>
  again (.builtin "list.extend.loop" ⟨[.ref s.heap.objs.size,.ref a,.none],[]⟩)) _ _ _
 refine wpAny_bind (wpAny_rule (wpAny_bind ?_))
 show wpAny _ A.in1.in1 (updateSeq s.heap.objs.size (·.push .none) >>=λ_=>updateSeq s.heap.objs.size (·.pop)) _ _ _
 refine xEE (pX st2.1 hla) λxs2 n2 O2=>?_
 have z2:=nil_of O2.r
 subst z2
 have st3:=pW st2.1 O2 (λxs=>xs.push .none) (vs':=[.none]) (.cons .none .nil)
 refine wpAny_bind (wpAny_updateSeq O2.x rfl ?_ (by rw[sizeLine_eq];decide) (by rw[sizeLine_eq];decide))
 refine xEE (pX st3.1 hla) λxs3 n3 O3=>?_
 have sz3:=O3.r.sz
 have st4:=pW st3.1 O3 (λxs=>xs.pop) (vs':=[]) (by
  have:xs3.pop.toList= []:=List.eq_nil_of_length_eq_zero (by rw[Array.length_toList,Array.size_pop,sz3];rfl)
  rw [this];exact .nil)
 refine wpAny_updateSeq O3.x rfl ?_ (by rw[sz3,sizeLine_eq];decide) (by rw[Array.size_pop,sz3,sizeLine_eq];decide)
 have N14:=N1.trans (st2.2.trans (st3.2.trans st4.2))
 have hr1:Room r A.in1.in1:=by
  refine xAA hr λh1 h2 h3=>?_
  exact⟨h1,by show A.depth+10*r<=700;exact A42 h2,by show A.units+1+1+40*r<=8000;exact A43 h3⟩
 refine wpAny_pure ⟨plainId_quiet PySem.F.plain_extend_loop _,?_⟩
 refine codeAny_mono (wS (l:=⟨s.heap.objs.size,s.heap.objs.size,none⟩) (ρ0:=ρ0) (s0:=s0) hneed hlg n hr1 hla (N0.trans N14) st4.1 (K.mono R N14.pre N14.imm (λb o q e'=>N14.kp b o e' (hX b q).2.1 (λz=>z)))
  (λb q=>⟨(hX b q).1,let ⟨o',e'⟩:=K.alive R b q;N14.own e' (hX b q).2.1,(hX b q).2.2⟩) e) λrr s5 p=>?_
 obtain⟨rfl,S5,N5,hl5,q⟩:=p
 exact⟨rfl,S5,N5,.ref hl5,rfl,q⟩
theorem aEe{G:GSh}{g:GFn}{n:Nat}(hG:GCx C G){r0:Nat}(VV:∀ L,GV C r0 G g (G.envL L)){A:Around}{s:Shared}{ρ:List Lc}{H:MH}{gi:Nat}{l:Lc}{gn:Gn}{Q:MH->Prop}(hnd:r0+2<=r)(hr:Room (r+1) A)(S:Sim C H ρ s)(hl:ρ[gi]? =some l)(hH:H[gi]? =some (.gen gn))
  (e:dV (lF hG r0 VV) H.length n gi (H++[.list []]) Q):wpAny C.M A (call (.type "list") [.ref l.a]) (bZ C ρ s λv H'=>v= .ref H.length/\Q H') NoE s:=by
 refine xE (wB hG S hl hH) λk hk=>?_
 refine sD (K:=lF hG r0 VV) (T:="generator") hnd (λM=>by cases M with |mk h1 h2=>exact⟨_,h1,rfl,rfl⟩) (by decide) (by decide) PySem.F.gen_no_len PySem.F.gen_no_hint hr .refl S ⟨l,hl,rfl,rfl⟩ (λb hb=>hb.elim) hk.typeIs (λs' h q=>?_) e
 refine iS hk λo nm qn h2 h3=>?_
 exact wpAny_pyIter_gen (g:=k) ⟨o,nm,qn,h.trans h2,h3⟩ q
noncomputable def isG(H:MH)(vs:List V):Option Nat:=((one vs).bind V.rf).bind λi=>(H[i]?.bind MO.gn).map λ_=>i
noncomputable def d9(K:ItK C)(σ:Nat->K.σ):CF:=λvs H Q=>match isG H vs with
 |some i=>∃ n,dV K H.length n (σ i) (H++[.list []]) λH'=>Q (.ref H.length) H'
 |none=>aF9 vs H Q
theorem CV.listG{G:GSh}{g:GFn}(hG:GCx C G){r0:Nat}(VV:∀ L,GV C r0 G g (G.envL L))(hnd:r0+2<=r):CV C (r+1) (.type "list") (d9 (lF hG r0 VV) (λi=>i)):=by
 refine⟨d6,?_⟩
 intro A s ρ H us vs Q hr S rs e
 unfold d9 at e
 split at e
 ·rename_i i hi
  refine xE e λn e=>?_
  refine xEA (Option.bind_eq_some_iff.mp hi) λj hj hi=>?_
  refine xEA (Option.map_eq_some_iff.mp hi) λgn hgn z109=>?_;subst z109
  refine xEA (Option.bind_eq_some_iff.mp hj) λv hv hj=>?_
  refine xEA (kG rs hv) λu z110 ru=>?_;subst z110
  refine dC (ru.toRef hj) λl z111 z112 gl=>?_;subst z111;subst z112
  refine wmN (aEe hG VV hnd hr S gl (gn_mo hgn) e) λx s' p=>?_
  obtain⟨S',N',r',hv',q⟩:=p
  subst hv'
  exact⟨S',N',r',q⟩
 ·exact CV.list.call hr S rs e
end
section
variable {C:Cx}{r:Nat}{env:Env}
structure KCx(C:Cx)(K:Frag):Prop where
 mem:K.In C.base.heap
 makes:makesIn K dY=true
 init:findIn K (.ref dY) "__init__" =some (some (.ref 160))
 initT:typeIn K (.ref 160)=some (.type "function")
 callS:specialIn K (.ref dY) "__call__" =some (some (.builtin "type.__call__"))
 callM:specialIn K (.ref aE) "__call__" =some (some (.builtin "type.__call__"))
 typM:instIn K (.ref aE) (.type "type")=some true
 clsM:∃ oc od cd sl,K.lookup aE=some ⟨oc,od,.cls cd,sl⟩/\cd.mro= [.ref aE,.type "tuple",.type "object"]/\cd.hasDel=false/\cd.hasDict=false/\cd.slotNames= []/\(sl.toList[4]?).join=some .none/\cd.abstract=false/\cd.collection=none
 clsS:∃ oc od cd sl,K.lookup dY=some ⟨oc,od,.cls cd,sl⟩
 readsM:readsIn K aE (.type "type")=true
 newM:findCls K (.ref aE) (.type "type") "__new__" =some (.get (.builtin "staticmethod.__get__") (.ref 136) .none (.ref aE))
 makeM:findCls K (.ref aE) (.type "type") "_make" =some (.get (.builtin "classmethod.__get__") (.ref 91) .none (.ref aE))
 smM:recIn K 136 "staticmethod" =some [.ref 82]
 cmM:∃ b,recIn K 91 "classmethod" =some [.ref 89,b]
 initM:findIn K (.ref aE) "__init__" =some (some (.builtin "object.__init__"))
 newT:typeIn K (.ref 82)=some (.type "function")
theorem vY{K:Frag}(hK:K.In C.base.heap){c:Addr}(hc:∃ oc od cd sl,K.lookup c=some ⟨oc,od,.cls cd,sl⟩)(hcall:specialIn K (.ref c) "__call__" =some (some (.builtin "type.__call__"))):
  ∀ h:Heap,(∀ b o,C.base.heap.get? b=some o->h.get? b=some o)->∃ k,(k=Keeper.frame∨k=Keeper.machine∨k=Keeper.boundFrame)/\Looks C.M h (keeperOf (.ref c)) k:=by
 intro h hk
 refine xEEEE hc λoc od cd sl e=>?_
 have X:=hK.keeps hk
 refine⟨.machine,.inr (.inl rfl),(Looks.ld (part:=none) (X _ _ e)).andThen ?_⟩
 refine(looks_specialIn X hcall).andThen ?_
 exact Looks.of_pure (by simp)
theorem Room.under_call{A:Around}{c:Addr}{rest:List Value}(hr:Room (r+1) A):Room r (A.under (.builtin "type.__call__" ⟨.ref c :: rest,[]⟩)):=by
 refine xAA hr λh1 h2 h3=>?_
 have w1:(Code.builtin "type.__call__" ⟨.ref c :: rest,[]⟩).weight=1:=by first |rfl |kernel_rfl
 have w2:(Code.builtin "type.__call__" ⟨.ref c :: rest,[]⟩).cUnits=1:=by first |rfl |kernel_rfl
 refine⟨h1,?_,?_⟩
 ·show A.depth+(Code.builtin "type.__call__" ⟨.ref c :: rest,[]⟩).weight+10*r<=700
  rw [w1];exact A30 h2
 ·show A.units+(Code.builtin "type.__call__" ⟨.ref c :: rest,[]⟩).cUnits+40*r<=8000
  rw [w2];exact A44 h3
noncomputable def cNew(g:CF):CF:=λvs H Q=>g (.ref H.length :: vs) (H++[.inst λ_=>none]) λv H'=>v= .none/\Q (.ref H.length) H'
theorem uT.run{A:Around}{c:Code}{ρ:List Lc}{s s0:Shared}{Q:EK}{R:Result->Shared->Prop}(h:codeAny C.M A c (uT C ρ s Q) s0)(k:∀ {x s' ρ' v H'},Sim C H' ρ' s'->Nx ρ noW s ρ' s'->VR ρ' s'.heap x v->Q v H'->R (.ok (.ret x)) s'):codeAny C.M A c R s0:=
 codeAny_mono h λrr s' hh=>by
  cases rr with
  |error x=>exact hh.elim
  |ok f=>
   cases f with
   |ret x=>exact let ⟨S,N,r,q⟩:=hh;k S N r q
   |_=>exact hh.elim
theorem CV.sm{K:Frag}(hK:KCx C K){g:CF}(hi:CC C r (.ref 160) g):CV C (r+1) (.ref dY) (cNew g):=by
 refine⟨vY hK.mem hK.clsS hK.callS,?_⟩
 intro A s ρ H us vs Q hr S rs e
 have X:=hK.mem.keeps S.keep
 obtain⟨h,gg,d,t,os⟩:=s
 refine wpAny_call (make_core (makes_of X hK.makes) (looks_findIn X hK.init) (λself=>bind_fn X self hK.initT) (.inl rfl) ?_)
 have keep:∀ b o,h.get? b=some o->((h.push emptyDict).push (instObj dY h.objs.size)).get? b=some o:=λb o e=>Heap.get?_push_of_some _ (Heap.get?_push_of_some _ e)
 have hget:((h.push emptyDict).push (instObj dY h.objs.size)).get? (h.objs.size+1)=some (instObj dY h.objs.size):=by heap_get
 have hgd:((h.push emptyDict).push (instObj dY h.objs.size)).get? h.objs.size=some emptyDict:=Heap.get?_push_of_some _ (Heap.get?_push_at rfl rfl)
 have G:=S.grow (l:=⟨h.objs.size+1,h.objs.size,none⟩) (m:=.inst λ_=>none) (k:=t) keep (Heap.get?_none_of_le (Nat.le_succ _)) (bJ _) rfl ⟨rfl,Nat.ne_of_lt (Nat.lt_succ_self _),⟨_,hget,rfl,rfl,rfl⟩,λ_=>none,
  Heap.Ns1.of_empty ⟨_,#[],_,hgd,rfl,λe he=>absurd he (by simp),λ_=>rfl⟩,⟨_,hgd,rfl,rfl⟩,λx hx=>absurd rfl hx,λ_=>trivial⟩
 have hl:=S.last (l:=⟨h.objs.size+1,h.objs.size,none⟩)
 exact uT.run (hi (A:=A.under (.builtin "type.__call__" ⟨.ref dY :: us,[]⟩)) hr.under_call G.1 (.cons (.ref hl) (rs.nx (G.2 noW))) e) λS2 N2 r2 q=>by
  refine xA q λq1 q=>?_
  have:=r2.noT (by rw[q1];rfl)
  exact⟨this,S2,(G.2 _).trans N2,.ref (aO N2.pre hl),q⟩
theorem aDu(a b c d:Value):argsOk "object.__init__" ⟨[a,b,c,d],[]⟩:=by unfold argsOk;kernel_rfl
noncomputable abbrev tS(i j k:Value)(n:Nat)(dd:Option Addr):Obj:= {cls:=.ref aE,dict:=dd,data:=.seq #[i,j,k] n}
noncomputable def NewM(C:Cx)(r:Nat):Prop:=∀ {A:Around}{s:Shared}{ρ:List Lc}{H:MH}{a b c:Value}{i j k:Int},Room r A->Sim C H ρ s->VR ρ s.heap a (.int i)->VR ρ s.heap b (.int j)->VR ρ s.heap c (.int k)->
 codeAny C.M A (.call (.ref 82) ⟨[.ref aE,a,b,c],[]⟩) (uT C ρ s λv H'=>v= .mat i j k/\H'=H) s
noncomputable def yU:CF:=lf λvs H=>(Tis vs).bind λis=>match is with | [i,j,k]=>some (.mat i j k,H) |_=>none
theorem VR.toMat{ρ:List Lc}{h:Heap}{u:Value}{v:V}{i j k:Int}(r:VR ρ h u v)(e:v= .mat i j k):∃ a n t1 t2 t3 dd,u= .ref a/\h.get? a=some (tS (.int i t1) (.int j t2) (.int k t3) n dd):=by
 subst e
 refine kW r.inv λa n t u v dd h1 h2=>?_
 exact⟨a,n,t,u,v,dd,h1,h2⟩
theorem tR{K:Frag}(hK:KCx C K){h:Heap}(X:K.In h):Looks C.M h (mroOf (.ref aE)) [.ref aE,.type "tuple",.type "object"]:=by
 refine jS hK.clsM λoc od cd sl eC hmro _=>?_
 rw [<-hmro]
 exact((Looks.ld (part:=none) (X _ _ eC)).andThen .now).andThen .now
theorem vV{K:Frag}(hK:KCx C K){h:Heap}(X:K.In h):Looks C.M h (Bind.madeBy (.ref aE)) none:=by
 refine iC hK.clsM λoc od cd sl eC hmro hdel hdict hsn hsl habs hcol=>?_
 have hC:=X _ _ eC
 have hm:=tR hK X
 intro A Q E s k q
 unfold Bind.madeBy
 refine wpAny_bind (hm A _ E s k ?_)
 rw [List.forIn_cons]
 refine wpAny_bind (wpAny_bind (wpAny_bind (wpAny_bind (wpAny_loadPart (k _ _ hC) (wpAny_pure ?_)))))
 dsimp only
 rw [<-Array.getElem?_toList,hsl]
 exact wpAny_pure (wpAny_pure (wpAny_pure q))
theorem tW{K:Frag}(hK:KCx C K){h:Heap}(X:K.In h){T:Value}(hT:T= .ref aE∨T= .type "tuple" ∨T= .type "object"):Looks C.M h (isSubtype (.ref aE) T) true:=by
 refine jS hK.clsM λoc od cd sl eC hmro _=>?_
 exact looks_mroIn X (by unfold mroIn clsIn;rw[eC];rcases hT with rfl |rfl |rfl<;>simp [hmro])
set_option maxHeartbeats 1000000 in
theorem CV.mat{K:Frag}(hK:KCx C K)(hn:NewM C r):CV C (r+1) (.ref aE) yU:=by
 refine CV.of (vY hK.mem (let ⟨oc,od,cd,sl,e,_⟩:=hK.clsM;⟨oc,od,cd,sl,e⟩) hK.callM) λ{A s ρ H us vs v H'} hr S rs e=>?_
 refine xEA (Option.bind_eq_some_iff.mp e) λis hi e=>?_
 refine xEA (rs.ints hi) λts hl1 hl2=>?_
 split at e
 ·rename_i i j k
  cases e
  refine xEEE (ts3 hl1 hl2) λta tb tc z113=>?_;subst z113
  clear rs hi hl1 hl2
  have X:=hK.mem.keeps S.keep
  refine iC hK.clsM λoc od cd sl eC hmro hdel hdict hsn hsl habs hcol=>?_
  have hC:=X _ _ eC
  have call:=looks_specialIn (M:=C.M) X hK.callM
  have typ:=looks_instIn (M:=C.M) X hK.typM
  refine wpAny_call ?_
  obtain⟨h,g,d,t,os⟩:=s
  refine codeAny_of_tree ?_
  show wpAny _ _ (callAny (.ref aE) _) _ _ _
  refine nd_load hC ?_
  show wpAny _ _ (callAny.viaDunder (.ref aE) _) _ _ _
  unfold callAny.viaDunder
  refine wpAny_bind (call.at ?_)
  dsimp only
  rw [tc_bind]
  refine wpAny_bind (wpAny_pure (wpAny_bind (wpAny_pure ?_)))
  refine wpAny_pure (a:=PySem.Fin.again (.call (.builtin "type.__call__") ⟨.ref aE :: [.int i ta,.int j tb,.int k tc],[]⟩)) (And.intro rfl ?_)
  refine codeAny_call_builtin_at (Code.quiet_builtin _ (by decide+kernel)) entry_typeCall (check_slot tc_kind tc_split typ (tc_args _ _ _) ?_)
  unfold Builtin.«type.__call__»
  have made:=vV hK X
  have hm:=tR hK X
  have isT:=tW hK X (.inl rfl)
  have lkI:=looks_findIn (M:=C.M) X hK.initM
  have att:∀ {A':Around}{E':Value->Shared->Prop}{Q':Value->Shared->Prop}{b:Bool},Q' (.ref 82) ⟨h,g,d,t+1,os⟩->wpAny C.M A' (getAttr (.ref aE) "__new__" b) Q' E' ⟨h,g,d,t,os⟩:=
   λhq=>cls_bind X hK.readsM hK.newM (wpAny_call (sm_get (s:=⟨h,g,d,t+1,os⟩) X hK.smM (handed_on (by decide+kernel:handedIn (.ref 82)=true) hq)))
  repeat (first |with_reducible refine att ?_ |simp only[Bool.false_eq_true,if_false] |with_reducible refine wpAny_call ?_ |lk)
  refine uT.run (hn (s:=⟨h,g,d,t+1,os⟩) hr.under_call (S.toks _) (.int i ta) (.int j tb) (.int k tc)) λ{x s1 ρ1 v1 H1} S1 N1 r1 q=>?_
  refine xA q λq1 z114=>?_;clear q;subst z114
  refine kW (r1.toMat q1) λx n1 t1 u1 w1 dd1 z115 hx=>?_;subst z115
  rw [q1]at r1
  have X1:=hK.mem.keeps S1.keep
  clear att isT made typ call hm lkI hC X hn
  have tx:Looks C.M s1.heap (typeOf (.ref x)) (.ref aE):=(Looks.ld hx).andThen .now
  have isT1:=tW hK X1 (.inl rfl)
  have lkI:=looks_findIn (M:=C.M) X1 hK.initM
  have made1:=vV hK X1
  have isO:Looks C.M s1.heap (isInstance (.ref x) (.type "object")) true:=tx.andThen (tW hK X1 (.inr (.inr rfl)))
  have hC1:=X1 _ _ eC
  have hm1:=tR hK X1
  have fin:EPo C ρ ⟨h,g,d,t,os⟩ H1 (.mat i j k) (.ref x) s1:=⟨ρ1,S1,(Nx.toks (t+1)).trans N1,r1⟩
  clear S1 N1 S r1 q1 X1
  obtain⟨h1,g1,d1,tt1,os1⟩:=s1
  dsimp only at hx tx isT1 lkI isO hm1 made1 hC1
  unfold isInstance callSpecial? specialOf
  have bi:=Looks.of_pure (M:=C.M) (h:=h1) (oi_bind (.ref x))
  repeat (first |with_reducible refine wpAny_call ?_ |simp only[Bool.not_true,Bool.false_eq_true,if_false] |lk)
  refine codeAny_call_builtin oi_plain entry_oi (check_slot oi_kind oi_split isO (aDu _ _ _ _) ?_)
  show wpAny _ _ (Builtin.«object.__init__» ⟨[.ref x,.int i ta,.int j tb,.int k tc],[]⟩) _ _ _
  unfold Builtin.«object.__init__»
  repeat (first |simp only[List.isEmpty_cons,Bool.not_false,Bool.not_true,Bool.true_or,bne_self_eq_false,Bool.false_eq_true,if_false,if_true] |lk)
  exact fin
 ·first |exact aQ e |cases e
end
section
variable {C:Cx}{r:Nat}{env:Env}
theorem aGp:builtinKind "tuple.__new__" =some .builtinFn:=by decide+kernel
theorem aCe:splitId "tuple.__new__" =some ("tuple","__new__"):=by decide+kernel
theorem aCf:plainId "tuple.__new__" =true:=by decide+kernel
theorem aGq:Builtin.Slots.bestBase [.type "tuple"]=pure (.type "tuple"):=by first |rfl |kernel_rfl
structure uS(M:Model)(h:Heap):Prop where
 obj:∃ oc od cd sl,h.get? aE=some ⟨oc,od,.cls cd,sl⟩/\cd.hasDel=false
 isT:Looks M h (isType (.ref aE)) true
 sub:Looks M h (isSubtype (.ref aE) (.type "tuple")) true
 base:Looks M h (Bind.staticBase (.ref aE)) (.type "tuple")
 init:Looks M h (typeLookup (.ref aE) "__init__") (some (.builtin "object.__init__"))
theorem mfacts{K:Frag}(hK:KCx C K)(hbs:∃ oc od cd sl,K.lookup aE=some ⟨oc,od,.cls cd,sl⟩/\cd.bases= [.type "tuple"]){M:Model}{h:Heap}(X:K.In h):uS M h:=by
 refine iC hK.clsM λoc od cd sl eC hmro hdel hdict hsn hsl habs hcol=>?_
 refine oK hbs λoc' od' cd' sl' eC' hbase=>?_
 rw [eC]at eC'
 cases eC'
 have hC:=X _ _ eC
 have hm:Looks M h (mroOf (.ref aE)) cd.mro:=((Looks.ld (part:=none) hC).andThen .now).andThen .now
 rw [hmro]at hm
 have made:Looks M h (Bind.madeBy (.ref aE)) none:=by
  intro A Q E s k q
  unfold Bind.madeBy
  refine wpAny_bind (hm A _ E s k ?_)
  rw [List.forIn_cons]
  refine wpAny_bind (wpAny_bind (wpAny_bind (wpAny_bind (wpAny_loadPart (k _ _ hC) (wpAny_pure ?_)))))
  dsimp only
  rw [<-Array.getElem?_toList,hsl]
  exact wpAny_pure (wpAny_pure (wpAny_pure q))
 refine⟨⟨oc,od,cd,sl,hC,hdel⟩,?_,looks_mroIn X (by unfold mroIn clsIn;rw[eC];simp [hmro]),?_,looks_findIn X hK.initM⟩
 ·exact(Looks.ld (part:=some headPart) hC).andThen .now
 ·intro A Q E s k q
  unfold Bind.staticBase
  refine wpAny_bind (hm A _ E s k ?_)
  rw [List.forIn_cons]
  have mt:=PySem.F.called_tuple.made
  dsimp only
  refine wpAny_bind (wpAny_bind (wpAny_bind (made A _ E s k ?_)))
  rw [if_neg (by decide)]
  have hcd:Looks M h (classData aE) cd:=(Looks.ld (part:=none) hC).andThen .now
  refine wpAny_bind (hcd A _ E s k ?_)
  show wpAny _ _ (Builtin.Slots.bestBase cd.bases >>=_) _ _ _
  rw [hbase,aGq]
  refine wpAny_bind (wpAny_pure (wpAny_pure ?_))
  dsimp only
  rw [List.forIn_cons,mt]
  dsimp only
  refine wpAny_bind (wpAny_bind (wpAny_pure ?_))
  rw [if_pos (by decide)]
  exact wpAny_pure (wpAny_pure (wpAny_pure q))
set_option maxHeartbeats 1000000 in
theorem aAr{prog:Program}{w:World}{A:Around}{s:Shared}{R:Result->Shared->Prop}{tp:Addr}{xs:Array Value}{n:Nat}(F:∀ h,(∀ b o,s.heap.get? b=some o->h.get? b=some o)->uS (model prog w) h)(hx:s.heap.get? tp=some {cls:=.type "tuple",data:=.seq xs n})(hsz:xs.size<100)
  (h:∀ h' x dd,(∀ b o,s.heap.get? b=some o->h'.get? b=some o)->h'.get? x=some {cls:=.ref aE,dict:=dd,data:=.seq xs}->s.heap.get? x=none->R (.ok (.ret (.ref x))) {s with heap:=h'}):
  codeAny (model prog w) A (.call (.builtin "tuple.__new__") ⟨[.ref aE,.ref tp],[]⟩) R s:=by
 obtain⟨⟨oc,od,cd,sl,hC,hdel⟩,isT,sub,base,init⟩:=F s.heap (λ_ _ e=>e)
 have mt:=PySem.F.called_tuple.made
 refine codeAny_call_builtin aCf PySem.F.entry_tuple_new ?_
 obtain⟨hh,g,d,t,os⟩:=s
 dsimp only at*
 simp only[checkBuiltinCall,aGp,aCe]
 have col:∀ {A':Around}{E':Value->Shared->Prop}{Q':List Value->Shared->Prop},(∀ h',(∀ b o,hh.get? b=some o->h'.get? b=some o)->Q' xs.toList ⟨h',g,d,t,os⟩)->wpAny (model prog w) A' (collect (.ref tp)) Q' E' ⟨hh,g,d,t,os⟩:=by
  intro A' E' Q' hq
  exact wpAny_collect_seq tp (.inr rfl) hx rfl rfl hq (by rw[sizeLine_eq];exact A2 hsz)
 repeat (first |simp only[Bool.not_true,Bool.false_eq_true,if_false,beq_self_eq_true,if_true] | (rw [mt];refine wpAny_pure ?_) |with_reducible refine col ?_ |lk)
 intro h1 hk1
 refine wpAny_bind (wpAny_pure (wpAny_bind (wpAny_alloc (wpAny_bind ?_))))
 unfold newObj
 dsimp only
 rw [if_neg (by simp [sizeLine_eq];exact A2 hsz)]
 unfold newObjAsIs classHasDel
 have hC1:=hk1 _ _ hC
 refine wpAny_bind (wpAny_alloc (wpAny_bind (wpAny_bind (wpAny_load (Heap.get?_push_of_some _ (Heap.get?_push_of_some _ hC1)) (wpAny_pure ?_)))))
 rw [hdel]
 refine wpAny_pure (wpAny_pure ?_)
 refine h _ _ _ (λb o e=>Heap.get?_push_of_some _ (Heap.get?_push_of_some _ (hk1 b o e))) (by rw[Array.toArray_toList];exact Heap.get?_push_size _ rfl) ?_
 cases q:hh.get? (h1.push {cls:=.type "dict",data:=.dict #[]}).objs.size with
 |none=>rfl
 |some o=>
  have:=Heap.get?_push_of_some {cls:=.type "dict",data:=.dict #[]} (hk1 _ _ q)
  rw [bJ]at this;cases this
end
section
variable {C:Cx}{r:Nat}{env:Env}
theorem nil_in(h:Heap):Frag.In [] h:=λ_ _ e=>by cases e
theorem aB1:findCls [] (.type "tuple") (.type "type") "__new__" =some (.val (.builtin "tuple.__new__")):=by first |decide+kernel |kernel_rfl
theorem aBz{prog:Program}{w:World}{A:Around}{E:Value->Shared->Prop}{s:Shared}{pl:Sem Bool}{Q:Value×List Value->Shared->Prop}(h:Q (.builtin "tuple.__new__",[]) {s with toks:=s.toks+1}):wpAny (model prog w) A (getMethod (.type "tuple") "__new__" pl) Q E s:=by
 have X:=nil_in s.heap
 have hstub:opaqueClassAbove (.type "tuple")=pure none:=by unfold opaqueClassAbove;dsimp only;rw[show Manifest.isStub "tuple" =false by decide+kernel];rfl
 have ht:typeOf (.type "tuple")=pure (.type "type"):=by first |rfl |kernel_rfl
 have L0:Looks (model prog w) s.heap (typeOf (.type "tuple")) (.type "type"):=Looks.of_pure ht
 have hg:findIn [] (.type "type") "__getattribute__" =some (some (.builtin "type.__getattribute__")):=type_tga
 unfold getMethod specialOf
 refine wpAny_bind (wpAny_bind (L0.here ((looks_findIn X hg).here ?_)))
 dsimp only
 rw [if_pos canon_tga]
 refine wpAny_bind (wpAny_mono (Q:=λv=>Q (v,[])) (E:=E) ?_ (λ_ _ z=>wpAny_pure z) λ_ _ z=>z)
 have LO:Looks (model prog w) s.heap (opaqueClassAbove (.type "tuple")) none:=Looks.of_pure hstub
 have hh:handedIn (.builtin "tuple.__new__")=true:=by decide+kernel
 refine cls_open X LO L0 hg (looks_hook X (r:=none) (by rfl)) (by show subIn [] _ _=_;rfl) aB1
  (wpAny_pure (by show wpAny _ _ (handedOut (.builtin "tuple.__new__")) _ _ _;rw[handedOut_of hh];exact wpAny_pure h))
noncomputable def V.rw:V->Option Addr | .raw a=>some a |_=>Option.none
theorem VR.toRaw{ρ:List Lc}{h:Heap}{u:Value}{v:V}{a:Addr}(r:VR ρ h u v)(e:v.rw=some a):u= .ref a:=by
 cases v with
 |raw=>cases e;exact r.inv
 |_=>first |exact aQ e |cases e
noncomputable def i3(l:List Int):Option (Int×Int×Int):=match l with | [i,j,k]=>some (i,j,k) |_=>none
theorem i3_ok{l:List Int}{p:Int×Int×Int}(e:i3 l=some p):l= [p.1,p.2.1,p.2.2]:=by
 unfold i3 at e
 split at e
 ·cases e;rfl
 ·first |exact aQ e |cases e
noncomputable def aCh(vs:List V):Option (List Int):=match vs with | [a,b]=>if a.rw=some 135 then b.tp.bind Tis else none |_=>none
theorem aCg{ρ:List Lc}{h:Heap}{us:List Value}{vs:List V}{is:List Int}(r:VRs ρ h us vs)(e:aCh vs=some is):∃ tp xs n ts,us= [.ref 135,.ref tp]/\h.get? tp=some {cls:=.type "tuple",data:=.seq xs n}/\ts.length=is.length/\xs.toList=(is.zip ts).map λx=>Value.int x.1 x.2:=by
 unfold aCh at e
 split at e
 ·split at e
  ·rename_i h1
   refine xEA (Option.bind_eq_some_iff.mp e) λws h2 e=>?_
   refine b8 r.a2 λu v z116 ru rv=>?_;subst z116
   refine cH (rv.toTup h2) λtp xs n _ z117 g rs=>?_;subst z117
   refine xEA (rs.ints e) λts t1 t2=>?_
   exact⟨tp,xs,n,ts,by rw[ru.toRaw h1],g,t1,t2⟩
  ·first |exact aQ e |cases e
 ·first |exact aQ e |cases e
noncomputable def aFu(fs:EFs):EF:=λlo H Q=>fs lo H λvs H1=>Lf ((aCh vs).bind i3) λp=>Q (.mat p.1 p.2.1 p.2.2) H1
theorem EV.tnew{np apos pos:Pos}{es:List Expr}{fs:EFs}(F0:∀ h,(∀ b o,C.base.heap.get? b=some o->h.get? b=some o)->uS C.M h)(hg:Glo C "tuple" (.type "tuple"))(hk:env.kindOf "tuple" =some .globalImplicit)(ha:EVs C r env es fs)(hfl:qY env es)(sh:fF env (.Name "tuple" np) "__new__" apos pos es):
  EV C r env (.Call (.Attribute (.Name "tuple" np) "__new__" apos) es [] pos) (aFu fs):=
 λA s ρ H lo Q hr S F q=>eB (P:=λ_ _=>True) sh.base sh.few sh.line (mW hg hk (by decide+kernel) S F λpl=>aBz (callWith_of (P:=λh=>∀ b o,C.base.heap.get? b=some o->h.get? b=some o) (by rw[hfl.2];rfl) c9
  (wmN (l9 ha hfl hr (S.toks (s.toks+1)) (F.nx (.toks _)) q) λa s1 p=>by
  obtain⟨ps,kw⟩:=a
  obtain⟨hkw,S1,N1,rs,q⟩:=p
  cases hkw
  refine⟨S1.keep,q.elim λp hp q=>?_⟩
  refine xEA (Option.bind_eq_some_iff.mp hp) λis h1 h2=>?_
  refine oJ (aCg rs h1) λtp xs n ts hps gt t1 t2=>?_
  cases hps
  obtain rfl:=i3_ok h2
  refine xEEE (ts3 t1 t2) λt u w t3=>?_
  have hx3:xs= #[.int p.1 t,.int p.2.1 u,.int p.2.2 w]:=Array.toList_inj.mp t3
  subst hx3
  exact wpAny_call (aAr (λh hk=>F0 h λb o e=>hk b o (S1.keep b o e)) gt (show 3<100 by decide) λh' x dd hk hx hnx=>⟨S1.extS hk,(Nx.toks _).trans (N1.trans (.ext (k:=s1.toks) hk)),.mat hx,q⟩))))
end
section
variable {C:Cx}{r:Nat}{env:Env}
structure KMx(C:Cx)(K:Frag):Prop where
 toK:KCx C K
 bases:∃ oc od cd sl,K.lookup aE=some ⟨oc,od,.cls cd,sl⟩/\cd.bases= [.type "tuple"]
 iter:findIn K (.ref aE) "__iter__" =some (some (.builtin "tuple.__iter__"))
 len:findIn K (.ref aE) "__len__" =some (some (.builtin "tuple.__len__"))
 lt:findIn K (.ref aE) "__lt__" =some (some (.builtin "tuple.__lt__"))
 tup:subIn K (.ref aE) (.type "tuple")=some true
theorem aCq:entryFor table "tuple.__iter__" =some Builtin.«tuple.__iter__»:=entryFor_of_tree ⋯
theorem aCn:entryFor table "tuple.__len__" =some Builtin.«tuple.__len__»:=entryFor_of_tree ⋯
theorem aGt:builtinKind "tuple.__iter__" =some .slot:=by decide+kernel
theorem aCo:splitId "tuple.__iter__" =some ("tuple","__iter__"):=by decide+kernel
theorem aCp:plainId "tuple.__iter__" =true:=by decide+kernel
theorem aGu(a:Value):argsOk "tuple.__iter__" ⟨[a],[]⟩:=by unfold argsOk;kernel_rfl
theorem aGr:builtinKind "tuple.__len__" =some .slot:=by decide+kernel
theorem aCl:splitId "tuple.__len__" =some ("tuple","__len__"):=by decide+kernel
theorem aCm:plainId "tuple.__len__" =true:=by decide+kernel
theorem aGs(a:Value):argsOk "tuple.__len__" ⟨[a],[]⟩:=by unfold argsOk;kernel_rfl
theorem ifb{M:Model}{A:Around}{E:Value->Shared->Prop}{s:Shared}{b:Bool}{m:Sem (Value×List Value)}{x:Value×List Value}{Q:Option (Value×List Value)->Shared->Prop}(L:Looks M s.heap m x)(h:Q (some x) s):
  wpAny M A (if b=true then(do let y<-m;pure (some y)) else(do let y<-m;pure (some y):Sem (Option (Value×List Value))).tryCatch λ_=>do rule "special.get-raises-dropped";pure none) Q E s:=by
 split
 ·exact wpAny_bind (L.here (wpAny_pure h))
 ·exact wpAny_tryCatch (wpAny_bind (L.here (wpAny_pure h)))
set_option maxHeartbeats 1000000 in
theorem xP{K:Frag}(hK:KMx C K){A:Around}{E:Value->Shared->Prop}{s:Shared}{a:Addr}{xs:Array Value}{n:Nat}{dd:Option Addr}{Q:Value->Shared->Prop}(X:K.In s.heap)(hx:s.heap.get? a=some {cls:=.ref aE,dict:=dd,data:=.seq xs n})
  (h:Q (.ref s.heap.objs.size) {s with heap:=s.heap.push {cls:=.type "tuple_iterator",data:=.fields #[.ref a,.int 0 0]}}):wpAny C.M A (pyIter (.ref a)) Q E s:=by
 obtain⟨hh,g,d,t,os⟩:=s
 dsimp only at*
 have tx:Looks C.M hh (typeOf (.ref a)) (.ref aE):=(Looks.ld hx).andThen .now
 have L1:=looks_findIn (M:=C.M) X hK.iter
 have isI:Looks C.M hh (isInstance (.ref a) (.type "tuple")) true:=tx.andThen (looks_subIn X hK.tup)
 have bI:=Looks.of_pure (M:=C.M) (h:=hh) (slot_tuple_iter.bind (.ref a))
 unfold pyIter callSpecialIfBoundUnlessNone? specialOf
 repeat (first |with_reducible refine wpAny_call ?_ |lk)
 refine ifb (s:=⟨hh,g,d,t,os⟩) bI ?_
 repeat (first |simp only[show (Value.builtin "tuple.__iter__" ==Value.none)=false from by decide,Bool.false_eq_true,if_false] |with_reducible refine wpAny_call ?_ |lk)
 refine codeAny_call_builtin aCp aCq (check_slot aGt aCo isI (aGu _) ?_)
 show wpAny _ _ (do ret (<-newFields "tuple_iterator" [.ref a,rawInt 0])) _ _ _
 refine wpAny_bind (wpAny_newObj_type (wpAny_pure ?_))
 refine wpAny_pure (wpAny_bind (wpAny_bind (wpAny_typeOf (T:="tuple_iterator") ⟨_,Heap.get?_push_size _ rfl,rfl⟩ ?_)))
 exact wpAny_of_eq slot_tupleiter_next.lookup (wpAny_pure h)
theorem kI{prog:Program}{w:World}{A:Around}{E:Value->Shared->Prop}{s:Shared}{it t:Addr}{i:Nat}{items:Array Value}{ol:Obj}{nl:Nat}{x:Value}{Q:Option Value->Shared->Prop}(hit:IsTupIter s.heap it t i)
  (hol:s.heap.get? t=some ol) (hdl:ol.data= .seq items nl) (hx:items[i]? =some x)
  (hQ:∀ h',IsTupIter h' it t (i+1)->Heap.SameBut it s.heap h'->Q (some x) {s with heap:=h'}):wpAny (model prog w) A (pyNext (.ref it)) Q E s:=by
 refine dC (id hit) λo ho hc hd=>?_
 unfold pyNext
 refine wpAny_bind (wpAny_attempt (wpAny_callSpecial?_slot (name:=Str.ofString "__next__") hit.typeIs slot_tupleiter_next
  (wpAny_call_entry slot_tupleiter_next hit.typeIs entry_tupleiter_next ?_ (args_tupleiter_next _))))
 show wpAny _ _ (field (.ref it) 0 >>=_) _ _ s
 refine wpAny_bind (wpAny_field ho hd (x:=.ref t) rfl ?_)
 show wpAny _ _ (if (Value.ref t==Value.none)=true then _ else _) _ _ s
 rw [if_neg (show¬((Value.ref t==Value.none)=true) from Bool.false_ne_true)]
 show wpAny _ _ (field (.ref it) 1 >>=_) _ _ s
 refine wpAny_bind (wpAny_field ho hd (x:=.int i 0) rfl ?_)
 show wpAny _ _ (seqItems? (.ref t) >>=_) _ _ s
 refine wpAny_bind (wpAny_seqItems hol hdl ?_)
 simp only[Int.toNat_natCast,hx]
 refine wpAny_bind (wpAny_setField ho hd (by simp) (wpAny_pure ⟨x,rfl,wpAny_pure (hQ _ ?_ (Heap.SameBut.update ..))⟩))
 exact⟨_,Heap.get?_update_self _ ho (Obj.isFreed_of_fields (Obj.data_mapFields hd _)),(Obj.cls_mapFields ..).trans hc,by
  rw [Obj.data_mapFields hd];simp [rawInt]⟩
theorem aBr{prog:Program}{w:World}{A:Around}{E:Value->Shared->Prop}{s:Shared}{it t:Addr}{i:Nat}{items:Array Value}{ol:Obj}{nl:Nat}{Q:Option Value->Shared->Prop}(hh:A.handled=none)
  (hit:IsTupIter s.heap it t i) (hol:s.heap.get? t=some ol) (hdl:ol.data= .seq items nl) (hx:items[i]? =none)
  (hQ:∀ h',Heap.ExtBut it s.heap h'->Q none {s with heap:=h'}):wpAny (model prog w) A (pyNext (.ref it)) Q E s:=by
 refine dC (id hit) λo ho hc hd=>?_
 unfold pyNext
 refine wpAny_bind (wpAny_attempt (wpAny_callSpecial?_slot (name:=Str.ofString "__next__") hit.typeIs slot_tupleiter_next
  (wpAny_call_entry slot_tupleiter_next hit.typeIs entry_tupleiter_next ?_ (args_tupleiter_next _))))
 show wpAny _ _ (field (.ref it) 0 >>=_) _ _ s
 refine wpAny_bind (wpAny_field ho hd (x:=.ref t) rfl ?_)
 show wpAny _ _ (if (Value.ref t==Value.none)=true then _ else _) _ _ s
 rw [if_neg (show¬((Value.ref t==Value.none)=true) from Bool.false_ne_true)]
 show wpAny _ _ (field (.ref it) 1 >>=_) _ _ s
 refine wpAny_bind (wpAny_field ho hd (x:=.int i 0) rfl ?_)
 show wpAny _ _ (seqItems? (.ref t) >>=_) _ _ s
 refine wpAny_bind (wpAny_seqItems hol hdl ?_)
 simp only[Int.toNat_natCast,hx]
 refine wpAny_bind (wpAny_rule (wpAny_bind (wpAny_setField ho hd (by simp) ?_)))
 show wpAny _ _ (newExc (.type "StopIteration") [] >>=_) _ _ _
 refine wpAny_bind ?_
 simp only[newExc,newTuple]
 refine wpAny_bind (wpAny_newObj_type ?_ (by size_fits))
 refine wpAny_bind (m:=firstArgMember _ _) (wpAny_of_eq (a:=Value.none) (by first |rfl | (simp only[firstArgMember];rfl)) ?_)
 refine wpAny_newObj_type ?_ (by size_fits)
 simp only[raiseNew]
 refine wpAny_bind (wpAny_handled ?_)
 first |rw [show A.in1.handled=none from hh] |rw [hh]
 refine wpAny_bind (wpAny_pure (wpAny_throw ?_))
 refine wpAny_bind (wpAny_isInstance (T:="StopIteration") (b:=true) ⟨_,Heap.get?_push_size _ rfl,rfl⟩ isSubtype_stop ?_)
 exact wpAny_pure (hQ _ (((Heap.SameBut.update ..).extBut.push _).push _))
theorem xC{K:Frag}(hK:KMx C K){A:Around}{E:Value->Shared->Prop}{s:Shared}{a:Addr}{x y z:Value}{n:Nat}{dd:Option Addr}{targets:List (Bool×(Value->Sem Unit))}{Q:Unit->Shared->Prop}(hh:A.handled=none)(X:K.In s.heap)
  (hx:s.heap.get? a=some {cls:=.ref aE,dict:=dd,data:=.seq #[x,y,z] n}) (hn:targets.length=3) (hstar:targets.findIdx? (·.1)=none)
  (h:∀ h',(∀ b o,s.heap.get? b=some o->h'.get? b=some o)->wpAny C.M A (assignInOrder (targets.map (·.2)) [x,y,z]) Q E {s with heap:=h'}):wpAny C.M A (unpack (.ref a) targets) Q E s:=by
 unfold unpack
 rw [hn,hstar]
 refine wpAny_bind (wpAny_holding ?_)
 unfold unpackItems
 have tx:Looks C.M s.heap (typeOf (.ref a)) (.ref aE):=(Looks.ld hx).andThen .now
 have L1:=looks_findIn (M:=C.M) X hK.iter
 refine wpAny_bind ?_
 unfold notIterableAtAll specialOf
 refine wpAny_bind (wpAny_bind (tx.here (L1.here ?_)))
 refine wpAny_pure ?_
 simp only[Bool.false_eq_true,if_false]
 refine wpAny_bind (wpAny_holding (xP hK X hx ?_))
 have hne:a≠s.heap.objs.size:=Nat.ne_of_lt (Heap.lt_size hx)
 have hit0:IsTupIter (s.heap.push {cls:=.type "tuple_iterator",data:=.fields #[.ref a,.int 0 0]}) s.heap.objs.size a 0:=⟨_,Heap.get?_push_size _ rfl,rfl,rfl⟩
 have hx0:=Heap.get?_push_of_some {cls:=.type "tuple_iterator",data:=.fields #[.ref a,.int 0 0]} hx
 refine wpAny_bind (wpAny_holding ?_)
 show wpAny _ _ (pyNext _ >>=_) _ _ _
 refine wpAny_bind (kI (s:= {s with heap:=s.heap.push {cls:=.type "tuple_iterator",data:=.fields #[.ref a,.int 0 0]}}) hit0 hx0 rfl (x:=x) rfl λh1 hit1 hs1=>?_)
 have hx1:=hs1.extBut a _ hne hx0
 refine wpAny_bind (wpAny_holding ?_)
 show wpAny _ _ (pyNext _ >>=_) _ _ _
 refine wpAny_bind (kI (s:= {s with heap:=h1}) hit1 hx1 rfl (x:=y) rfl λh2 hit2 hs2=>?_)
 have hx2:=hs2.extBut a _ hne hx1
 refine wpAny_bind (wpAny_holding ?_)
 show wpAny _ _ (pyNext _ >>=_) _ _ _
 refine wpAny_bind (kI (s:= {s with heap:=h2}) hit2 hx2 rfl (x:=z) rfl λh3 hit3 hs3=>?_)
 have hx3:=hs3.extBut a _ hne hx2
 refine wpAny_bind (wpAny_holding ?_)
 show wpAny _ _ (pure []) _ _ _
 refine wpAny_pure (wpAny_pure (wpAny_pure (wpAny_pure ?_)))
 rw [if_neg (by simp)]
 refine wpAny_bind (wpAny_holding (aBr (s:= {s with heap:=h3}) hh hit3 hx3 rfl rfl λh4 he4=>?_))
 simp only[Option.isSome_none,Bool.false_eq_true,if_false]
 refine wpAny_pure (h h4 λb o e=>?_)
 have hb:b≠s.heap.objs.size:=Nat.ne_of_lt (Heap.lt_size e)
 exact he4 b o hb (hs3.extBut b o hb (hs2.extBut b o hb (hs1.extBut b o hb (Heap.get?_push_of_some _ e))))
noncomputable def V.mt:V->Option (Int×Int×Int) | .mat i j k=>some (i,j,k) |_=>Option.none
theorem mt_ok{v:V}{p:Int×Int×Int}(e:v.mt=some p):v= .mat p.1 p.2.1 p.2.2:=by
 cases v with
 |mat=>cases e;rfl
 |_=>first |exact aQ e |cases e
noncomputable def cU(n:Nat)(g:AFs):AF:=λv lo H Q=>match v.mt with
 |some p=>n=3/\g [.int p.1,.int p.2.1,.int p.2.2] lo H Q
 |none=>yZ n g v lo H Q
theorem AV.tupleM{K:Frag}(hK:KMx C K){ts:List Expr}{k:Nat}{pos}{n:Nat}{g:AFs}(h:AVs C r env ts g)(hn:(assignEach ts env).length=n:=by exact rfl)(hstar:(assignEach ts env).findIdx? (·.1)=none:=by rfl'):AV C r env (.Tuple ts k pos) (cU n g):=by
 intro A s ρ H lo u v Q hr S F rv e
 unfold cU at e
 split at e
 ·rename_i p hp
  obtain⟨h3,e⟩:=e
  subst h3
  obtain⟨a,n,t1,t2,t3,dd,rfl,hx⟩:=rv.toMat (mt_ok hp)
  rw [assign_Tuple]
  refine wpAny_bind (wpAny_standAt (xC hK hr.1 (hK.toK.mem.keeps S.keep) hx hn hstar λh' hk=>?_))
  exact wmN (h hr (S.extS hk) (F.nx (.ext (k:=s.toks) hk)) (.cons (.int _ _) (.cons (.int _ _) (.cons (.int _ _) .nil))) e) λ_ _ p=>p.from (Nx.ext (k:=s.toks) hk)
 ·exact AVW.tuple h hn hstar hr S F rv e
noncomputable def cG:CF:=λvs H Q=>match (one vs).bind V.mt with
 |some _=>Q (.int 3) H
 |none=>cLen vs H Q
end
section
variable {C:Cx}{r:Nat}{env:Env}
set_option maxHeartbeats 1000000 in
theorem uO{K:Frag}(hK:KMx C K){A:Around}{E:Value->Shared->Prop}{s:Shared}{a:Addr}{xs:Array Value}{n:Nat}{dd:Option Addr}{Q:Value->Shared->Prop}(X:K.In s.heap)(hx:s.heap.get? a=some {cls:=.ref aE,dict:=dd,data:=.seq xs n})(hfit:(xs.size:Int)<2 ^ 63)
  (h:Q (.int xs.size (s.toks+1)) {s with toks:=s.toks+1+1}):wpAny C.M A (call (.builtin "len") [.ref a]) Q E s:=by
 refine call_function_entry kind_len plain_len entry_len (args_len1 _) ?_
 unfold Builtin.«len»
 refine wpAny_bind (m:=oneArg "len" _) (wpAny_pure ?_)
 have tx:Looks C.M s.heap (typeOf (.ref a)) (.ref aE):=(Looks.ld hx).andThen .now
 have L1:=looks_findIn (M:=C.M) X hK.len
 have isI:Looks C.M s.heap (isInstance (.ref a) (.type "tuple")) true:=tx.andThen (looks_subIn X hK.tup)
 have bI:=Looks.of_pure (M:=C.M) (h:=s.heap) (slot_tuple_len.bind (.ref a))
 have key:∀ {A':Around}{E':Value->Shared->Prop}{Q':Option Value->Shared->Prop},Q' (some (.int xs.size s.toks)) {s with toks:=s.toks+1}->wpAny C.M A' (callSpecial? (.ref a) "__len__") Q' E' s:=by
  intro A' E' Q' hq
  unfold callSpecial? specialOf
  refine wpAny_bind (wpAny_bind (tx.here (L1.here ?_)))
  dsimp only
  refine wpAny_holding (wpAny_bind (bI.here ?_))
  refine wpAny_bind (wpAny_call ?_)
  refine codeAny_call_builtin aCm aCn (check_slot aGr aCl isI (aGs _) ?_)
  show wpAny _ _ (do let ts<-Builtin.Tuple.tupleItemsOf (.ref a);retInt ts.size) _ _ s
  unfold Builtin.Tuple.tupleItemsOf
  refine wpAny_bind (wpAny_bind (wpAny_seqItems hx rfl (wpAny_pure (wpAny_bind (wpAny_mkInt (wpAny_pure (wpAny_pure hq)))))))
 refine wpAny_bind (key ?_)
 refine wpAny_bind (wpAny_holding (wpAny_pure ?_))
 refine wpAny_bind (wpAny_letGo ?_)
 rw [if_neg A14,if_neg (A45 hfit)]
 exact wpAny_bind (wpAny_mkInt (wpAny_pure ⟨_,rfl,h⟩))
theorem CV.lenM{K:Frag}(hK:KMx C K):CV C r (.builtin "len") cG:=by
 refine⟨c9,?_⟩
 intro A s ρ H us vs Q hr S rs e
 unfold cG at e
 split at e
 ·rename_i p hp
  refine xEA (Option.bind_eq_some_iff.mp hp) λv hv hp=>?_
  refine xEA (kG rs hv) λu z119 ru=>?_;subst z119
  refine kW (ru.toMat (mt_ok hp)) λa n t1 t2 t3 dd z120 hx=>?_;subst z120
  exact uO hK (hK.toK.mem.keeps S.keep) hx (by simp) (.tok (k:=s.toks+1+1) S (.int _ _) e)
 ·exact CV.len.call hr S rs e
end
section
variable {C:Cx}{r:Nat}{env:Env}
theorem yC:typeLookup (.type "map") "__len__" =pure none:=by rw[typeLookup_type,builtinLookup_eq_fast];kernel_rfl
theorem vT:typeLookup (.type "map") "__length_hint__" =pure none:=by rw[typeLookup_type,builtinLookup_eq_fast];kernel_rfl
theorem aD7:Slot "map" "__init__" "object.__init__" :=
 .of (owner:="object") (n:="__init__") (by rw[typeLookup_type,builtinLookup_eq_fast];kernel_rfl) (by decide+kernel) (by decide+kernel) (by decide+kernel)
  (by first |exact .inl (by decide+kernel) |exact .inr (by decide+kernel)) (by rw[isSubtype_type];kernel_rfl)
theorem jC:Slot "map" "__next__" "map.__next__" :=
 .of (owner:="map") (n:="__next__") (by rw[typeLookup_type,builtinLookup_eq_fast];kernel_rfl) (by decide+kernel) (by decide+kernel) (by decide+kernel)
  (by first |exact .inl (by decide+kernel) |exact .inr (by decide+kernel)) (by rw[isSubtype_type];kernel_rfl)
theorem vU:Slot "map" "__iter__" "map.__iter__" :=
 .of (owner:="map") (n:="__iter__") (by rw[typeLookup_type,builtinLookup_eq_fast];kernel_rfl) (by decide+kernel) (by decide+kernel) (by decide+kernel)
  (by first |exact .inl (by decide+kernel) |exact .inr (by decide+kernel)) (by rw[isSubtype_type];kernel_rfl)
theorem jB:entryFor table "map.__next__" =some Builtin.«map.__next__»:=entryFor_of_tree ⋯
theorem jZ(a:Value):argsOk "map.__next__" ⟨[a],[]⟩:=by unfold argsOk;kernel_rfl
theorem pU:entryFor table "map.__iter__" =some Builtin.«dict_keyiterator.__iter__»:=
 entryFor_alias (id':="dict_keyiterator.__iter__") (by rw[fastTable_eq_tree];kernel_rfl) (by first |rfl |decide+kernel) (by decide+kernel) (by rw[fastTable_eq_tree];kernel_rfl)
theorem rX(a:Value):argsOk "map.__iter__" ⟨[a],[]⟩:=by unfold argsOk;kernel_rfl
theorem zT:mroOf (.type "map")=pure [.type "map",.type "object"]:=by rw[mroOf_type];kernel_rfl
theorem aD6:typeLookup (.type "map") "__new__" =pure (some (.builtin "map.__new__")):=by rw[typeLookup_type,builtinLookup_eq_fast];kernel_rfl
theorem yD:TypeCalled "map" "map.__new__" "object.__init__" :=
 ⟨by decide+kernel,by decide+kernel,⟨_,_,zT⟩,madeBy_type zT aD6 (by decide+kernel),by decide+kernel,by rw[isSubtype_type];kernel_rfl,aD7⟩
theorem aBv(a b:Value):checkTypeCall "map" ⟨[a,b],[]⟩=pure ():=by rfl'
theorem aBw(a b:Value):checkBuiltinCall "map.__new__" ⟨[.type "map",a,b],[]⟩=pure ():=by rfl'
theorem rW:entryFor table "map.__new__" =some Builtin.«map.__new__»:=entryFor_of_tree ⋯
theorem aHu:isSubtype (.type "map") (.type "map")=pure true:=by rw[isSubtype_type];kernel_rfl
end
section
variable {C:Cx}{r:Nat}{env:Env}
noncomputable abbrev aD9(h:Heap)(l:Addr):Heap:=h.push {cls:=.type "list_iterator",data:=.fields #[.ref l,.int 0 0]}
noncomputable abbrev zU(h:Heap)(l:Addr):Heap:=(aD9 h l).push {cls:=.type "tuple",data:=.seq #[.ref h.objs.size]}
noncomputable abbrev aD8(h:Heap)(f:Value)(l:Addr):Heap:=(zU h l).push {cls:=.type "map",data:=.fields #[.ref (aD9 h l).objs.size,f]}
theorem rV(f:Value)(l:Addr)(xs:Array Value):
  Meets (Builtin.«map.__new__» ⟨[.type "map",f,.ref l],[]⟩) (λ_ R s=>s.heap.IsList l xs/\R (.ok (.ret (.ref (zU s.heap l).objs.size))) {s with heap:=aD8 s.heap f l}):=
 .of_wp λprog w A R s h=>by
  obtain⟨hp,g,d,tk,os⟩:=s;refine xA h λhl1 h=>?_
  have hsub:=aHu
  have hL1:Heap.IsList (Shared.heap ⟨hp,g,d,tk,os⟩) l xs:=hl1
  wp_walk using wpAny_pyIter_list hL1
  exact⟨_,rfl,h⟩
theorem aF7{prog:Program}{w:World}{A:Around}{E:Value->Shared->Prop}{s:Shared}{f:Value}{l:Addr}{xs:Array Value}{Q:Value->Shared->Prop}(hl:s.heap.IsList l xs)
  (h:Q (.ref (zU s.heap l).objs.size) {s with heap:=aD8 s.heap f l}):wpAny (model prog w) A (call (.type "map") [f,.ref l]) Q E s:=by
 refine callType_new yD (by decide) (aBv _ _) (aBw _ _) (λobj=>PySem.F.args_object_init_3 obj _ _) rW (rV f l xs) ⟨hl,?_⟩
 exact⟨⟨_,Heap.get?_push_size _ rfl,rfl⟩,h⟩
theorem kJ{prog:Program}{w:World}{A:Around}{E:Value->Shared->Prop}{s:Shared}{it l:Addr}{i:Nat}{items:Array Value}{x:Value}{Q:Option Value->Shared->Prop}(hit:s.heap.IsListIter it l i)
  (hl:s.heap.IsList l items) (hx:items[i]? =some x)
  (hQ:∀ h',h'.IsListIter it l (i+1)->Heap.SameBut it s.heap h'->Q (some x) {s with heap:=h'}):wpAny (model prog w) A (callSpecial? (.ref it) "__next__") Q E s:=by
 refine dC (id hit) λo ho hc hd=>?_
 refine y5 hl λol hol _ nl hdl=>?_
 refine wpAny_callSpecial?_slot (name:=Str.ofString "__next__") hit.typeIs slot_listiter_next
  (wpAny_call_entry slot_listiter_next hit.typeIs entry_listiter_next ?_ (args_listiter_next _))
 show wpAny _ _ (field (.ref it) 0 >>=_) _ _ s
 refine wpAny_bind (wpAny_field ho hd (x:=.ref l) rfl ?_)
 show wpAny _ _ (if (Value.ref l==Value.none)=true then _ else _) _ _ s
 rw [if_neg (show¬((Value.ref l==Value.none)=true) from Bool.false_ne_true)]
 show wpAny _ _ (field (.ref it) 1 >>=_) _ _ s
 refine wpAny_bind (wpAny_field ho hd (x:=.int i 0) rfl ?_)
 show wpAny _ _ (seqItems? (.ref l) >>=_) _ _ s
 refine wpAny_bind (wpAny_seqItems hol hdl ?_)
 simp only[Int.toNat_natCast,hx]
 refine wpAny_bind (wpAny_setField ho hd (by simp) (wpAny_pure ⟨x,rfl,hQ _ ?_ (Heap.SameBut.update ..)⟩))
 exact⟨_,Heap.get?_update_self _ ho (Obj.isFreed_of_fields (Obj.data_mapFields hd _)),(Obj.cls_mapFields ..).trans hc,by
  rw [Obj.data_mapFields hd];simp [rawInt]⟩
theorem lE{prog:Program}{w:World}{A:Around}{E:Value->Shared->Prop}{s:Shared}{it l:Addr}{i:Nat}{items:Array Value}{Q:Option Value->Shared->Prop}(hh:A.handled=none)
  (hit:s.heap.IsListIter it l i) (hl:s.heap.IsList l items) (hx:items[i]? =none)
  (hE:∀ h' y,(∃ o,h'.get? y=some o/\o.cls= .type "StopIteration")->Heap.ExtBut it s.heap h'->E (.ref y) {s with heap:=h'}):wpAny (model prog w) A (callSpecial? (.ref it) "__next__") Q E s:=by
 refine dC (id hit) λo ho hc hd=>?_
 refine y5 hl λol hol _ nl hdl=>?_
 refine wpAny_callSpecial?_slot (name:=Str.ofString "__next__") hit.typeIs slot_listiter_next
  (wpAny_call_entry slot_listiter_next hit.typeIs entry_listiter_next ?_ (args_listiter_next _))
 show wpAny _ _ (field (.ref it) 0 >>=_) _ _ s
 refine wpAny_bind (wpAny_field ho hd (x:=.ref l) rfl ?_)
 show wpAny _ _ (if (Value.ref l==Value.none)=true then _ else _) _ _ s
 rw [if_neg (show¬((Value.ref l==Value.none)=true) from Bool.false_ne_true)]
 show wpAny _ _ (field (.ref it) 1 >>=_) _ _ s
 refine wpAny_bind (wpAny_field ho hd (x:=.int i 0) rfl ?_)
 show wpAny _ _ (seqItems? (.ref l) >>=_) _ _ s
 refine wpAny_bind (wpAny_seqItems hol hdl ?_)
 simp only[Int.toNat_natCast,hx]
 refine wpAny_bind (wpAny_rule (wpAny_bind (wpAny_setField ho hd (by simp) ?_)))
 show wpAny _ _ (newExc (.type "StopIteration") [] >>=_) _ _ _
 refine wpAny_bind ?_
 simp only[newExc,newTuple]
 refine wpAny_bind (wpAny_newObj_type ?_ (by size_fits))
 refine wpAny_bind (m:=firstArgMember _ _) (wpAny_of_eq (a:=Value.none) (by first |rfl | (simp only[firstArgMember];rfl)) ?_)
 refine wpAny_newObj_type ?_ (by size_fits)
 simp only[raiseNew]
 refine wpAny_bind (wpAny_handled ?_)
 rw [show A.in1.handled=none from hh]
 refine wpAny_bind (wpAny_pure (wpAny_throw ?_))
 exact hE _ _ ⟨_,Heap.get?_push_size _ rfl,rfl⟩ (((Heap.SameBut.update ..).extBut.push _).push _)
structure w7(h:Heap)(z TI it m l:Addr)(k:Nat):Prop where
 z:h.get? z=some {cls:=.type "map",data:=.fields #[.ref TI,.ref m]}
 TI:h.get? TI=some {cls:=.type "tuple",data:=.seq #[.ref it]}
 it:h.IsListIter it l k
 m:h.get? m=some (methodObj (.ref 89) (.ref aE))
theorem aD5{prog:Program}{w:World}{A:Around}{E:Value->Shared->Prop}{s:Shared}{z TI it m l:Addr}{k:Nat}{items:Array Value}{x:Value}{Q:Option Value->Shared->Prop}(P:w7 s.heap z TI it m l k)(hzi:z≠it)(hTi:TI≠it)(hmi:m≠it)
  (hl:s.heap.IsList l items) (hx:items[k]? =some x)
  (hQ:∀ h',w7 h' z TI it m l (k+1)->Heap.SameBut it s.heap h'->codeAny (model prog w) A.in1 (.call (.ref 89) ⟨[.ref aE,x],[]⟩) (λrr s'=>match rr with | .ok (.ret v)=>Q (some v) s' |_=>False) {s with heap:=h'}):
  wpAny (model prog w) A (pyNext (.ref z)) Q E s:=by
 have hT:s.TypeIs (.ref z) "map" :=⟨_,P.z,rfl⟩
 unfold pyNext
 refine wpAny_bind (wpAny_attempt (wpAny_callSpecial?_slot (name:=Str.ofString "__next__") hT jC (wpAny_call_entry jC hT jB ?_ (jZ _))))
 unfold Builtin.«map.__next__»
 refine wpAny_bind (m:=slotArgs "__next__" 0 _) (wpAny_pure ?_)
 refine wpAny_bind (wpAny_field P.z rfl (x:=.ref TI) rfl ?_)
 refine wpAny_bind (wpAny_seqItems P.TI rfl ?_)
 dsimp only
 rw [<-Array.forIn_toList]
 show wpAny _ _ (forIn [Value.ref it] #[] _ >>=_) _ _ s
 rw [List.forIn_cons]
 refine wpAny_bind (wpAny_bind (wpAny_bind (wpAny_holding ?_)))
 unfold Builtin.SmallTypes.nextOf
 refine wpAny_bind (kJ P.it hl hx λh1 hit1 hs1=>?_)
 refine wpAny_pure (wpAny_pure ?_)
 dsimp only
 rw [List.forIn_nil]
 refine wpAny_pure ?_
 have P1:w7 h1 z TI it m l (k+1):=⟨hs1.extBut z _ hzi P.z,hs1.extBut TI _ hTi P.TI,hit1,hs1.extBut m _ hmi P.m⟩
 refine wpAny_bind (wpAny_field (s:= {s with heap:=h1}) P1.z rfl (x:=.ref m) rfl ?_)
 refine wpAny_bind (wpAny_holding (wpAny_call (method_call (s:= {s with heap:=h1}) P1.m ?_)))
 refine codeAny_mono (hQ h1 P1 hs1) ?_
 intro rr s' hr
 cases rr with
 |error e=>exact hr.elim
 |ok f=>
  cases f with
  |ret v=>exact wpAny_bind (wpAny_letGo (wpAny_pure ⟨v,rfl,wpAny_pure hr⟩))
  |_=>exact hr.elim
theorem aHv{prog:Program}{w:World}{A:Around}{E:Value->Shared->Prop}{s:Shared}{z TI it m l:Addr}{k:Nat}{items:Array Value}{Q:Option Value->Shared->Prop}(hh:A.handled=none)(P:w7 s.heap z TI it m l k)
  (hl:s.heap.IsList l items) (hx:items[k]? =none) (hQ:∀ h',Heap.ExtBut it s.heap h'->Q none {s with heap:=h'}):wpAny (model prog w) A (pyNext (.ref z)) Q E s:=by
 have hT:s.TypeIs (.ref z) "map" :=⟨_,P.z,rfl⟩
 unfold pyNext
 refine wpAny_bind (wpAny_attempt (wpAny_callSpecial?_slot (name:=Str.ofString "__next__") hT jC (wpAny_call_entry jC hT jB ?_ (jZ _))))
 unfold Builtin.«map.__next__»
 refine wpAny_bind (m:=slotArgs "__next__" 0 _) (wpAny_pure ?_)
 refine wpAny_bind (wpAny_field P.z rfl (x:=.ref TI) rfl ?_)
 refine wpAny_bind (wpAny_seqItems P.TI rfl ?_)
 dsimp only
 rw [<-Array.forIn_toList]
 show wpAny _ _ (forIn [Value.ref it] #[] _ >>=_) _ _ s
 rw [List.forIn_cons]
 refine wpAny_bind (wpAny_bind (wpAny_bind (wpAny_holding ?_)))
 unfold Builtin.SmallTypes.nextOf
 refine wpAny_bind (lE hh P.it hl hx λh1 y hy he=>?_)
 refine xEA hy λo ho hc=>?_
 refine wpAny_bind (wpAny_isInstance (T:="StopIteration") (b:=true) ⟨o,ho,hc⟩ isSubtype_stop ?_)
 exact wpAny_pure (hQ h1 he)
theorem Ti_eq{v:V}{i:Int}(e:Ti v=some i):v= .int i:=by
 cases v with
 |int=>cases e;rfl
 |_=>first |exact aQ e |cases e
theorem aGf:∀ {vs:List V}{is:List Int},Tis vs=some is->vs=is.map .int
 | [],_,e=>by cases e;rfl
 |v :: vs,is,e=>by
  simp only[Tis,List.mapM_cons,Option.bind_eq_bind,Option.bind_eq_some_iff,Option.pure_def,Option.some.injEq]at e
  refine aB8 e λi h1 js h2 z121=>?_;clear e;subst z121
  rw [Ti_eq h1,aGf h2];rfl
noncomputable def t3(v:V):Option (Int×Int×Int):=(v.tp.bind Tis).bind i3
theorem t3_eq{v:V}{p:Int×Int×Int}(e:t3 v=some p):v= .tup [.int p.1,.int p.2.1,.int p.2.2]:=by
 refine xEA (Option.bind_eq_some_iff.mp e) λl h1 h2=>?_
 refine xEA (Option.bind_eq_some_iff.mp h1) λws h3 h4=>?_
 obtain rfl:=i3_ok h2
 obtain rfl:=aGf h4
 cases v with
 |tup=>cases h3;rfl
 |_=>cases h3
noncomputable def qX(C:Cx)(r:Nat):Prop:=∀ {A:Around}{s:Shared}{ρ:List Lc}{H:MH}{a:Value}{i j k:Int},Room r A->Sim C H ρ s->VR ρ s.heap a (.tup [.int i,.int j,.int k])->
 codeAny C.M A (.call (.ref 89) ⟨[.ref aE,a],[]⟩) (uT C ρ s λv H'=>v= .mat i j k/\H'=H) s
inductive MpR(ρ:List Lc)(h:Heap)(σ:Nat×Nat):Value->(Addr->Prop)->Prop
 |mk {z TI it m l} (h1:ρ[σ.1]? =some l) (n1:z≠it) (n2:TI≠it) (n3:m≠it) (P:w7 h z TI it m l.a σ.2):MpR ρ h σ (.ref z) (λb=>b=z∨b=it∨b=m)
theorem MpR.mono{ρ ρ':List Lc}{h h':Heap}{σ:Nat×Nat}{x:Value}{X:Addr->Prop}(R:MpR ρ h σ x X)(e:ρ<+:ρ')(i:Imm h h')(hk:∀ b o,X b->h.get? b=some o->h'.get? b=some o):MpR ρ' h' σ x X:=by
 cases R with
 |mk h1 n1 n2 n3 P=>
  obtain⟨p1,p2,⟨o,p3,p3'⟩,p4⟩:=P
  exact .mk (aO e h1) n1 n2 n3 ⟨hk _ _ (.inl rfl) p1,i _ _ p2 (by simp [aW]),⟨o,hk _ _ (.inr (.inl rfl)) p3,p3'⟩,hk _ _ (.inr (.inr rfl)) p4⟩
theorem NxI.thenN{ρ ρ1 ρ2:List Lc}{X:Addr->Prop}{s s1 s2:Shared}(I:NxI ρ X s ρ1 s1)(N:Nx ρ1 noW s1 ρ2 s2)(hX:∀ b,X b->(∃ o,s.heap.get? b=some o)->∃ o,s1.heap.get? b=some o):NxI ρ X s ρ2 s2:=by
 refine⟨I.pre.trans N.pre,λl hl=>?_,λb o e ho hx=>N.kp b o (I.kp b o e ho hx) (I.owns e ho) id,I.imm.trans N.imm,λb o e hx=>let ⟨o',e'⟩:=I.al b o e hx;N.al b o' e'⟩
 refine xE I.pre λt z122=>?_;subst z122
 refine xE N.pre λt' z123=>?_;subst z123
 rw [List.append_assoc,List.drop_left]at hl
 have fr:∀ b,s1.heap.get? b=none->s.heap.get? b=none:=λb hb=>by
  cases e:s.heap.get? b with
  |none=>rfl
  |some o=>
   have:∃ o',s1.heap.get? b=some o':=Classical.byCases (λq:X b=>hX b q ⟨o,e⟩) λq=>I.al b o e q
   refine xE this λo' e'=>?_
   rw [hb]at e';cases e'
 refine Or.elim (List.mem_append.mp hl) (λq=>?_) λq=>?_
 ·exact I.new l (by simpa using q)
 ·have n:=N.new l (by simpa using q)
  exact⟨fr _ n.1,fr _ n.2⟩
noncomputable def v0(C:Cx)(r0:Nat)(hm:qX C r0):ItK C where
 σ:=Nat×Nat
 nx:=λit H Q=>Lf (lst H (.ref it.1)) λvs=>match vs[it.2]? with
  |none=>Q none H
  |some v=>Lf (t3 v) λp=>Q (some (.mat p.1 p.2.1 p.2.2,(it.1,it.2+1))) H
 rel:=λρ s σ x X=>MpR ρ s.heap σ x X
 mid:=λρ s σ u x X=>MpR ρ s.heap σ x X
 tg:=λ_=>True
 need:=r0+1
 mono:=λR e i hk=>R.mono e i hk
 alive:=λR b hb=>by
  cases R with
  |mk h1 n1 n2 n3 P=>
   obtain⟨p1,p2,⟨o,p3,p3'⟩,p4⟩:=P
   rcases hb with rfl |rfl |rfl
   ·exact⟨_,p1⟩
   ·exact⟨_,p3⟩
   ·exact⟨_,p4⟩
 next:=λ{A s ρ H σ x X Q r} hnd hr S R hX q=>by
  have hr':Room r0 A.in1:=by
   refine xAA hr λa b c=>?_
   exact⟨a,by show A.depth+10*r0<=700;exact A46 hnd b,by show A.units+1+40*r0<=8000;exact A47 hnd c⟩
  refine q.elim λvs hl q=>?_
  cases R with
  |mk h1 n1 n2 n3 P=>
  rename_i z TI it m l
  refine b8 (cZ S (.ref h1) hl) λad xs q1 q2 q3=>?_
  cases q1
  refine dC P.it λoi hoi hci hdi=>?_
  have hi:∀ o,s.heap.get? it=some o->¬aW o:=λo' e'=>by rw[hoi]at e';cases e';exact tU hci hdi
  have hXi:=hX it (.inr (.inl rfl))
  cases hv:vs[σ.2]? with
  |some v=>
   rw [hv]at q
   refine Lf.elim (o:=t3 v) q λp hp q=>?_
   refine xEA (q3.get hv) λu hu ru=>?_
   rw [t3_eq hp]at ru
   refine aD5 P n1 n2 n3 q2 (by simpa using hu) λh' P' hs=>?_
   have st:=S.iterStep (h':=h') (a:=it) (λb o hb e=>(hs.2 b hb).trans e) hi hXi.1 hXi.2
   refine uT.run (hm hr' st.1 (ru.mono (List.prefix_refl _) st.2.imm)) λS2 N2 r2 q2=>?_
   refine xA q2 λqv z124=>?_;clear q2;subst z124
   have kp:∀ b o,(b=z∨b=it∨b=m)->h'.get? b=some o->_:=λb o hb eb=>N2.kp b o eb (hX b hb).1 (λq=>q)
   have I2:=st.2.thenN N2 λb hb _=>by rw[show b=it from hb];refine xEA P'.it λo e _=>?_;exact⟨o,e⟩
   refine .item (it':=(σ.1,σ.2+1)) S2 ⟨I2.pre,I2.new,λb o e ho hb=>I2.kp b o e ho λq=>hb (.inr (.inl q)),I2.imm,λb o e hb=>I2.al b o e λq=>hb (.inr (.inl q))⟩ r2 ?_ (by rw[qv];exact q)
   refine xEA P'.it λoi' e1' e2'=>?_
   exact .mk (aO N2.pre h1) n1 n2 n3 ⟨kp z _ (.inl rfl) P'.z,N2.imm _ _ P'.TI (by simp [aW]),⟨oi',kp it _ (.inr (.inl rfl)) e1',e2'⟩,kp m _ (.inr (.inr rfl)) P'.m⟩
  |none=>
   rw [hv]at q
   refine aHv hr.1 P q2 (Array.getElem?_eq_none (by rw[q3.sz];exact List.getElem?_eq_none_iff.mp hv)) λh' he=>?_
   have st:=S.iterStep (h':=h') (a:=it) (λb o hb e=>he b o hb e) hi hXi.1 hXi.2
   exact .done st.1 ⟨st.2.pre,st.2.new,λb o e ho hb=>st.2.kp b o e ho (λq=>hb (.inr (.inl q))),st.2.imm,λb o e hb=>st.2.al b o e (λq=>hb (.inr (.inl q)))⟩ q
 lgo:=λ{A s ρ H σ x X u target r} hr S R _ hX=>by
  have R':=R
  cases R with
  |mk h1 n1 n2 n3 P=>exact jU (T:="map") P.z rfl (by decide) ⟨S,.refl,R'⟩
end
section
variable {C:Cx}{r:Nat}{env:Env}
theorem xQ{prog:Program}{w:World}{A:Around}{E:Value->Shared->Prop}{s:Shared}{z:Addr}{Q:Value->Shared->Prop}(hT:s.TypeIs (.ref z) "map")(h:Q (.ref z) s):wpAny (model prog w) A (pyIter (.ref z)) Q E s:=by
 refine wpAny_pyIter_slot hT vU (wpAny_call_entry vU hT pU ?_ (rX _))
 show wpAny _ _ (ret (.ref z)) _ _ s
 exact wpAny_pure ⟨_,rfl,"map",_,hT,jC.lookup,h⟩
theorem aEd{r0:Nat}(hm:qX C r0){n:Nat}{A:Around}{s0 s:Shared}{ρ0 ρ:List Lc}{H:MH}{σ:Nat×Nat}{z:Addr}{X:Addr->Prop}{Q:MH->Prop}(hnd:r0+1<=r)(hr:Room (r+1) A)(N0:Nx ρ0 noW s0 ρ s)(S:Sim C H ρ s)(R:MpR ρ s.heap σ (.ref z) X)
  (hX:∀ b,X b->s0.heap.get? b=none/\¬Own ρ b/\C.base.heap.get? b=none)
  (e:dV (v0 C r0 hm) H.length n σ (H++[.list []]) Q):wpAny C.M A (call (.type "list") [.ref z]) (bZ C ρ0 s0 λv H'=>v= .ref H.length/\Q H') NoE s:=by
 have hz:∃ TI m,s.heap.get? z=some {cls:=.type "map",data:=.fields #[TI,m]}:=by
  cases R with
  |mk h1 n1 n2 n3 P=>exact⟨_,_,P.z⟩
 refine xEE hz λTI m hz=>?_
 exact sD (K:=v0 C r0 hm) (T:="map") hnd (λM=>M) (by decide) (by decide) yC vT hr N0 S R hX ⟨_,hz,rfl⟩ (λs' h q=>xQ ⟨_,h.trans hz,rfl⟩ q) e
end
section
variable {C:Cx}{r:Nat}{env:Env}
theorem tZ{K:Frag}(hK:KCx C K){A:Around}{E:Value->Shared->Prop}{s:Shared}{b:Bool}{Q:Value->Shared->Prop}(X:K.In s.heap)
  (h:Q (.ref s.heap.objs.size) {s with heap:=s.heap.push (methodObj (.ref 89) (.ref aE)),toks:=s.toks+1}):wpAny C.M A (getAttr (.ref aE) "_make" b) Q E s:=by
 refine xE hK.cmM λbb hb=>?_
 refine cls_bind X hK.readsM hK.makeM (wpAny_call (cm_get (s:= {s with toks:=s.toks+1}) X hb ?_))
 exact handed_on rfl h
theorem w5{M:Model}{A:Around}{E:Value->Shared->Prop}{s:Shared}{f:Value}{pos:Pos}{e:Expr}{es:List Expr}{Q:Args->Shared->Prop}(he:starEach (e :: es) env=(false,eval e env) :: starEach es env)
  (h:wpAny M A (spliced (backTo pos (starEach (e :: es) env))) (λvs s'=>Q ⟨vs,[]⟩ s') E s):wpAny M A (evalArgs f true (backTo pos (starEach (e :: es) env)) []) Q E s:=by
 rw [he]at h ⊢
 exact evalArgs_plain h
noncomputable def eLM(K:ItK C)(σ:Nat->K.σ)(f:EF):EF:=λlo H Q=>f lo H λa H1=>Lf a.rf λci=>(∃ vs,lst H1 (.ref ci)=some vs)/\∃ n,dV K H1.length n (σ ci) (H1++[.list []]) λH2=>Q (.ref H1.length) H2
theorem EV.listMap{K:Frag}(hK:KCx C K){r0:Nat}(hm:qX C r0)(hnd:r0+1<=r){p1 p2 p3 p4 p5 p6:Pos}{e:Expr}{f:EF}(he:EV C (r+1) env e f)
  (gl:Glo C "list" (.type "list")) (gm:Glo C "map" (.type "map")) (gM:Glo C "Match" (.ref aE)) (kl:env.kindOf "list" =some .globalImplicit) (km:env.kindOf "map" =some .globalImplicit) (kM:env.kindOf "Match" =some .globalImplicit)
  (e1:starEach [.Call (.Name "map" p2) [.Attribute (.Name "Match" p3) "_make" p4,e] [] p5] env=(false,eval (.Call (.Name "map" p2) [.Attribute (.Name "Match" p3) "_make" p4,e] [] p5) env) :: starEach [] env)
  (e2:starEach [.Attribute (.Name "Match" p3) "_make" p4,e] env=(false,eval (.Attribute (.Name "Match" p3) "_make" p4) env) :: starEach [e] env) (e3:starEach [e] env=(false,eval e env) :: starEach [] env)
  (b1:∀ pos,(backTo pos (starEach [.Call (.Name "map" p2) [.Attribute (.Name "Match" p3) "_make" p4,e] [] p5] env)).any (·.1)=false) (b2:∀ pos,(backTo pos (starEach [.Attribute (.Name "Match" p3) "_make" p4,e] env)).any (·.1)=false)
  (hab:attributeBase (.Name "Match" p3) "_make" env (eval (.Name "Match" p3) env)=eval (.Name "Match" p3) env) (hlt:∀ o y,letTemporaryGo (.Name "Match" p3) o y=pure ()):
  EV C (r+1) env (.Call (.Name "list" p1) [.Call (.Name "map" p2) [.Attribute (.Name "Match" p3) "_make" p4,e] [] p5] [] p6) (eLM (v0 C r0 hm) (λi=>(i,0)) f):=by
 intro A s ρ H lo Q hr S F q
 refine wpAny_Call_ofName (mW gl kl (by decide+kernel) S F ?_)
 refine callWith_of (P:=λh=>∀ b o,C.base.heap.get? b=some o->h.get? b=some o) (by rw[b1];rfl) d6 ?_
 refine w5 e1 (wpAny_items_cons ?_ e1)
 refine wpAny_Call_ofName (mW gm km (by decide+kernel) S F ?_)
 refine callWith_of (P:=λh=>∀ b o,C.base.heap.get? b=some o->h.get? b=some o) (by rw[b2];rfl) d6 ?_
 refine w5 e2 (wpAny_items_cons ?_ e2)
 refine dH hab (mW gM kM (by decide+kernel) S F ?_)
 refine tZ hK (hK.mem.keeps S.keep) ?_
 have N0:Nx ρ noW s ρ {s with heap:=s.heap.push (methodObj (.ref 89) (.ref aE)),toks:=s.toks+1}:=(Nx.push _).trans (.toks _)
 have hm0:(s.heap.push (methodObj (.ref 89) (.ref aE))).get? s.heap.objs.size=some (methodObj (.ref 89) (.ref aE)):=Heap.get?_push_size _ rfl
 refine wpAny_items_cons (he.run hr ((S.push (methodObj (.ref 89) (.ref aE))).toks (s.toks+1)) (F.nx N0) q λ{x s1 ρ1 v1 H1} S1 N1 r1 q=>q.elim λci hci q=>?_) e3
 refine xAE q λz125 n q=>?_;obtain⟨vs,hl⟩:=z125
 refine wpAny_items_nil ⟨S1.keep,?_⟩
 refine dC (r1.toRef hci) λlc _ z126 g=>?_;subst z126
 refine b8 (cZ S1 (.ref g) hl) λad xs ha q2 q3=>?_
 cases ha
 have hom: ¬Own ρ s.heap.objs.size:=eA S (bJ _)
 have hm1:=N1.kp _ _ hm0 hom (λq=>q)
 have kp:∀ b o,s1.heap.get? b=some o->(aD8 s1.heap (.ref s.heap.objs.size) lc.a).get? b=some o:=λb o e=>Heap.get?_push_of_some _ (Heap.get?_push_of_some _ (Heap.get?_push_of_some _ e))
 refine aF7 q2 (wpAny_items_nil ⟨λb o e=>kp b o (S1.keep b o e),?_⟩)
 have S2:=S1.extS kp
 have N01:=N0.trans N1
 have z1:(aD9 s1.heap lc.a).objs.size=s1.heap.objs.size+1:=Heap.size_push ..
 have z2:(zU s1.heap lc.a).objs.size=s1.heap.objs.size+2:=by rw[Heap.size_push,z1]
 refine wmN (aEd hm (s0:=s) (ρ0:=ρ) (σ:=(ci,0)) hnd hr (N01.trans (.ext (k:=s1.toks) kp)) S2
  (.mk g (by rw[z2];exact Nat.ne_of_gt (Nat.lt_add_of_pos_right (by decide))) (by rw[z1];exact Nat.ne_of_gt (Nat.lt_succ_self _)) (Nat.ne_of_lt (Heap.lt_size hm1))
   ⟨Heap.get?_push_size _ rfl,Heap.get?_push_of_some _ (Heap.get?_push_size _ rfl),⟨_,Heap.get?_push_of_some _ (Heap.get?_push_of_some _ (Heap.get?_push_size _ rfl)),rfl,rfl⟩,kp _ _ hm1⟩) (λb hb=>?_) q) λx s' p=>?_
 ·rcases hb with rfl |rfl |rfl
  ·exact c4 N01 S1 (by rw[z2];exact Heap.get?_none_of_le (Nat.le_add_right _ _))
  ·exact c4 N01 S1 (bJ _)
  ·exact⟨bJ _,N1.own hm0 hom,dS S (bJ _)⟩
 ·obtain⟨S',N',r',hv,q⟩:=p
  subst hv
  exact⟨S',N',r',q⟩
end
section
noncomputable def PW{α:Type}(n:Nat)(c:Nat->Nat->Bool):KasT α->(α->Prop)->Prop
 | .ret a,Q=>Q a
 | .ask i j k,Q=>i<n/\j<n/\i≠j/\PW n c (k (c i j)) Q
theorem PW.bind{α β:Type}{n:Nat}{c:Nat->Nat->Bool}{f:α->KasT β}{Q:β->Prop}:∀ {t:KasT α},PW n c t (λa=>PW n c (f a) Q)->PW n c (t.bind f) Q
 | .ret _,h=>h
 | .ask i j k,⟨h1,h2,h0,h3⟩=>⟨h1,h2,h0,PW.bind h3⟩
theorem PW.mono{α:Type}{n:Nat}{c:Nat->Nat->Bool}{Q Q':α->Prop}(hq:∀ a,Q a->Q' a):∀ {t:KasT α},PW n c t Q->PW n c t Q'
 | .ret _,h=>hq _ h
 | .ask i j k,⟨h1,h2,h0,h3⟩=>⟨h1,h2,h0,PW.mono hq h3⟩
theorem PW.wp{α:Type}{n:Nat}{c:Nat->Nat->Bool}{Q:α->Prop}{R:α->Shared->Prop}{cmp:Nat->Nat->(Bool->Shared->Prop)->Shared->Prop}{I:Shared->Prop}(hc:∀ i j D s,i<n->j<n->i≠j->I s->(∀ s',I s'->D (c i j) s')->cmp i j D s)
  (hq:∀ a s,Q a->I s->R a s):∀ {t:KasT α},PW n c t Q->∀ s,I s->t.kasWp cmp R s
 | .ret _,h,s,hs=>hq _ s h hs
 | .ask i j k,⟨h1,h2,h0,h3⟩,s,hs=>hc i j _ s h1 h2 h0 hs λs' hs'=>PW.wp hc hq h3 s' hs'
structure Ord(n:Nat)(c:Nat->Nat->Bool):Prop where
 tr:∀ x y z,c x y=true->c y z=true->c x z=true
 tot:∀ x y,x<n->y<n->x≠y->c x y=true∨c y x=true
 asy:∀ x y,c x y=true->c y x=false
noncomputable def gt(p:Array Nat)(i:Nat):Nat:=p.getD i 0
structure Pm(n:Nat)(p:Array Nat):Prop where
 pm:p.Perm (List.toArray (List.range n))
theorem Pm.tl{n:Nat}{p:Array Nat}(P:Pm n p):p.toList.Perm (List.range n):=P.pm.toList
theorem Pm.sz{n:Nat}{p:Array Nat}(P:Pm n p):p.size=n:=by
 have:=P.tl.length_eq
 rw [List.length_range]at this
 exact this
theorem Pm.at{n:Nat}{p:Array Nat}(P:Pm n p){i:Nat}(h:i<n):∃ h':i<p.toList.length,gt p i=p.toList[i]:=by
 have h':i<p.size:=P.sz.symm▸h
 refine⟨h',?_⟩
 unfold gt
 rw [Array.getD_eq_getD_getElem?,Array.getElem?_eq_getElem h'];rfl
theorem Pm.lt{n:Nat}{p:Array Nat}(P:Pm n p)(i:Nat)(h:i<n):gt p i<n:=by
 obtain⟨h',e⟩:=P.at h
 rw [e]
 exact List.mem_range.mp (P.tl.mem_iff.mp (List.getElem_mem h'))
theorem Pm.inj{n:Nat}{p:Array Nat}(P:Pm n p)(i j:Nat)(hi:i<n)(hj:j<n)(h:gt p i=gt p j):i=j:=by
 obtain⟨h1,e1⟩:=P.at hi
 obtain⟨h2,e2⟩:=P.at hj
 rw [e1,e2]at h
 exact(List.getElem_inj (P.tl.nodup_iff.mpr List.nodup_range)).mp h
noncomputable def Sd(c:Nat->Nat->Bool)(p:Array Nat)(m:Nat):Prop:=∀ i j,i<j->j<m->c (gt p i) (gt p j)=true
noncomputable def Ds(c:Nat->Nat->Bool)(p:Array Nat)(m:Nat):Prop:=∀ i j,i<j->j<m->c (gt p j) (gt p i)=true
variable {n:Nat}{c:Nat->Nat->Bool}
theorem Sd.snoc(O:Ord n c){p:Array Nat}{k:Nat}(h:Sd c p k)(h1:1<=k)(hc:c (gt p (k-1)) (gt p k)=true):Sd c p (k+1):=by
 intro i j hij hj
 rcases Nat.lt_or_ge j k with q |q
 ·exact h i j hij q
 ·obtain rfl:j=k:=A63 hj q
  rcases Nat.lt_or_ge i (j-1) with z |z
  ·exact O.tr _ _ _ (h i (j-1) z (A64 z)) hc
  ·obtain rfl:i=j-1:=A65 hij z
   exact hc
theorem Ds.snoc(O:Ord n c){p:Array Nat}{k:Nat}(h:Ds c p k)(h1:1<=k)(hc:c (gt p k) (gt p (k-1))=true):Ds c p (k+1):=by
 intro i j hij hj
 rcases Nat.lt_or_ge j k with q |q
 ·exact h i j hij q
 ·obtain rfl:j=k:=A63 hj q
  rcases Nat.lt_or_ge i (j-1) with z |z
  ·exact O.tr _ _ _ hc (h i (j-1) z (A64 z))
  ·obtain rfl:i=j-1:=A65 hij z
   exact hc
theorem other(O:Ord n c){p:Array Nat}(P:Pm n p){i j:Nat}(hi:i<n)(hj:j<n)(hij:i≠j)(h:c (gt p i) (gt p j)=false):c (gt p j) (gt p i)=true:=by
 rcases O.tot _ _ (P.lt i hi) (P.lt j hj) (λq=>hij (P.inj i j hi hj q)) with q |q
 ·rw[q]at h;cases h
 ·exact q
theorem yX(O:Ord n c){p:Array Nat}(P:Pm n p):∀ (f k:Nat),1<=k->k+f<=n->Sd c p k->PW n c (kas_asc p f k) (λm=>k<=m/\m<=k+f/\Sd c p m/\(m<k+f->c (gt p m) (gt p (m-1))=true))
 |0,k,h1,h2,h=>⟨Nat.le_refl _,Nat.le_refl _,h,λq=>absurd q (Nat.lt_irrefl _)⟩
 |f+1,k,h1,h2,h=>by
  refine⟨P.lt k (A66 h2),P.lt (k-1) (A67 h2),λq=>by have:=P.inj k (k-1) (A66 h2) (A67 h2) q;exact(A68 h1 this).elim,?_⟩
  cases hc:c (p.getD k 0) (p.getD (k-1) 0) with
  |true=>exact⟨Nat.le_refl _,A69,h,λ_=>hc⟩
  |false=>
   show PW n c (if false=true then _ else kas_asc p f (k+1)) _
   rw [if_neg (by decide)]
   exact(yX O P f (k+1) A70 (A71 h2) (h.snoc O h1 (other O P (A66 h2) (A67 h2) (A72 h1) hc))).mono λm ⟨a,b,d,e⟩=>⟨A32 a,A73 b,d,λq=>e (A74 q)⟩
theorem aAg(O:Ord n c){p:Array Nat}(P:Pm n p):∀ (f k:Nat),1<=k->k+f<=n->Ds c p k->PW n c (kas_desc f p k 0) (λr=>r.1=p/\r.2.2=0/\k<=r.2.1/\r.2.1<=k+f/\Ds c p r.2.1)
 |0,k,h1,h2,h=>⟨rfl,rfl,Nat.le_refl _,Nat.le_refl _,h⟩
 |f+1,k,h1,h2,h=>by
  refine⟨P.lt k (A66 h2),P.lt (k-1) (A67 h2),λq=>by have:=P.inj k (k-1) (A66 h2) (A67 h2) q;exact(A68 h1 this).elim,?_⟩
  cases hc:c (p.getD k 0) (p.getD (k-1) 0) with
  |true=>
   show PW n c (if true=true then(if 0>0 then _ else kas_desc f p (k+1) 0) else _) _
   rw [if_pos rfl,if_neg A75]
   exact(aAg O P f (k+1) A70 (A71 h2) (h.snoc O h1 hc)).mono λr ⟨a,b,d,e,g⟩=>⟨a,b,A32 d,A73 e,g⟩
  |false=>
   have h3:=other O P (i:=k) (j:=k-1) (A66 h2) (A67 h2) (A72 h1) hc
   show PW n c (if false=true then _ else KasT.ask (p.getD (k-1) 0) (p.getD k 0) λd=>if d=true then .ret (p,k,0) else kas_desc f p (k+1) (0+1)) _
   rw [if_neg (by decide)]
   refine⟨P.lt (k-1) (A67 h2),P.lt k (A66 h2),λq=>by have:=P.inj (k-1) k (A67 h2) (A66 h2) q;exact(A76 h1 this).elim,?_⟩
   have h3':c (p.getD (k-1) 0) (p.getD k 0)=true:=h3
   rw [h3']
   show PW n c (KasT.ret (p,k,0)) _
   exact⟨rfl,rfl,Nat.le_refl _,by show k<=k+(f+1);exact A69,h⟩
theorem v8{p q:Array Nat}{i j:Nat}(h:p[i]? =q[j]?):gt p i=gt q j:=by
 unfold gt
 rw [Array.getD_eq_getD_getElem?,Array.getD_eq_getD_getElem?,h]
theorem aE5{p:Array Nat}{m k:Nat}(hm:m<=p.size):gt (kas_rev p 0 m) k=if k<m then gt p (m-1-k) else gt p k:=by
 have h:=getElem?_mirror_all (xs:=p) (i:=0) (j:=m) hm k
 split
 ·rename_i q
  rw [if_pos ⟨Nat.zero_le _,q⟩]at h
  refine v8 (h.trans ?_)
  congr 1
  exact A77
 ·rename_i q
  rw [if_neg (λz=>q z.2)]at h
  exact v8 h
theorem Pm.rev{p:Array Nat}{m:Nat}(P:Pm n p):Pm n (kas_rev p 0 m):=⟨(mirror_perm _ _ _ _).trans P.pm⟩
theorem Ds.rev{p:Array Nat}{m:Nat}(P:Pm n p)(hm:m<=n)(h:Ds c p m):Sd c (kas_rev p 0 m) m:=by
 intro i j hij hj
 rw [aE5 (by rw[P.sz];exact hm),aE5 (by rw[P.sz];exact hm),if_pos (A53 hij hj),if_pos hj]
 exact h _ _ (A78 hij hj) (A79 hj)
theorem aF1(O:Ord n c){p:Array Nat}(P:Pm n p)(hn:1<=n):PW n c (kas_count n p) (λr=>Pm n r.2/\1<=r.1/\r.1<=n/\Sd c r.2 r.1):=by
 unfold kas_count
 refine PW.bind ((yX O P (n-1) 1 (Nat.le_refl _) (A80 hn) (λi j h1 h2=>by exact(A81 h1 h2).elim)).mono λm ⟨a,b,d,e⟩=>?_)
 split
 ·rename_i hm
  exact⟨P,a,A82 hn b,d⟩
 ·rename_i hm
  have hm':m≠n:=by simpa using hm
  split
  ·rename_i h1
   refine⟨P.lt 0 (A83 b h1),P.lt (m-1) (A84 b h1),λq=>by have:=P.inj 0 (m-1) (A83 b h1) (A84 b h1) q;exact(A85 h1 this).elim,?_⟩
   have:c (p.getD 0 0) (p.getD (m-1) 0)=true:=d 0 (m-1) (A86 h1) (A87 h1)
   rw [this]
   show PW n c (KasT.ret (m,p)) _
   exact⟨P,a,A88 b h1,d⟩
  ·rename_i h1
   obtain rfl:m=1:=A89 a h1
   have hd:Ds c p 2:=by
    intro i j h2 h3
    obtain rfl:j=1:=A90 h2 h3
    obtain rfl:i=0:=A91 h2
    exact e (A92 hn hm')
   unfold kas_descPart
   refine PW.bind ((aAg O P (n-(1+1)) 2 A93 (A94 hn hm') hd).mono λr ⟨r1,r2,r3,r4,r5⟩=>?_)
   rw [if_neg (A95 r2)]
   unfold kas_tail3
   rw [r1]
   have hrn:r.2.1<=n:=A96 hn hm' r4
   refine PW.bind ((yX O P.rev (n-r.2.1) r.2.1 (A97 r3) (A98 hrn) (r5.rev P hrn)).mono λm' ⟨a',b',d',e'⟩=>?_)
   exact⟨P.rev,by show 1<=m';exact A99 r3 a',by show m'<=n;exact A100 hrn b',d'⟩
theorem pL(O:Ord n c){p:Array Nat}(P:Pm n p){k:Nat}(hk:k<n)(hs:Sd c p k):∀ (f l r:Nat),l<=r->r<=k->r-l<=f->(∀ i,i<l->c (gt p i) (gt p k)=true)->(∀ i,r<=i->i<k->c (gt p k) (gt p i)=true)->
  PW n c (kas_place p k f l r) (λx=>x<=k/\(∀ i,i<x->c (gt p i) (gt p k)=true)/\(∀ i,x<=i->i<k->c (gt p k) (gt p i)=true))
 |0,l,r,h1,h2,h3,h4,h5=>⟨A101 h1 h2,h4,λi hi=>h5 i (A102 h3 hi)⟩
 |f+1,l,r,h1,h2,h3,h4,h5=>by
  unfold kas_place
  split
  ·exact⟨A101 h1 h2,h4,λi hi=>h5 i (by omega)⟩
  ·rename_i hlr
   refine⟨P.lt k hk,P.lt ((l+r)/2) (by omega),λq=>by have:=P.inj k ((l+r)/2) hk (by omega) q;omega,?_⟩
   cases hc:c (p.getD k 0) (p.getD ((l+r)/2) 0) with
   |true=>
    show PW n c (kas_place p k f l ((l+r)/2)) _
    refine pL O P hk hs f l ((l+r)/2) (by omega) (by omega) (by omega) h4 λi hi hik=>?_
    rcases Nat.eq_or_lt_of_le hi with q |q
    ·rw[<-q];exact hc
    ·exact O.tr _ _ _ hc (hs _ i q hik)
   |false=>
    show PW n c (kas_place p k f ((l+r)/2+1) r) _
    have h6:=other O P (i:=k) (j:=(l+r)/2) hk (by omega) (by omega) hc
    refine pL O P hk hs f ((l+r)/2+1) r (by omega) h2 (by omega) (λi hi=>?_) h5
    rcases Nat.eq_or_lt_of_le (Nat.le_of_lt_succ hi) with q |q
    ·rw[q];exact h6
    ·exact O.tr _ _ _ (hs i _ q (by omega)) h6
theorem aE6{p:Array Nat}{k l i:Nat}(hk:k<p.size)(hl:l<=k):gt (bubble p k (k-l)) i=if i=l then gt p k else if l<i/\i<=k then gt p (i-1) else gt p i:=by
 have h:=getElem?_bubble (xs:=p) (src:=k) hk (k-l) A103 i
 have e:k-(k-l)=l:=A104 hl
 rw [e]at h
 split
 ·rename_i q;rw[if_pos q]at h;exact v8 h
 ·rename_i q
  rw [if_neg q]at h
  split
  ·rename_i q2;rw[if_pos q2]at h;exact v8 h
  ·rename_i q2;rw[if_neg q2]at h;exact v8 h
theorem aGb(O:Ord n c):∀ (f:Nat){p:Array Nat} (k:Nat),Pm n p->Sd c p k->k+f=n->PW n c (kas_bin f p k) (λq=>Pm n q/\Sd c q n)
 |0,p,k,P,hs,he=>by
  obtain rfl:k=n:=A105 he
  exact⟨P,hs⟩
 |f+1,p,k,P,hs,he=>by
  unfold kas_bin
  have hk:k<n:=A106 he
  refine PW.bind ((pL O P hk hs k 0 k (Nat.zero_le _) (Nat.le_refl _) A107 (λi hi=>absurd hi (Nat.not_lt_zero _)) (λi h1 h2=>absurd h1 (A108 h2))).mono λl ⟨a,b,d⟩=>?_)
  have hks:k<p.size:=by rw[P.sz];exact hk
  refine aGb O f (k+1) ⟨(bubble_perm _ _ _).trans P.pm⟩ (λi j hij hj=>?_) (A109 he)
  ·rw[aE6 hks a,aE6 hks a]
   by_cases h1:i=l
   ·rw[if_pos h1,if_neg (A110 hij h1),if_pos (A111 hij hj h1)]
    exact d _ (A112 hij h1) (A113 hij hj)
   ·rw[if_neg h1]
    by_cases h2:l<i/\i<=k
    ·rw[if_pos h2,if_neg (A114 hij h2),if_pos (A115 hij hj h2)]
     exact hs _ _ (A116 hij h2) (A117 hj h2)
    ·rw[if_neg h2]
     by_cases h3:j=l
     ·rw[if_pos h3];exact b _ (A118 hij h3)
     ·rw[if_neg h3]
      by_cases h4:l<j/\j<=k
      ·rw[if_pos h4]
       have:i<l:=A119 hij h1 h2 h4
       exact hs _ _ (A120 h4 this) (A121 h4)
      ·rw[if_neg h4]
       exact hs _ _ hij (A122 a hj h3 h4)
theorem aGz(O:Ord n c)(hn:1<=n):PW n c (kas_sort n) (λp=>Pm n p/\Sd c p n):=by
 unfold kas_sort
 have P:Pm n (List.toArray (List.range n)):=⟨Array.Perm.refl _⟩
 refine PW.bind ((aF1 O P hn).mono λr ⟨a,b,d,e⟩=>?_)
 split
 ·rename_i h
  have hm:max r.1 1=r.1:=A123 b
  rw [hm]
  exact aGb O _ r.1 a e (A124 h)
 ·rename_i h
  have:r.1=n:=A125 d h
  rw [this]at e
  exact⟨a,e⟩
noncomputable def StSd{α:Type}(key:α->Int)(l:List α):Prop:=l.Pairwise λa b=>key a<key b
theorem r8{α:Type}{key:α->Int}:∀ {a b:List α},a.Perm b->StSd key a->StSd key b->a=b
 | [],_,p,_,_=>p.nil_eq
 |x :: r,b,p,ha,hb=>by
  cases b with
  |nil=>exact absurd p.length_eq (by simp)
  |cons y t=>
   have hx:x∈y :: t:=p.mem_iff.mp (.head _)
   have hy:y∈x :: r:=p.mem_iff.mpr (.head _)
   have e:x=y:=by
    rcases List.mem_cons.mp hx with h |h
    ·exact h
    ·rcases List.mem_cons.mp hy with h' |h'
     ·exact h'.symm
     ·have a1:=(List.pairwise_cons.mp ha).1 y h'
      have a2:=(List.pairwise_cons.mp hb).1 x h
      exact(A126 a1 a2).elim
   subst e
   rw [r8 (List.Perm.cons_inv p) (List.pairwise_cons.mp ha).2 (List.pairwise_cons.mp hb).2]
noncomputable def ins{α:Type}(key:α->Int)(x:α):List α->List α
 | []=>[x]
 |y :: r=>if key x<key y then x :: y :: r else y :: ins key x r
noncomputable def isort{α:Type}(key:α->Int):List α->List α
 | []=>[]
 |x :: r=>ins key x (isort key r)
theorem qA{α:Type}(key:α->Int)(x:α):∀ l:List α,(ins key x l).Perm (x :: l)
 | []=>.refl _
 |y :: r=>by
  unfold ins
  split
  ·exact .refl _
  ·exact((qA key x r).cons y).trans (.swap x y r)
theorem cJ{α:Type}(key:α->Int):∀ l:List α,(isort key l).Perm l
 | []=>.refl _
 |x :: r=>(qA key x _).trans ((cJ key r).cons x)
theorem aEt{α:Type}{key:α->Int}{x:α}:∀ {l:List α},StSd key l->(∀ y∈l,key y≠key x)->StSd key (ins key x l)
 | [],_,_=>List.pairwise_singleton _ _
 |y :: r,h,hn=>by
  unfold ins
  have h1:=List.pairwise_cons.mp h
  split
  ·rename_i hlt
   refine List.pairwise_cons.mpr ⟨λz hz=>?_,h⟩
   rcases List.mem_cons.mp hz with rfl |hz
   ·exact hlt
   ·have:=h1.1 z hz;exact A52 hlt this
  ·rename_i hlt
   have hne:=hn y (.head _)
   refine List.pairwise_cons.mpr ⟨λz hz=>?_,aEt h1.2 λz hz=>hn z (.tail _ hz)⟩
   rcases List.mem_cons.mp ((qA key x r).mem_iff.mp hz) with rfl |hz
   ·exact A127 hlt hne
   ·exact h1.1 z hz
theorem pY{α:Type}{key:α->Int}:∀ {l:List α},l.Pairwise (λa b=>key a≠key b)->StSd key (isort key l)
 | [],_=>.nil
 |x :: r,h=>by
  have h1:=List.pairwise_cons.mp h
  exact aEt (pY h1.2) λy hy=>(h1.1 y ((cJ key r).mem_iff.mp hy)).symm
theorem out_eq{α:Type}(d:α)(key:α->Int){vs:List α}(hd:vs.Pairwise λa b=>key a≠key b){p:Array Nat}(P:Pm vs.length p)(hs:Sd (λa b=>decide (key (vs.getD a d)<key (vs.getD b d))) p vs.length):
  p.toList.map (λi=>vs.getD i d)=isort key vs:=by
 refine r8 (key:=key) ?_ ?_ (pY hd)
 ·have h1:p.toList.Perm (List.range vs.length):=by simpa using P.pm.toList
  have h2:(List.range vs.length).map (λi=>vs.getD i d)=vs:=by
   refine List.ext_getElem (by simp) λi h1 h2=>?_
   simp at h1
   simp [h1]
  have h3:=h1.map (λi=>vs.getD i d)
  rw [h2]at h3
  exact h3.trans (cJ key vs).symm
 ·unfold StSd
  rw [List.pairwise_map,List.pairwise_iff_getElem]
  intro i j hi hj hij
  have hz:p.size=vs.length:=P.sz
  simp only[Array.length_toList]at hi hj
  have:=hs i j hij (A118 hj hz)
  have e1:gt p i=p[i]:=by unfold gt;simp [Array.getD,hi]
  have e2:gt p j=p[j]:=by unfold gt;simp [Array.getD,hj]
  rw [e1,e2]at this
  simpa using this
end
section
variable {C:Cx}{r:Nat}{env:Env}
theorem aCj:builtinKind "tuple.__lt__" =some .slot:=by decide+kernel
theorem aAs:splitId "tuple.__lt__" =some ("tuple","__lt__"):=by decide+kernel
theorem aAt:plainId "tuple.__lt__" =true:=by decide+kernel
theorem aCk(a b:Value):argsOk "tuple.__lt__" ⟨[a,b],[]⟩:=by unfold argsOk;kernel_rfl
theorem aAu:entryFor table "tuple.__lt__" =some Builtin.«tuple.__lt__»:=entryFor_of_tree ⋯
theorem aCi:Slot "tuple" "__lt__" "tuple.__lt__" :=
 .of (owner:="tuple") (n:="__lt__") (by rw[typeLookup_type,builtinLookup_eq_fast];kernel_rfl) (by decide+kernel) (by decide+kernel) (by decide+kernel)
  (by first |exact .inl (by decide+kernel) |exact .inr (by decide+kernel)) (by rw[isSubtype_type];kernel_rfl)
theorem lt_mat{K:Frag}(hK:KMx C K){A:Around}{E:Value->Shared->Prop}{s:Shared}{x y:Addr}{i j:Int}{t u:Tok}{x2 x3 y2 y3:Value}{n m:Nat}{dd de:Option Addr}{Q:Bool->Shared->Prop}(hu:A.units<cLine)(X:K.In s.heap)
  (hx:s.heap.get? x=some (tS (.int i t) x2 x3 n dd)) (hy:s.heap.get? y=some (tS (.int j u) y2 y3 m de)) (hij:i≠j) (h:Q (decide (i<j)) s):wpAny C.M A (keyLt' oneType' (.ref x) (.ref y)) Q E s:=by
 have tx:Looks C.M s.heap (typeOf (.ref x)) (.ref aE):=(Looks.ld hx).andThen .now
 have ty:Looks C.M s.heap (typeOf (.ref y)) (.ref aE):=(Looks.ld hy).andThen .now
 have L1:=looks_findIn (M:=C.M) X hK.lt
 have isX:Looks C.M s.heap (isInstance (.ref x) (.type "tuple")) true:=tx.andThen (looks_subIn X hK.tup)
 have isY:Looks C.M s.heap (isInstance (.ref y) (.type "tuple")) true:=ty.andThen (looks_subIn X hK.tup)
 have bI:=Looks.of_pure (M:=C.M) (h:=s.heap) (aCi.bind (.ref x))
 rw [keyLt'_oneType,oneLt'_eq]
 simp only[if_true]
 refine wpAny_bind (wpAny_cRoomFor hu ?_)
 have fin:wpAny C.M A (call (.builtin "tuple.__lt__") [.ref x,.ref y]) (λv s'=>v= .bool (decide (i<j))/\s'=s) E s:=by
  refine wpAny_call (codeAny_call_builtin aAt aAu (check_slot aCj aAs isX (aCk _ _) ?_))
  show wpAny _ _ (do
   if !(<-isInstance (.ref y) (.type "tuple")) then return<-ret .notImplemented
   let xs<-Builtin.Tuple.tupleItemsOf (.ref x)
   let ys<-Builtin.Tuple.tupleItemsOf (.ref y)
   for (x,y) in xs.toList.zip ys.toList do
    if !(<-eqBool x y) then
     rule "tuple.compare.by-the-first-pair-that-differs";return<-ret (<-richCompare .Lt x y)
   ret (Builtin.Tuple.tupleCompareSizes .Lt xs.size ys.size)) _ _ s
  refine wpAny_bind (isY.here ?_)
  rw [if_neg (by decide)]
  unfold Builtin.Tuple.tupleItemsOf
  refine wpAny_bind (wpAny_bind (wpAny_seqItems hx rfl (wpAny_pure (wpAny_bind (wpAny_bind (wpAny_seqItems hy rfl (wpAny_pure ?_)))))))
  show wpAny _ _ (forIn [(Value.int i t,Value.int j u),(x2,y2),(x3,y3)] _ _ >>=_) _ _ s
  rw [List.forIn_cons]
  refine wpAny_bind (wpAny_bind (wpAny_bind (wpAny_eqBool_int ?_)))
  rw [if_pos (by simpa using hij)]
  refine wpAny_bind (wpAny_rule (wpAny_bind ?_))
  show wpAny _ _ (compareOp .Lt (.int i t) (.int j u)) _ _ s
  refine lt_int ?_
  exact wpAny_bind (wpAny_pure (wpAny_pure (wpAny_pure (wpAny_pure ⟨rfl,rfl⟩))))
 refine wpAny_bind ?_
 simp only[callSpecialIfBound?,bindSpecialIfBound?]
 refine wpAny_holding (wpAny_bind (wpAny_bind (wpAny_bind (tx.here (L1.here ?_)))))
 refine wpAny_bind (wpAny_askSetting ?_)
 refine ifb bI ?_
 refine wpAny_bind (wpAny_mono fin ?_ λ_ _ z=>z)
 rintro v s' ⟨rfl,rfl⟩
 refine wpAny_pure ?_
 exact wpAny_truthy_bool h
end
section
variable {C:Cx}{r:Nat}{env:Env}
noncomputable def dN:V->Int | .mat i _ _=>i |_=>0
noncomputable def zV:V->Bool | .mat _ _ _=>true |_=>false
noncomputable def okSort(vs:List V):Prop:=(∀ v∈vs,zV v=true)/\(vs.Pairwise λa b=>dN a≠dN b)/\vs.length<64
theorem VRs.map_getD{ρ:List Lc}{h:Heap}{us:List Value}{vs:List V}(rs:VRs ρ h us vs):∀ idx:List Nat,(∀ i∈idx,i<us.length)->VRs ρ h (idx.map λi=>us.getD i Value.none) (idx.map λi=>vs.getD i V.none)
 | [],_=>.nil
 |i :: idx,hi=>by
  have hlt:=hi i (.head _)
  have hlt':i<vs.length:=by rw[<-rs.length];exact hlt
  refine xEA (rs.get (i:=i) (v:=vs[i]) (List.getElem?_eq_getElem hlt')) λu hu ru=>?_
  refine .cons ?_ (VRs.map_getD rs idx λj hj=>hi j (.tail _ hj))
  have e1:us.getD i Value.none=u:=by rw[List.getD_eq_getElem?_getD,hu];rfl
  have e2:vs.getD i V.none=vs[i]:=by rw[List.getD_eq_getElem?_getD,List.getElem?_eq_getElem hlt'];rfl
  show VR ρ h (us.getD i Value.none) (vs.getD i V.none)
  rw [e1,e2];exact ru
theorem v6{α:Type}{kf:α->Int}:∀ {vs:List α},vs.length<2->isort kf vs=vs
 | [],_=>rfl
 | [v],_=>rfl
 |_ :: _ :: t,h=>absurd h (Nat.not_lt.mpr (Nat.le_add_left 2 t.length))
theorem aB6(xs:Array Value):(arrOf (SortSt.mk' general' (xs.zip xs) #[] 7 none)).map (·.2)=xs:=by
 show(xs.zip xs).map (·.2)=xs
 apply Array.toList_inj.mp
 rw [Array.toList_map,Array.toList_zip]
 exact List.map_snd_zip (Nat.le_refl _)
inductive MatQ(h:Heap):Value->Int->Prop
 |mk {a:Addr}{i:Int}{t:Tok}{x2 x3:Value}{n:Nat}{dd:Option Addr} (g:h.get? a=some (tS (.int i t) x2 x3 n dd)):MatQ h (.ref a) i
theorem mat_q{ρ:List Lc}{h:Heap}{u:Value}{v:V}(r:VR ρ h u v)(hm:zV v=true):MatQ h u (dN v):=by
 have r:=r.inv
 cases v with
 |mat i j k=>
  obtain⟨a,n,t,u',w,dd,rfl,g⟩:=r
  exact .mk g
 |_=>exact absurd hm Bool.false_ne_true
theorem yB{ρ:List Lc}{h:Heap}{us:List Value}{vs:List V}(rs:VRs ρ h us vs)(hm:∀ v∈vs,zV v=true){q:Nat}(hq:q<vs.length):MatQ h (us.getD q Value.none) (dN (vs.getD q V.none)):=by
 refine xEA (rs.get (List.getElem?_eq_getElem hq)) λu hu ru=>?_
 have m:=mat_q ru (hm vs[q] (List.getElem_mem hq))
 rw [List.getD_eq_getElem?_getD,hu,List.getD_eq_getElem?_getD,List.getElem?_eq_getElem hq];exact m
theorem aBu{C:Cx}{h:Heap}{u:Value}{k:Int}(m:MatQ h u k):Looks C.M h (typeOf u) (.ref aE):=by
 cases m with
 |mk g=>exact(Looks.ld g).andThen .now
theorem aHt{C:Cx}{ρ:List Lc}{h:Heap}{us:List Value}{vs:List V}(rs:VRs ρ h us vs)(hm:∀ v∈vs,zV v=true):∀ u∈us,Looks C.M h (typeOf u) (.ref aE):=λu hu=>by
 refine xE (List.getElem?_of_mem hu) λq hq=>?_
 have m:=yB rs hm (rs.length▸(List.getElem?_eq_some_iff.mp hq).1:q<vs.length)
 rw [List.getD_eq_getElem?_getD,hq]at m
 exact aBu m
theorem ord_f{n:Nat}{f:Nat->Int}(key:∀ a b,a<b->b<n->f a≠f b):Ord n (λa b=>decide (f a<f b)) where
 tr:=λx y z h1 h2=>decide_eq_true (Int.lt_trans (of_decide_eq_true h1) (of_decide_eq_true h2))
 tot:=λx y hx hy hne=>(Nat.lt_or_gt_of_ne hne).elim (λq=>(Int.lt_or_gt_of_ne (key x y q hy)).imp decide_eq_true decide_eq_true) λq=>(Int.lt_or_gt_of_ne (key y x q hx)).symm.imp decide_eq_true decide_eq_true
 asy:=λx y h=>decide_eq_false (Int.not_lt.mpr (Int.le_of_lt (of_decide_eq_true h)))
theorem aHh{vs:List V}(hd:vs.Pairwise λa b=>dN a≠dN b):Ord vs.length (λa b=>decide (dN (vs.getD a V.none)<dN (vs.getD b V.none))):=
 ord_f (f:=λa=>dN (vs.getD a V.none)) λa b hab hb=>by
  have:=List.pairwise_iff_getElem.mp hd a b (A53 hab hb) hb hab
  rw [List.getD_eq_getElem?_getD,List.getD_eq_getElem?_getD,List.getElem?_eq_getElem hb,List.getElem?_eq_getElem (A53 hab hb)];exact this
theorem aBh{K:Frag}(hK:KMx C K){A:Around}{s:Shared}{ρ:List Lc}{H:MH}{i:Nat}{l:Lc}{vs:List V}{W:Addr->Prop}{P:PySem.Fin->Shared->Prop}(hu:A.units<cLine)(S:Sim C H ρ s)(hl:ρ[i]? =some l)(hH:H[i]? =some (.list vs))(hok:okSort vs)
  (h:∀ s',Sim C (H.set i (.list (isort dN vs))) ρ s'->Nx ρ W s ρ s'->P (.done (.ret .none)) s'):wpAny C.M A (Builtin.«list.sort» ⟨[.ref l.a],[]⟩) P NoE s:=by
 have hilt:i<H.length:=(List.getElem?_eq_some_iff.mp hH).1
 refine kB (S.objs i _ l hH hl) λg1 g2 xs n hx rs=>?_
 have hlen:=rs.length
 simp only[Array.length_toList]at hlen
 refine xAA hok λhm hd h64=>?_
 have stA:=jR.put (k:=s.toks) S ⟨hl,g1,g2,hH,hx,rs⟩ (λ_=> #[]) (vs':=[]) .nil
 have SA:=stA.1
 have NA:Nx ρ W s ρ _:=stA.2 W
 have hHA:(H.set i (.list []))[i]? =some (.list []):=List.getElem?_set_self hilt
 rw [list_sort_plain]
 have ho:s.heap.get? l.a=some (seqObj "list" xs n):=hx
 refine wpAny_bind (listItems_at ho rfl ?_)
 refine wpAny_bind (listUpdate_at ho rfl ?_ (by rw[sizeLine_eq];exact A48 hlen h64) (Nat.zero_le _))
 obtain⟨e1,ho1⟩:∃ e1,(s.heap.update l.a (Obj.mapSeq λ_=>(#[]:Array Value))).get? l.a=some (seqObj "list" #[] e1):=⟨_,get?_update_seq ho λ_=> #[]⟩
 refine wpAny_bind (seqEpoch_at ho1 rfl ?_)
 refine wpAny_bind (wpAny_newTuple ?_ (by rw[sizeLine_eq];simp;exact A48 hlen h64))
 refine wpAny_bind (wpAny_newList ?_ (Nat.zero_le _))
 refine wpAny_holding ?_
 let h3:Heap:=((s.heap.update l.a (Obj.mapSeq λ_=>(#[]:Array Value))).push (seqObj "tuple" xs.toList.toArray 0)).push (seqObj "list" #[] 0)
 have kp:∀ b o,(s.heap.update l.a (Obj.mapSeq λ_=>(#[]:Array Value))).get? b=some o->h3.get? b=some o:=λb o e=>Heap.get?_push_of_some _ (Heap.get?_push_of_some _ e)
 have S3:Sim C (H.set i (.list [])) ρ {s with heap:=h3}:=SA.extS kp
 have N3:Nx ρ W s ρ {s with heap:=h3}:=NA.trans (.ext (k:=s.toks) kp)
 have ho3:h3.get? l.a=some (seqObj "list" #[] e1):=kp _ _ ho1
 show wpAny C.M A _ P NoE {s with heap:=h3}
 dsimp only
 have rs3:VRs ρ h3 xs.toList vs:=rs.mono (List.prefix_refl _) N3.imm
 have fin:∀ (out:Array Value),VRs ρ h3 out.toList (isort dN vs)->out.size<=sizeLine/\P (.done (.ret .none)) {s with heap:=h3.update l.a (Obj.mapSeq λ_=>out)}:=by
  intro out ro
  refine kB (S3.objs i _ l hHA hl) λk1 k2 xs3 n3 hx3 rs3'=>?_
  have st:=jR.put (k:=s.toks) S3 ⟨hl,k1,k2,hHA,hx3,rs3'⟩ (λ_=>out) ro
  have hol:=ro.length
  have hsl:=(cJ dN vs).length_eq
  simp only[Array.length_toList]at hol
  refine⟨by rw[sizeLine_eq];exact A49 h64 hol hsl,h _ ?_ (N3.trans (st.2 W))⟩
  have:=st.1
  rw [List.set_set]at this
  exact this
 by_cases h2:xs.size<2
 ·rw[if_pos h2,if_pos h2]
  refine wpAny_bind (wpAny_pure ?_)
  rw [StateT.run_pure]
  refine wpAny_bind (wpAny_pure ?_)
  dsimp only
  have hs:isort dN vs=vs:=v6 (hlen▸h2)
  refine xA (fin xs (by rw[hs];exact rs3)) λf1 f2=>?_
  refine wpAny_bind (seqEpoch_at (s:= {s with heap:=h3}) ho3 rfl ?_)
  rw [aB6]
  refine wpAny_bind (listUpdate_at (s:= {s with heap:=h3}) ho3 rfl ?_ (Nat.zero_le _) (Nat.le_succ_of_le f1))
  simp only[bne_self_eq_false,Bool.false_eq_true,if_false]
  exact wpAny_pure f2
 ·rw[if_neg h2,if_neg h2]
  have hv2:2<=xs.toList.length:=by simp;exact A51 h2
  have X3:K.In h3:=hK.toK.mem.keeps S3.keep
  have hT:=aHt (C:=C) rs3 hm
  have ek:xs=xs.toList.toArray:=by simp
  rw [ek]
  refine wpAny_bind (kas_kind (s:= {s with heap:=h3}) hv2 hT (by decide) (by decide) ?_)
  have est:SortSt.mk' oneType' (xs.toList.toArray.zip xs.toList.toArray) #[] 7 none=kas_st oneType' (pairsOf xs.toList) (List.toArray (List.range xs.toList.length)):=by
   have e:=kas_range (pairsOf xs.toList)
   rw [pairsOf_size]at e
   show SortSt.mk' oneType' (pairsOf xs.toList) #[] 7 none=SortSt.mk' oneType' ((List.toArray (List.range xs.toList.length)).map (kas_item (pairsOf xs.toList))) #[] 7 none
   rw [e]
  have hvl:xs.toList.length=vs.length:=by simp [hlen]
  have O:=aHh hd
  have pw:=aGz O (A57 hv2 hvl)
  have ask:(kas_sort xs.toList.length).kasWp (kas_cmp C.prog C.w A oneType' (pairsOf xs.toList)) (λp s'=>(Pm vs.length p/\Sd (λa b=>decide (dN (vs.getD a V.none)<dN (vs.getD b V.none))) p vs.length)/\s'= {s with heap:=h3}) {s with heap:=h3}:=by
   rw [hvl,<-kas_ask_eq]
   refine PW.wp (I:=λs'=>s'= {s with heap:=h3}) (λi j D s' hi hj hij hs' hD=>?_) (λp s' hp hs'=>⟨hp,hs'⟩) pw _ rfl
   subst hs'
   have hne:dN (vs.getD i V.none)≠dN (vs.getD j V.none):=by
    exact λe=>(O.tot i j hi hj hij).elim (λq=>absurd e (Int.ne_of_lt (of_decide_eq_true q))) λq=>absurd e.symm (Int.ne_of_lt (of_decide_eq_true q))
   have MA:=yB rs3 hm hi
   have MB:=yB rs3 hm hj
   have hD':=hD _ rfl
   unfold kas_ask
   revert MA MB hne hD'
   generalize xs.toList.getD i Value.none=ua
   generalize xs.toList.getD j Value.none=ub
   generalize dN (vs.getD i V.none)=ka
   generalize dN (vs.getD j V.none)=kb
   intro hne MA MB hD'
   cases MA with
   |mk ha=>cases MB with
    |mk hb=>exact lt_mat hK hu X3 ha hb hne hD'
  have run:=kas_runs (E:=NoE) (Q:=λ_ st' s'=>∃ p:Array Nat,p.size=xs.toList.length/\arrOf st'=p.map (kas_item (pairsOf xs.toList))/\failedOf st'=none/\(Pm vs.length p/\Sd (λa b=>decide (dN (vs.getD a V.none)<dN (vs.getD b V.none))) p vs.length)/\s'= {s with heap:=h3})
   hv2 (by rw[hvl];exact h64) (λp' st' s' a1 a2 a3 a4=>⟨p',a1,a2,a3,a4⟩) ask
  rw [<-est]at run
  refine wpAny_bind (wpAny_mono run ?_ λ_ _ e=>e)
  rintro ⟨⟨⟩,st'⟩ s' ⟨p,hp,har,hf,⟨hP,hS⟩,rfl⟩
  dsimp only
  have hout:(arrOf st').map (·.2)=List.toArray (p.toList.map λi=>xs.toList.getD i Value.none):=by
   apply Array.toList_inj.mp
   rw [har,Array.map_map,Array.toList_map]
   exact List.map_congr_left λi _=>by show(kas_item (pairsOf xs.toList) i).2=_;rw[kas_item_eq]
  have hlt:∀ i∈p.toList,i<xs.toList.length:=λi hi=>by
   have h1:p.toList.Perm (List.range vs.length):=by simpa using hP.pm.toList
   have:=h1.mem_iff.mp hi
   rw [hvl];simpa using this
  refine xA (fin (List.toArray (p.toList.map λi=>xs.toList.getD i Value.none)) (by
   have:=rs3.map_getD p.toList hlt
   rw [out_eq V.none dN hd hP hS]at this
   simpa using this)) λf1 f2=>?_
  refine wpAny_bind (seqEpoch_at (s:= {s with heap:=h3}) ho3 rfl ?_)
  rw [hout]
  refine wpAny_bind (listUpdate_at (s:= {s with heap:=h3}) ho3 rfl ?_ (Nat.zero_le _) (Nat.le_succ_of_le f1))
  rw [hf]
  simp only[bne_self_eq_false,Bool.false_eq_true,if_false]
  exact wpAny_pure f2
end
section
variable {C:Cx}{r:Nat}{env:Env}
noncomputable def eSort(f:EF):EF:=λlo H Q=>f lo H λa H1=>Lf a.rf λi=>Lf (H1[i]?.bind MO.own) λvs=>okSort vs/\Q .none (H1.set i (.list (isort dN vs)))
theorem EV.sort{K:Frag}(hK:KMx C K){o:Expr}{f:EF}{apos pos:Pos}(ho:EV C (r+1) env o f)(sh:fF env o "sort" apos pos []):EV C (r+1) env (.Call (.Attribute o "sort" apos) [] [] pos) (eSort f):=
 λA s ρ H lo Q hr S F q=>lC ho sh PySem.F.slot_list_sort PySem.F.type_list_sort hr S F q (λv H1 q=>q.elim λi hi q=>q.elim λvs hv _=>⟨i,vs,hi,i8 hv⟩) λ{s1 ρ1 l i vs xs n H1} S1 N1 O q=>by
  refine q.elim λi' hi q=>?_
  cases hi
  refine q.elim λws hw q=>?_
  obtain rfl:=O.same hw
  refine callWith_of (P:=λh=>∀ b o,C.base.heap.get? b=some o->h.get? b=some o) rfl c9 (wmN (l9 (C:=C) (f:=.builtin "list.sort") (pos:=pos) EVs.nil (env:=env) ⟨.inl rfl,λ_=>rfl⟩ hr S1 (F.nx N1) (Q:=λvs H'=>vs= []/\H'=H1) ⟨rfl,rfl⟩) λa s2 p=>?_)
  obtain⟨ps,kw⟩:=a
  obtain⟨hkw,S2,N2,rs,e1,e2⟩:=p
  cases hkw
  subst e1 e2
  cases rs
  refine⟨S2.keep,?_⟩
  refine xEE (gP S2 (aO N2.pre O.g) O.h) λxs n O2=>?_
  refine wpAny_call_entry PyProof.Rows.slot_list_sort ⟨_,O2.x,rfl⟩ PyProof.Rows.entry_list_sort ?_ (PyProof.Rows.args_list_sort _)
  refine aBh hK (W:=noW) ?_ S2 O2.g O.h q.1 λs3 S3 N3=>⟨.none,rfl,S3,(N1.trans N2).trans N3,.none,q.2⟩
  have:=hr.2.2
  show A.units+1<9900
  exact A59 this
theorem SV.doc{x:Str}{k:Nat}{p pos:Pos}(hi:interactive env=false)(hs:swapsWith (.Constant (.str x) k p) none pos.line env=pure false):SV C r env (.Expr (.Constant (.str x) k p) pos) (sK .next):=
 SV.expr (f:=eK (.str x)) EV.str hi hs
theorem OpR.iadd:OpR C r (inplaceOp .Add) oAdd:=OpR.i2 λ_ _ k=>PySem.AutoIntOps.iadd_0 (k _ _ (.int _ _))
theorem Room.le{a b:Nat}{A:Around}(h:Nat.ble a b=true)(hr:Room b A):Room a A:=by
 have:=Nat.le_of_ble_eq_true h
 refine xAA hr λh1 h2 h3=>?_
 exact⟨h1,A60 this h2,A61 this h3⟩
theorem CV.lift{a b:Nat}{f:Value}{g:CF}(h:CV C a f g)(q:Nat.ble a b=true):CV C b f g:=⟨h.keep,λhr S rs e=>h.call (hr.le q) S rs e⟩
end
section
noncomputable abbrev AnyT:=∀ {α:Type} (as:Array α),(α->Bool)->optParam Nat 0->optParam Nat as.size->Bool
noncomputable def anyL:AnyT:=λ{α} as p i j=>match Nat.beq i 0,Nat.beq j as.size with
 |true,true=>as.toList.any p
 |_,_=>as.any p i j
theorem aIp: @Eq AnyT @Array.any.{0} @anyL:=by
 funext α as p i j
 unfold anyL
 split
 ·rename_i h1 h2
  have h1:=Nat.eq_of_beq_eq_true h1
  have h2:=Nat.eq_of_beq_eq_true h2
  subst h1 h2
  exact Array.any_toList.symm
 ·rfl
theorem holdT{P:Prop}(_:P):True:=trivial
set_option maxHeartbeats 1000000 in
@[irreducible] noncomputable def tnG: {G:AnyT->Builtin // PySem.W.Fast.tw4202317264376624991=G @Array.any.{0}}:=
 let G:AnyT->Builtin:=_
 let u:True:=holdT (P:=PySem.W.Fast.tw4202317264376624991=G @Array.any.{0}) (by
  delta PySem.W.Fast.tw4202317264376624991
  generalize @Array.any.{0}=A
  exact rfl)
 ⟨G,@Eq.refl Builtin PySem.W.Fast.tw4202317264376624991⟩
end
section
open PySem.Sem (wp)
noncomputable abbrev Ev(α:Type):=Pos->BT->Nat->Nat->Option (Except Value α×Pos×BT×Nat×Nat)
noncomputable abbrev Cf:=Ctx->Pos->BT->Nat->Nat->Option (Result×BT×Nat×Nat)
noncomputable def evS{α:Type}(cf:Cf)(S:Setting)(Γ:Ctx)(t:Sem α):Ev α:=
 @Sem.rec α (λ_=>Ev α)
  (λa p T n k=>some (.ok a,p,T,n,k))
  (λe p T n k=>some (.error e,p,T,n,k))
  (λ_ _ _ _ _=>none)
  (λ_ _ _ _ _=>none)
  (λ_ _ ih p T n k=>ih () p T n k)
  (λq _ ih _ T n k=>ih () q T n k)
  (λa _ _ ih p T n k=>bif Nat.blt a n then(T.get a).bind λo=>(alive o).bind λo'=>ih o' p T n k else none)
  (λa _ f _ ih p T n k=>bif Nat.blt a n then(T.get a).bind λo=>(alive o).bind λ_=>ih () p (T.set a f) n k else none)
  (λo _ ih p T n k=>bif ((T.ins n o).get n).isSome then ih n p (T.ins n o) (n+1) k else none)
  (λa _ ih p T n k=>bif Nat.blt a n then(T.get a).bind λo=>ih (alive o) p T n k else ih none p T n k)
  (λ_ _ ih p T n k=>ih () p T n k)
  (λ_ _ _ _ _ _ _=>none)
  (λ_ ih p T n k=>ih k p T n (k+1))
  (λ_ ih p T n k=>ih S p T n k)
  (λ_ _ _ _ _ _ _ _=>none)
  (λ_ _ _ _ _ _ _ _=>none)
  (λc h _ _ _ ih p T n k=>(cf (Γ.enter c h p) p T n k).bind λy=>ih y.1 p y.2.1 y.2.2.1 y.2.2.2)
  (λown _ ih p T n k=>ih (if own then Γ.own else Γ.handled) p T n k)
  (λ_ _ _ _ _ _ _=>none)
  (λ_ _ _ _ _ _ _=>none)
  (λ_ _ _ _ _ _ _ _ _=>none)
  (λ_ _ _ _ _ _ _ _ _=>none)
  (λ_ ih p T n k=>ih ((Γ.code,p) :: Γ.below) p T n k)
  (λ_ _ _ _ _ _ _=>none)
  (λ_ ih p T n k=>ih 0 p T n k)
  (λ_ _ _ _ _ _ _ _ _ _=>none) t
variable (M:Model)(life:Life)(gens:Array GenState)(drawn:Drawn)(os:OsState)
noncomputable def ab(T:BT)(n k:Nat):Shared:=⟨absHeap T n life,gens,drawn,k,os⟩
noncomputable def Ph{α:Type}(Q:α->Pos->Shared->Prop)(E:Value->Pos->Shared->Prop):Option (Except Value α×Pos×BT×Nat×Nat)->Prop
 |some (.ok a,p,T,n,k)=>Q a p (ab life gens drawn os T n k)
 |some (.error e,p,T,n,k)=>E e p (ab life gens drawn os T n k)
 |none=>False
noncomputable def PhC(R:Result->Shared->Prop):Option (Result×BT×Nat×Nat)->Prop
 |some (r,T,n,k)=>R r (ab life gens drawn os T n k)
 |none=>False
theorem ob{β γ:Type}{P:Option γ->Prop}(h0: ¬P none){o:Option β}{f:β->Option γ}(h:P (o.bind f)):∃ y,o=some y/\P (f y):=by
 cases o with
 |none=>exact absurd h h0
 |some y=>exact⟨y,rfl,h⟩
theorem obb{γ:Type}{P:Option γ->Prop}(h0: ¬P none){b:Bool}{x:Option γ}(h:P (bif b then x else none)):b=true/\P x:=by
 cases b with
 |false=>exact absurd h h0
 |true=>exact⟨rfl,h⟩
theorem aFo{α:Type}{cf:Cf}{Γ:Ctx}
  (hcf:∀ {Γ p T n k R},PhC life gens drawn os R (cf Γ p T n k)->wpCode M Γ R p (ab life gens drawn os T n k))
  (t:Sem α):∀ {Q:α->Pos->Shared->Prop}{E:Value->Pos->Shared->Prop}{p T n k},Ph life gens drawn os Q E (evS cf ⟨M.prog,M.w.params⟩ Γ t p T n k)->wp M Γ t Q E p (ab life gens drawn os T n k):=by
 induction t with
 |pure a=>intro Q E p T n k h;exact h
 |raise e=>intro Q E p T n k h;exact h
 |unsupported |finish |register |choose |os |genState |newGen |resume | «yield» |fork |await=>intro Q E p T n k h;exact h.elim
 |rule _ k ih=>intro Q E p T n k h;exact ih () h
 | «at» q k ih=>intro Q E p T n k h;exact ih () h
 |point _ k ih=>intro Q E p T n k h;exact ih () h
 |ask k ih=>intro Q E p T n k h;exact ih _ h
 |thread k ih=>intro Q E p T n k h;exact ih _ h
 |stack k ih=>intro Q E p T n k h;exact ih _ h
 |handled own k ih=>intro Q E p T n k h;exact ih _ h
 |fresh k ih=>intro Q E p T n k h;exact ih _ h
 |load a part k ih=>
  intro Q E p T n j h
  refine xA (obb (P:=Ph life gens drawn os Q E) id h) λhb h=>?_
  refine xEA (ob (P:=Ph life gens drawn os Q E) id h) λo hg h=>?_
  refine xEA (ob (P:=Ph life gens drawn os Q E) id h) λo' ho h=>?_
  exact⟨o',(abs_get (Nat.le_of_ble_eq_true hb) hg).trans ho,ih o' h⟩
 |update a part f k ih=>
  intro Q E p T n j h
  refine xA (obb (P:=Ph life gens drawn os Q E) id h) λhb h=>?_
  refine xEA (ob (P:=Ph life gens drawn os Q E) id h) λo hg h=>?_
  refine xEA (ob (P:=Ph life gens drawn os Q E) id h) λo' ho h=>?_
  have:=ih () h
  unfold ab at this
  rw [absHeap_set hg]at this
  exact⟨by show((absHeap T n life).get? a).isSome=true;rw[abs_get (Nat.le_of_ble_eq_true hb) hg,ho];rfl,this⟩
 |alloc o k ih=>
  intro Q E p T n j h
  refine xA (obb (P:=Ph life gens drawn os Q E) id h) λhb h=>?_
  have:=ih n h
  show wp M Γ (k (absHeap T n life).objs.size) _ _ p {ab life gens drawn os T n j with heap:=(absHeap T n life).push o}
  rw [absHeap_size,<-absHeap_ins hb]
  exact this
 |loadIfAlive a k ih=>
  intro Q E p T n j h
  show wp M Γ (k ((absHeap T n life).get? a)) _ _ p _
  revert h
  show Ph life gens drawn os Q E (bif Nat.blt a n then _ else _)->_
  cases hb:Nat.blt a n with
  |false=>
   intro h
   rw [abs_get_none (λq=>by rw[show Nat.blt a n=true from Nat.ble_eq_true_of_le q]at hb;cases hb)]
   exact ih _ h
  |true=>
   intro h
   refine xEA (ob (P:=Ph life gens drawn os Q E) id h) λo hg h=>?_
   rw [abs_get (Nat.le_of_ble_eq_true hb) hg]
   exact ih _ h
 |call c hd g l k ih=>
  intro Q E p T n j h
  refine hcf (R:=λr s=>wp M Γ (k r) Q E p s) ?_
  refine xEA (ob (P:=Ph life gens drawn os Q E) id h) λy hc h=>?_
  rw [hc]
  exact ih _ h
noncomputable def evC(den:Code->Sem Fin)(S:Setting)(f:Nat):Cf:=
 @Nat.rec (λ_=>Cf) (λ_ _ _ _ _=>none) (λ_ rec Γ p T n k=>match evS rec S Γ (den Γ.code) p T n k with
  |some (.ok (.done fl),_,T',n',k')=>some ((Except.ok fl:Result),T',n',k')
  |some (.ok (.again c),p',T',n',k')=>bif c.quiet then rec (Γ.goto c) p' T' n' k' else none
  |some (.error e,_,T',n',k')=>some ((Except.error e:Result),T',n',k')
  |none=>none) f
theorem yJ:∀ (f:Nat){Γ R p T n k},PhC life gens drawn os R (evC M.den ⟨M.prog,M.w.params⟩ f Γ p T n k)->wpCode M Γ R p (ab life gens drawn os T n k)
 |0,_,_,_,_,_,_,h=>h.elim
 |f+1,Γ,R,p,T,n,k,h=>by
  rw [wpCode_iff_wp]
  refine aFo M life gens drawn os (λhq=>yJ f hq) (M.den Γ.code) ?_
  revert h
  show PhC life gens drawn os R (match evS (evC M.den ⟨M.prog,M.w.params⟩ f) ⟨M.prog,M.w.params⟩ Γ (M.den Γ.code) p T n k with
   |some (.ok (.done fl),_,T',n',k')=>some ((Except.ok fl:Result),T',n',k')
   |some (.ok (.again c),p',T',n',k')=>bif c.quiet then evC M.den ⟨M.prog,M.w.params⟩ f (Γ.goto c) p' T' n' k' else none
   |some (.error e,_,T',n',k')=>some ((Except.error e:Result),T',n',k')
   |none=>none)->_
  cases evS (evC M.den ⟨M.prog,M.w.params⟩ f) ⟨M.prog,M.w.params⟩ Γ (M.den Γ.code) p T n k with
  |none=>exact False.elim
  |some y=>
   obtain⟨x,p₁,T₁,n₁,k₁⟩:=y
   cases x with
   |error e=>exact id
   |ok fin=>cases fin with
    |done fl=>exact id
    |again c=>
     intro h
     revert h
     show PhC life gens drawn os R (bif c.quiet then evC M.den ⟨M.prog,M.w.params⟩ f (Γ.goto c) p₁ T₁ n₁ k₁ else none)->_
     intro h
     refine xA (obb (P:=PhC life gens drawn os R) id h) λhq h=>?_
     exact⟨hq,yJ f h⟩
end
section
noncomputable def setDoc(D:Str):Stmt->Stmt
 | .ClassDef n b k (.Expr (.Constant (.str _) x q) q' :: rest) d t s ts bi st p=>.ClassDef n b k (.Expr (.Constant (.str D) x q) q' :: rest) d t s ts bi st p
 |x=>x
noncomputable def setAt(D:Str):List Stmt->List Stmt
 |a :: b :: c :: d :: e :: f :: r=>a :: b :: c :: d :: e :: setDoc D f :: r
 |l=>l
noncomputable def aGl(p:Program)(D:Str):Program:= {p with main:= {p.main with body:=setAt D p.main.body}}
noncomputable def tn:Builtin:=tnG.1 @anyL
theorem tn_eq:Builtin.«type.__new__»=tn:=
 (PySem.W.Fast.te4202317264376624991).trans (tnG.2.trans (congrArg tnG.1 aIp))
noncomputable def tbl(id:String):Option Builtin:=match PySem.W.S.eqLit (PySem.code "type.__new__") id with
 |true=>some tn
 |false=>PySem.W.Fast.tw14364793385576792824 id
theorem tbl_eq:table=tbl:=by
 funext id
 unfold tbl
 have h:=congrFun (PySem.W.S.eqLit_eq "type.__new__" _ rfl) id
 rw [<-h]
 by_cases e:id="type.__new__"
 ·subst e
  have:(("type.__new__" :String)=="type.__new__")=true:=beq_self_eq_true _
  rw [this]
  show table "type.__new__" =some tn
  rw [<-tn_eq]
  have:entryFor table "type.__new__" =some Builtin.«type.__new__»:=entryFor_of_fast ⋯
  rw [table_eq_tree]
  kernel_rfl
 ·have:(id=="type.__new__")=false:=beq_eq_false_iff_ne.mpr e
  rw [this]
  show table id=PySem.W.Fast.tw14364793385576792824 id
  rw [table_eq_tree,PySem.W.Fast.te14364793385576792824]
noncomputable def den:Code->Sem Fin:=PySem.W.Fast.tw11892475500146522536 tbl
theorem den_eq:denote table=den:=by
 unfold den
 rw [tbl_eq,PySem.W.Fast.te11892475500146522536]
noncomputable def btOf(l:List Obj):BT:=(l.zipIdx).foldl (λt x=>t.ins x.2 x.1) .nil
noncomputable def bt0(P:Params):BT:=btOf [boot_o_0 P,boot_o_1 P,boot_o_2 P,boot_o_3 P,boot_o_4 P,boot_o_5 P,boot_o_6 P,boot_o_7 P,boot_o_8 P,boot_o_9 P,boot_o_10 P]
noncomputable def Γ0:Ctx:=⟨.builtin "claim.caller" {},none,none,[],none⟩
noncomputable def y7(p:Program)(w:World):=evS (evC den ⟨p,w.params⟩ 3000) ⟨p,w.params⟩ Γ0 (topStub p).cur default (bt0 w.params) 11 boot_toks
end
section
noncomputable def Jn(t:Thread):Step->Prop
 | .halt (.done _) _=>through t=true
 |_=>True
theorem Jn.ite{t:Thread}{x:Bool}{a b:Step}(ha:Jn t a)(hb:Jn t b):Jn t (if x=true then a else b):=by
 cases x with
 |true=>exact ha
 |false=>exact hb
theorem Jn.itp{t:Thread}{c:Prop}[Decidable c]{a b:Step}(ha:Jn t a)(hb:Jn t b):Jn t (if c then a else b):=by
 by_cases h:c
 ·rw[if_pos h];exact ha
 ·rw[if_neg h];exact hb
theorem stepJ{den:Code->Sem Fin}{p:Program}{w:World}{s:Shared}{t:Thread}:Jn t (step den p w s t):=by
 obtain⟨heap,gens,drawn,toks,os⟩:=s
 obtain⟨cur,code,pos,stack⟩:=t
 cases cur with
 |pure a=>cases a with
  |again c=>trivial
  |done f=>cases stack with
   |nil=>exact Jn.ite (x:=leftWithCleanup gens) trivial rfl
   |cons fr rest=>cases fr<;>trivial
 |raise e=>cases stack with
  |nil=>exact Jn.ite (x:=leftWithCleanup gens) trivial trivial
  |cons fr rest=>cases fr<;>trivial
 |unsupported _=>trivial
 |finish e=>exact Jn.ite (x:=leftWithCleanup gens) trivial trivial
 |rule _ k=>trivial
 | «at» p k=>trivial
 |load a _ k=>
  delta step;dsimp only
  cases heap.get? a<;>trivial
 |update a _ f k=>exact Jn.ite (x:=(heap.get? a).isSome) trivial trivial
 |alloc o k=>trivial
 |loadIfAlive a k=>trivial
 |point _ k=>trivial
 |register _ _=>trivial
 |fresh k=>trivial
 |ask k=>trivial
 |choose src n k=>exact Jn.itp (c:=n=0) trivial trivial
 |os q _ k=>trivial
 |call c h g l k=>trivial
 |handled own k=>trivial
 |newGen c k=>trivial
 |genState g k=>
  delta step;dsimp only
  cases gens[g]? <;>trivial
 |resume g r l k=>
  delta step;dsimp only
  cases gens[g]? with
  |none=>trivial
  |some x=>cases x with
   |fresh c=>cases r with
    |send v=>cases v<;>trivial
    |throw e=>trivial
   |_=>trivial
 |yield v g0 l kk=>
  delta step;dsimp only
  cases splitAtGen stack<;>trivial
 |stack k=>trivial
 |fork _ _=>trivial
 |thread k=>trivial
 |await _ _ _ _ _=>trivial
theorem tV{den:Code->Sem Fin}{p:Program}{w:World}{f:Flow}{s':Shared}(n:Nat):∀ (s:Shared) (t:Thread),runN den p w n s t= .halted (.done f) s'->
  ∃ m t',runN den p w m s t= .running s' t'/\through t'=true:=by
 induction n with
 |zero=>intro s t h;cases h
 |succ n ih=>
  intro s t h
  have hj:=stepJ (den:=den) (p:=p) (w:=w) (s:=s) (t:=t)
  have he:=step_halt_same den p w s s' t (.done f)
  replace h:(match step den p w s t with | .go s' t'=>runN den p w n s' t' | .halt o s'=>.halted o s')=Run.halted (.done f) s':=h
  have hm:∀ m,runN den p w (m+1) s t=(match step den p w s t with | .go s' t'=>runN den p w m s' t' | .halt o s'=>.halted o s'):=λm=>rfl
  revert h hj he hm
  cases step den p w s t with
  |go s₂ t₂=>
   intro hj he h hm
   refine bP (ih s₂ t₂ h) λm t' h1 ht=>?_
   exact⟨m+1,t',(hm m).trans h1,ht⟩
  |halt o s₂=>
   intro hj he h hm
   cases h
   exact⟨0,t,congrArg (Run.running · t) (he rfl).symm,hj⟩
theorem uY{p:Program}{w:World}{s S₁:Shared}(hz:s.asleep)(hg:S₁.gens= #[])
  (h:Sem.wp (model p w) Γ0 (topStub p).cur (λfin _ s'=>fin= .done (.ret .none)/\s'=S₁) (λ_ _ _=>False) default s):
  ∃ n t,schedN (denote table) p w n (.single s (topStub p))= .running (.single S₁ t)/\through t=true:=by
 have h':Sem.wp (model p w) ⟨.builtin "claim.caller" {},none,none,[],none⟩ (topStub p).cur
   (Sem.finPost (model p w) ⟨.builtin "claim.caller" {},none,none,[],none⟩ λr s'=>(r= .ok (.ret .none)/\s'=S₁)/\leftWithCleanup s'.gens=false)
   (λe _ s'=>((.error e:Result)= .ok (.ret .none)/\s'=S₁)/\leftWithCleanup s'.gens=false) default s:=by
  refine Sem.wp_mono _ _ _ ?_ (λ_ _ _ x=>x.elim) _ _ h
  rintro fin q s' ⟨rfl,rfl⟩
  exact⟨⟨rfl,rfl⟩,by rw[hg];simp [leftWithCleanup]⟩
 obtain⟨n,r,s',hn,rfl,rfl⟩:=(wp_iff_halts (M:=model p w) _ _ _ _).mp h'
 refine dC (runNI_real (denote table) p w hn (outcomeOf_ends _)) λs'' hr hf hc=>?_
 have e:=Shared.eq_of_forget_eq hf hg
 subst e
 refine bP (tV n s (topStub p) hr) λm t' hm ht=>?_
 have hne:∀ k s₂,runN (denote table) p w k s (topStub p)≠ .halted (.unsupported "lifetime:generator-with-cleanup-left-suspended") s₂:=by
  intro k s₂ hk
  have a:=runN_mono (denote table) p w n k s (topStub p) _ _ hr
  have b:=runN_mono (denote table) p w k n s (topStub p) _ s₂ hk
  rw [Nat.add_comm,b]at a
  injection a with a1 _
  cases a1
 exact⟨m,t',(schedN_eq_runN (denote table) p w s (topStub p) hz ⟨hc,hne⟩ m).trans (congrArg Run.lift hm),ht⟩
end
section
noncomputable def docS(p:Program):Str:=match (p.main.body.drop 5).head? with
 |some (PySem.Stmt.ClassDef _ _ _ body _ _ _ _ _ _ _)=>(docOf body).getD ⟨#[]⟩
 |_=>⟨#[]⟩
noncomputable abbrev pw:Program:=PySem.Challenge.pw_dm0053_05
noncomputable def docL: {l:List Char // docS pw=⟨(l.map Char.toNat).toArray⟩}:=⟨_,Fast.ofString_ofList _⟩
noncomputable def docD:Str:=⟨(docL.1.map Char.toNat).toArray⟩
noncomputable def pR:Program:=aGl pw docD
theorem p_eq:pw=pR:=by
 unfold pR docD
 rw [<-docL.2]
 kernel_rfl
noncomputable def stA(i:Nat):Stmt:=(pw.main.body.drop i).headD (.Pass ⟨0,0,0,0⟩)
noncomputable def inCls:Stmt->List Stmt
 | .ClassDef _ _ _ body _ _ _ _ _ _ _=>body
 |_=>[]
noncomputable def stB(i j:Nat):Stmt:=((inCls (stA i)).drop j).headD (.Pass ⟨0,0,0,0⟩)
noncomputable def fPar:Stmt->Arguments
 | .FunctionDef _ a _ _ _ _ _ _ _ _=>a
 |_=>⟨[],[],none,[],[],none,[]⟩
noncomputable def b9:Stmt->List Stmt
 | .FunctionDef _ _ b _ _ _ _ _ _ _=>b
 |_=>[]
noncomputable def fSco:Stmt->Scope
 | .FunctionDef _ _ _ _ _ _ s _ _ _=>s
 |_=>default
noncomputable def wQ(s:Stmt):Str:=(docOf (b9 s)).getD ⟨#[]⟩
noncomputable abbrev kE(P:Params)(n:Str)(t:Nat)(v:Value):DictEntry:=⟨PyData.keyHash P n,.str n t,v⟩
noncomputable def cOx(x y:Nat->Value)(z:Nat)(n q:Str)(t l a f r e:Nat):Obj:=⟨.type "code",none,.fields #[.str n t,.str q (t+1),.str "/claim/cut.py" (t+2),.int l 0,.int a 0,.int 0 0,.int 0 0,.int f 0,.ref r,.bool true,.int 181 0,.ref (r+1),.none,x r,y r,.ref (r+z),.int e 0,.int l 0,.str "/claim/cut.py" (e+1)],#[]⟩
noncomputable def cO:Str->Str->Nat->Nat->Nat->Nat->Nat->Nat->Obj:=cOx (λr=>.ref (r+2)) (λr=>.ref (r+3)) 4
noncomputable def cO0:Str->Str->Nat->Nat->Nat->Nat->Nat->Nat->Obj:=cOx (λ_=>.none) (λ_=>.none) 2
noncomputable def fOx(m:Value)(n q:Str)(s:Stmt)(d doc:Value)(an:Option Nat)(c:Nat):Obj:=⟨.type "function",none,.func {name:=n,qualname:=q,params:=fPar s,body:=.stmts (b9 s),scope:=fSco s,globals:=3,closure:=[],defaults:=d,kwdefaults:=.none,doc:=doc,pyModule:=m,annotations:=an,code:=.ref c,closureTuple:=.none,builtins:=0},#[]⟩
noncomputable def fO:Str->Str->Stmt->Value->Value->Option Nat->Nat->Obj:=fOx (.str "cpy313.difflib" 194)
noncomputable def o3(P:Params):Obj:=⟨(.type "dict"),none,(Data.dict #[kE P "__name__" 165 (.str "law_dm0053_05" 592),kE P "__doc__" 166 .none,kE P "__package__" 167 .none,kE P "__loader__" 168 (.builtin "__main__.__loader__#opaque"),kE P "__spec__" 169 .none,kE P "__annotations__" 170 (.ref 6),kE P "__builtins__" 171 (.ref 4),kE P "__file__" 173 (.str "/claim/cut.py" 172),kE P "__cached__" 174 .none,kE P "_wall" 193 (.ref 21),kE P "_tuplegetter" 252 (.ref 60),kE P "Match" 380 (.ref 135),kE P "_calculate_ratio" 388 (.ref 145),kE P "SequenceMatcher" 591 (.ref 242),kE P "_law_reach" 605 (.ref 253),kE P "_law_turn" 622 (.ref 260),kE P "_law_mixed" 628 (.ref 265),kE P "law" 634 (.ref 270)] 18),#[]⟩
noncomputable def o81(P:Params):Obj:=cO "__new__" "Match.__new__" 274 29 4 3 76 281
noncomputable def o82(P:Params):Obj:=fO "__new__" "Match.__new__" (stB 3 4) .none (.str "Create new instance of Match(a, b, size)" 283) none 81
noncomputable def o88(P:Params):Obj:=cO "_make" "Match._make" 285 33 2 3 83 291
noncomputable def o89(P:Params):Obj:=fO "_make" "Match._make" (stB 3 5) .none (.str "Make a new Match object from a sequence or iterable" 293) (some 92) 88
noncomputable def o91(P:Params):Obj:=⟨(.type "classmethod"),(some 90),(Data.fields #[(.ref 89),(.bool false)]),#[]⟩
noncomputable def o134(P:Params):Obj:=⟨(.type "dict"),none,(Data.dict #[kE P "__module__" 260 (.str "cpy313.difflib" 194),kE P "__firstlineno__" 264 (.int 23 263),kE P "__doc__" 266 (.str "Match(a, b, size)" 265),kE P "__slots__" 268 (.ref 73),kE P "_fields" 272 (.ref 74),kE P "_field_defaults" 273 (.ref 75),kE P "__new__" 284 (.ref 136),kE P "_make" 306 (.ref 91),kE P "_replace" 317 (.ref 100),kE P "__replace__" 318 (.ref 100),kE P "__repr__" 326 (.ref 107),kE P "_asdict" 333 (.ref 114),kE P "__getnewargs__" 341 (.ref 121),kE P "__match_args__" 345 (.ref 122),kE P "a" 355 (.ref 124),kE P "b" 365 (.ref 127),kE P "size" 375 (.ref 130),kE P "__static_attributes__" 376 (.ref 132)] 2),#[]⟩
noncomputable def o135(P:Params):Obj:=⟨(.type "type"),none,(Data.cls {name:="Match",bases:=[(.type "tuple")],mro:=[(.ref 135),(.type "tuple"),(.type "object")],ns:=134,qualname:="Match",hasDict:=false,slotNames:=[],subclasses:=[],abstract:=false,collection:=none,hasDel:=false}),#[some (.ref 65),none,some (.str "Match" 253),some (.str "Match" 261),some .none,some (.bool false)]⟩
noncomputable def o136(P:Params):Obj:=⟨(.type "staticmethod"),none,(Data.fields #[(.ref 82)]),#[]⟩
noncomputable def o153(P:Params):Obj:=⟨(.type "tuple"),none,(Data.seq #[.none,(.str "" 404),(.str "" 405),(.bool true)] 0),#[]⟩
noncomputable def o159(P:Params):Obj:=cO "__init__" "SequenceMatcher.__init__" 406 145 5 3 154 414
noncomputable def pS(P:Params):Obj:=fO "__init__" "SequenceMatcher.__init__" (stB 5 1) (.ref 153) (.str (wQ (stB 5 1)) 416) none 159
noncomputable def o166(P:Params):Obj:=cO "set_seqs" "SequenceMatcher.set_seqs" 418 173 3 3 161 424
noncomputable def tN(P:Params):Obj:=fO "set_seqs" "SequenceMatcher.set_seqs" (stB 5 2) .none (.str (wQ (stB 5 2)) 426) none 166
noncomputable def o173(P:Params):Obj:=cO "set_seq1" "SequenceMatcher.set_seq1" 428 184 2 3 168 433
noncomputable def rU(P:Params):Obj:=fO "set_seq1" "SequenceMatcher.set_seq1" (stB 5 3) .none (.str (wQ (stB 5 3)) 435) none 173
noncomputable def o180(P:Params):Obj:=cO "set_seq2" "SequenceMatcher.set_seq2" 437 209 2 3 175 442
noncomputable def nV(P:Params):Obj:=fO "set_seq2" "SequenceMatcher.set_seq2" (stB 5 4) .none (.str (wQ (stB 5 4)) 444) none 180
noncomputable def o187(P:Params):Obj:=cO "__chain_b" "SequenceMatcher.__chain_b" 446 236 1 3 182 461
noncomputable def kH(P:Params):Obj:=fO "__chain_b" "SequenceMatcher.__chain_b" (stB 5 5) .none .none none 187
noncomputable def o189(P:Params):Obj:=⟨(.type "tuple"),none,(Data.seq #[(.int 0 464),.none,(.int 0 465),.none] 0),#[]⟩
noncomputable def o195(P:Params):Obj:=cO "find_longest_match" "SequenceMatcher.find_longest_match" 466 260 5 3 190 488
noncomputable def iH(P:Params):Obj:=fO "find_longest_match" "SequenceMatcher.find_longest_match" (stB 5 6) (.ref 189) (.str (wQ (stB 5 6)) 490) none 195
noncomputable def o202(P:Params):Obj:=cO "get_matching_blocks" "SequenceMatcher.get_matching_blocks" 492 335 1 3 197 515
noncomputable def hV(P:Params):Obj:=fO "get_matching_blocks" "SequenceMatcher.get_matching_blocks" (stB 5 7) .none (.str (wQ (stB 5 7)) 517) none 202
noncomputable def o209(P:Params):Obj:=cO "get_opcodes" "SequenceMatcher.get_opcodes" 519 383 1 3 204 530
noncomputable def nU(P:Params):Obj:=fO "get_opcodes" "SequenceMatcher.get_opcodes" (stB 5 8) .none (.str (wQ (stB 5 8)) 532) none 209
noncomputable def o211(P:Params):Obj:=⟨(.type "tuple"),none,(Data.seq #[(.int 3 534)] 0),#[]⟩
noncomputable def o217(P:Params):Obj:=cO "get_grouped_opcodes" "SequenceMatcher.get_grouped_opcodes" 535 430 2 35 212 548
noncomputable def vP(P:Params):Obj:=fO "get_grouped_opcodes" "SequenceMatcher.get_grouped_opcodes" (stB 5 9) (.ref 211) (.str (wQ (stB 5 9)) 550) none 217
noncomputable def o241(P:Params):Obj:=⟨(.type "dict"),none,(Data.dict #[kE P "__module__" 396 (.str "cpy313.difflib" 194),kE P "__firstlineno__" 400 (.int 70 399),kE P "__doc__" 402 (.str docD 401),kE P "__init__" 417 (.ref 160),kE P "set_seqs" 427 (.ref 167),kE P "set_seq1" 436 (.ref 174),kE P "set_seq2" 445 (.ref 181),kE P "_SequenceMatcher__chain_b" 463 (.ref 188),kE P "find_longest_match" 491 (.ref 196),kE P "get_matching_blocks" 518 (.ref 203),kE P "get_opcodes" 533 (.ref 210),kE P "get_grouped_opcodes" 551 (.ref 218),kE P "ratio" 560 (.ref 225),kE P "quick_ratio" 567 (.ref 232),kE P "real_quick_ratio" 574 (.ref 239),kE P "__static_attributes__" 585 (.ref 240),kE P "__dict__" 587 (.ref 243),kE P "__weakref__" 589 (.ref 244)] 3),#[]⟩
noncomputable def o242(P:Params):Obj:=⟨(.type "type"),none,(Data.cls {name:="SequenceMatcher",bases:=[(.type "object")],mro:=[(.ref 242),(.type "object")],ns:=241,qualname:="SequenceMatcher",hasDict:=true,slotNames:=[],subclasses:=[],abstract:=false,collection:=none,hasDel:=false}),#[none,none,some (.str "SequenceMatcher" 389),some (.str "SequenceMatcher" 397),some (.builtin "object.__new__"),some (.bool true)]⟩
noncomputable def o252(P:Params):Obj:=cO "_law_reach" "_law_reach" 594 505 3 3 247 603
noncomputable def vO(P:Params):Obj:=fOx (.str "law_dm0053_05" 592) "_law_reach" "_law_reach" (stA 7) .none .none none 252
noncomputable def o259(P:Params):Obj:=cO "_law_turn" "_law_turn" 606 513 5 3 254 620
noncomputable def vN(P:Params):Obj:=fOx (.str "law_dm0053_05" 592) "_law_turn" "_law_turn" (stA 8) .none .none none 259
noncomputable def o264(P:Params):Obj:=cO0 "_law_mixed" "_law_mixed" 623 518 5 3 261 626
noncomputable def vM(P:Params):Obj:=fOx (.str "law_dm0053_05" 592) "_law_mixed" "_law_mixed" (stA 9) .none .none none 264
noncomputable def o269(P:Params):Obj:=cO0 "law" "law" 629 525 1 3 266 632
noncomputable def eF(P:Params):Obj:=fOx (.str "law_dm0053_05" 592) "law" "law" (stA 10) .none .none none 269
noncomputable def KL(P:Params):Frag:=[(0,boot_o_0 P),(1,boot_o_1 P),(2,boot_o_2 P),(4,boot_o_4 P),(5,boot_o_5 P),(6,boot_o_6 P),(7,boot_o_7 P),(8,boot_o_8 P),(9,boot_o_9 P),(10,boot_o_10 P),(3,o3 P),(81,o81 P),(82,o82 P),(88,o88 P),(89,o89 P),(91,o91 P),(134,o134 P),(135,o135 P),(136,o136 P),(153,o153 P),(159,o159 P),(160,pS P),(166,o166 P),(167,tN P),(173,o173 P),(174,rU P),(180,o180 P),(181,nV P),(187,o187 P),(188,kH P),(189,o189 P),(195,o195 P),(196,iH P),(202,o202 P),(203,hV P),(209,o209 P),(210,nU P),(211,o211 P),(217,o217 P),(218,vP P),(241,o241 P),(242,o242 P),(252,o252 P),(253,vO P),(259,o259 P),(260,vN P),(264,o264 P),(265,vM P),(269,o269 P),(270,eF P)]
noncomputable def endN:Nat:=271
noncomputable def endK:Nat:=635
noncomputable def finT(w:World):BT:=(y7 pR w).elim .nil λx=>x.2.2.1
noncomputable def finP(w:World):Pos:=(y7 pR w).elim default λx=>x.2.1
theorem finEq(w:World):y7 pR w=some (.ok (.done (.ret .none)),finP w,finT w,endN,endK):=by rfl'
theorem gets(w:World):((KL w.params).map λx=>((finT w).get x.1).bind alive)=(KL w.params).map λx=>some x.2:=by rfl'
end
section
theorem xN{R:WRecords}{cl:Str->Option Addr}{h:Heap}{v:Value}{i:Int}{as:List Addr}(r:ReadsW R cl h v (.int i) as):∃ t,v= .int i t:=by
 cases r;exact⟨_,rfl⟩
theorem nA{R:WRecords}{cl:Str->Option Addr}{h:Heap}{vs:List Value}{d:WData}{ds:List WData}{as:List Addr}(r:ReadsAllW R cl h vs (d :: ds) as):∃ v vs' bs cs,vs=v :: vs'/\as=bs++cs/\ReadsW R cl h v d bs/\ReadsAllW R cl h vs' ds cs:=by
 cases r with |cons a b=>exact⟨_,_,_,_,rfl,rfl,a,b⟩
theorem pF{R:WRecords}{cl:Str->Option Addr}{h:Heap}{vs:List Value}{as:List Addr}(r:ReadsAllW R cl h vs [] as):vs= []:=by
 cases r;rfl
theorem vF{R:WRecords}{cl:Str->Option Addr}{h:Heap}{v:Value}{xs:List WData}{as:List Addr}(r:ReadsW R cl h v (.list xs) as):∃ a o arr n bs,v= .ref a/\a∈as/\h.get? a=some o/\o.cls= .type "list" /\o.data= .seq arr n/\ReadsAllW R cl h arr.toList xs bs:=by
 cases r with |list h1 h2 h3 h4=>exact⟨_,_,_,_,_,rfl,List.mem_cons_self,h1,h2,h3,h4⟩
theorem rY{R:WRecords}{cl:Str->Option Addr}{h:Heap}:∀ {ds:List WData}{vs:List Value}{as:List Addr},ReadsAllW R cl h vs ds as->WShape.hasItems R ds .int=true->
  ∃ (ns:List Int) (ts:List Tok),ts.length=ns.length/\vs=((ns.zip ts).map λx=>Value.int x.1 x.2)/\ds.length=ns.length:=by
 intro ds
 induction ds with
 |nil=>
  intro vs as r _
  exact⟨[],[],rfl,pF r,rfl⟩
 |cons d ds ih=>
  intro vs as r hi
  have h:=Bool.and_eq_true_iff.mp (show(WShape.has R d .int && WShape.hasItems R ds .int)=true from hi)
  refine xE (hasW_int h.1) λi z130=>?_;subst z130
  refine oJ (nA r) λv vs' bs cs z131 _ r1 r2=>?_;subst z131
  refine xE (xN r1) λt z132=>?_;subst z132
  refine b8 (ih r2 h.2) λns ts hl e hd=>?_
  exact⟨i :: ns,t :: ts,congrArg Nat.succ hl,congrArg (Value.int i t :: ·) e,congrArg Nat.succ hd⟩
theorem yV{p:Program}(e:opening p=plainProg p.main.scope.names)(f:∀ s,fenceModules? p s=some s)(w:World):
  ∃ s,AfterRun (opening p) w s/\s.heap=boot_heap w.params/\s.gens= #[]/\s.drawn=boot_drawn/\s.toks=boot_toks:=by
 refine xEA (Option.map_eq_some_iff.mp (boot_plain w p.main.scope.names)) λs hs hv=>?_
 rw [<-e]at hs
 rw [<-table_eq_tree]at hs
 have A:=AfterImport.of_importEnds hs
 simp only[Prod.mk.injEq]at hv
 exact⟨s,A,hv.1,hv.2.1,hv.2.2.1,hv.2.2.2⟩
theorem pre63{l:OpenLaw}{xs:List WData}(hbd:l.bound=none)(hmost:l.most=some 63)(h:(OpenLaw.pre l).holds [] {args:=[.list xs]}=true):xs.length<=63:=by
 have e:(OpenLaw.pre l).holds [] {args:=[.list xs]}= !decide ((63:Int)<(xs.length:Int)):=by
  unfold OpenLaw.pre
  rw [hbd,hmost]
  unfold WTm.holds
  dsimp only
  rw [w_and (w_not (w_lt w_lit (w_len_list (w_arg rfl)))) w_lit]
  cases decide ((63:Int)<(xs.length:Int))<;>rfl
 rw [e]at h
 by_cases q:xs.length<=63
 ·exact q
 ·rw[show decide ((63:Int)<(xs.length:Int))=true from decide_eq_true (A62 q)]at h;cases h
theorem aBf{H:Heap}(stat:∃ o n,H.get? cStatics=some o/\o.data= .dict #[] n)(key:Str):staticOf H key=none:=by
 refine bP stat λo n h1 h2=>?_
 unfold staticOf
 rw [h1]
 dsimp only
 rw [h2]
 rfl
theorem aBg{G H:Heap}(old:∀ b o,G.get? b=some o->b≠mainNs->H.get? b=some o)(hstat:∀ key,staticOf H key=none)(key:Str):staticOf G key=none:=by
 cases hs:staticOf G key with
 |none=>rfl
 |some v=>
  have:=hstat key
  unfold staticOf at hs this
  cases hc:G.get? cStatics with
  |none=>rw [hc]at hs;cases hs
  |some o=>
   rw [old _ _ hc (by decide)]at this
   rw [hc]at hs
   rw [this]at hs;cases hs
theorem aGa{G H:Heap}(old:∀ b o,G.get? b=some o->b≠mainNs->H.get? b=some o)(hx:G.isNs builtinsNs=true)(x:Str):builtinOf H x=builtinOf G x:=by
 unfold Heap.isNs at hx
 cases hc:G.get? builtinsNs with
 |none=>rw [hc]at hx;cases hx
 |some o=>
  unfold builtinOf
  rw [old _ _ hc (by decide),hc]
theorem aCd{p:Program}{w:World}{H:Heap}{k:Nat}{os:OsState}(hz:Shared.asleep ⟨boot_heap w.params,#[],boot_drawn,boot_toks,os⟩)
  (run:Sem.wp (model p w) Γ0 (topStub p).cur (λfin _ s'=>fin= .done (.ret .none)/\s'=⟨H,#[],boot_drawn,k,os⟩) (λ_ _ _=>False) default ⟨boot_heap w.params,#[],boot_drawn,boot_toks,os⟩)
  (life:H.life=(boot_heap w.params).life) (old:∀ b o,(boot_heap w.params).get? b=some o->b≠mainNs->H.get? b=some o) (stat:∃ o n,H.get? cStatics=some o/\o.data= .dict #[] n)
  (isn:H.isNs mainGlobals=true) (nb:namesBound p H=true) (lk:laidKept (boot_heap w.params) H=true) (ib:(boot_heap w.params).isNs builtinsNs=true) (bv:(boot_heap w.params).bltView=bltViewBooted) (bm:builtinsGlobalAsBooted H):
  TopRan p w ⟨boot_heap w.params,#[],boot_drawn,boot_toks,os⟩ ⟨H,#[],boot_drawn,k,os⟩:=by
 have hs:=aBf stat
 refine⟨uY hz rfl run,life,rfl,λb o hb' hn=>old b o hb' λq=>hn (.inl q),λkey v hv=>?_,λkey=>.inl ((hs key).trans (aBg old hs key).symm),Pin.keysAreStrs_of isn,λx hx=>?_,bm,λg hg=>?_,names_of_bound nb,laid_of_kept lk⟩
 ·rw[hs]at hv;cases hv
 ·exact(aGa old ib x).trans ((Pin.builtinOf_eq ib x).trans (Heap.of_bltView ib bv x hx))
 ·exact absurd hg (by simp)
noncomputable def aC7(l:OpenLaw)(vs:List Value):Sem Fin:=do match<-nsGet mainNs l.name with
   |some f=>do ret (<-PySem.call f vs)
   |none=>unsupported "claim.caller:no-such-global"
theorem yP{l:OpenLaw}{w:World}{H:Heap}{k:Nat}{fa:Addr}{os:OsState}(hbd:l.bound=none)(hmost:l.most=some 63)(isn:H.isNs mainGlobals=true)(hfa:H.nsMap mainGlobals l.name=some (.ref fa))
  (walk:∀ (s₁:Shared) (a:Addr) (ns:List Int) (ts:List Tok),(∀ b o,H.get? b=some o->s₁.heap.get? b=some o)->s₁.gens= #[]->
   ts.length=ns.length->ns.length<=63->s₁.heap.IsList a ((ns.zip ts).map λx=>Value.int x.1 x.2).toArray->H.get? a=none->
   wpAny (model l.prog w) callerA (call (.ref fa) [.ref a]) (λv s'=>v= .bool true/\(∀ b o,s₁.heap.get? b=some o->s'.heap.get? b=some o)/\s'.os=s₁.os/\AllBare s'.gens) (λ_ _=>False) s₁)
  (args:List WData) (hpre:l.row.toRowW.claim.pre args=true) (hlay:WData.layableAll args=true) (ord:List DictEntry->List DictEntry) (hord:∀ l,(ord l).Perm l):
  ∃ vs s₁,layAllW [] (classAt H) w.params ord args ⟨H,#[],boot_drawn,k,os⟩=some (vs,s₁)/\
   wpAny (model l.prog w) callerA (aC7 l vs) (λfin s'=>∃ f,fin= .done f/\(l.row.toRowW.claim.Ends ⟨H,#[],boot_drawn,k,os⟩ args vs s₁ (.ok f) s'/\s'.os=os/\AllBare s'.gens))
    (λe s'=>l.row.toRowW.claim.Ends ⟨H,#[],boot_drawn,k,os⟩ args vs s₁ (.error e) s'/\s'.os=os/\AllBare s'.gens) s₁:=by
 have hp:=Bool.and_eq_true_iff.mp hpre
 refine b8 (hasAllW_cons (e:=.list .int) (es:=[]) hp.1) λd ds z133 h1 h2=>?_;subst z133
 obtain rfl:=hasAllW_nil h2
 refine xEA (hasW_list h1) λxs z134 hi=>?_;subst z134
 refine xE (Option.isSome_iff_exists.mp (layAllW_isSome (R:=[]) (cl:=classAt H) (P:=w.params) (ord:=ord) (λc hc=>by cases hc) [.list xs] l.row.toRowW.args ⟨H,#[],boot_drawn,k,os⟩ hp.1)) λz135 hlaid=>?_;obtain⟨vs,s₁⟩:=z135
 have keeps:=layAllW_keeps _ _ _ hlaid
 have hal:=layAllW_rest _ _ _ hlaid
 refine dC (reads_layAllW hord _ _ _ hlaid hlay s₁.heap (λ_ _ e=>e)) λas hrd hin hold=>?_
 have L:Laid [] w ⟨H,#[],boot_drawn,k,os⟩ s₁ [.list xs] vs as:=⟨⟨ord,hord,hlaid⟩,hrd,hin,hold,keeps,hal.1,hal.2.2.1⟩
 refine⟨vs,s₁,hlaid,?_⟩
 have hlen:=hp.2
 refine oJ (nA hrd) λv vs' bs cs evs eas r1 r2=>?_
 refine uU (vF r1) λa o vs2 n as2 ev ha ho hc hdt hr=>?_
 refine b8 (rY hr hi) λns ts hl hv hxs=>?_
 have ev2:vs= [.ref a]:=evs.trans (by rw[ev,pF r2])
 have ha:a∈as:=eas▸List.mem_append_left _ ha
 clear hold eas r1 r2 evs ev
 rw [ev2]
 rw [ev2]at L
 have h63:ns.length<=63:=by
  rw [<-hxs]
  exact pre63 hbd hmost hlen
 have hA:(H).get? a=none:=by
  have hge:=(hin.2.2 a ha).1
  cases hq:(H).get? a with
  |none=>rfl
  |some o'=>exact absurd (Heap.lt_size hq) (Nat.not_lt.mpr hge)
 have hlist:s₁.heap.IsList a ((ns.zip ts).map λx=>Value.int x.1 x.2).toArray:=⟨o,ho,hc,n,by rw[hdt,<-hv]⟩
 have W:=walk s₁ a ns ts keeps hal.1 hl h63 hlist hA
 have hnsg:s₁.heap.Ns mainGlobals ((H).nsMap mainGlobals):=by
  have:=Heap.Ns.of_isNs isn
  refine iS this λo' es n' h1 h2=>?_
  exact⟨o',es,n',keeps _ _ h1,h2⟩
 unfold aC7
 refine wpAny_bind (wpAny_nsGet hnsg ?_)
 rw [hfa]
 refine wpAny_bind (wpAny_mono W (λv s' g=>?_) λ_ _ x=>x.elim)
 refine xAAA g λz136 gk gos gg=>?_;clear g;subst z136
 refine wpAny_pure ⟨_,rfl,?_⟩
 have G:GoodWG l.row.toRowW.claim (classAt (H)) (ExcName.means (H)) [.list xs] s₁ (.ok (.ret (.bool true))) s':=
  ⟨.inl ⟨.bool true,.bool true,[],rfl,λ_=>rfl,.bool true,by rfl',λ_=>⟨.nil,λ_ h=>nomatch h⟩⟩,.of_keep gk,gos,gg⟩
 have z:=GoodWG.laid (c:=l.row.toRowW.claim) (s₀:=⟨H,#[],boot_drawn,k,os⟩) rfl rfl (ident_freeW rfl rfl rfl) L G
 exact⟨z.1,z.2.1,z.2.2⟩
theorem yH{l:OpenLaw}{H₁:World->Heap}{k:Nat}{fa:Addr}(hwr:l.writes=false)(hbd:l.bound=none)(hmost:l.most=some 63)
  (said:l.row.wellSaid=true) (prom:l.row.toRowW.promised) (hb:l.prog.bare) (o1:opensWell l.prog=true)
  (e1:opening l.prog=plainProg l.prog.main.scope.names) (f1:∀ s,fenceModules? l.prog s=some s)
  (run:∀ w os,Sem.wp (model l.prog w) Γ0 (topStub l.prog).cur (λfin _ s'=>fin= .done (.ret .none)/\s'=⟨H₁ w,#[],boot_drawn,k,os⟩) (λ_ _ _=>False) default
   ⟨boot_heap w.params,#[],boot_drawn,boot_toks,os⟩)
  (life:∀ w,(H₁ w).life=(boot_heap w.params).life)
  (old:∀ w b o,(boot_heap w.params).get? b=some o->b≠mainNs->(H₁ w).get? b=some o)
  (stat:∀ w,∃ o n,(H₁ w).get? cStatics=some o/\o.data= .dict #[] n)
  (isn:∀ w,(H₁ w).isNs mainGlobals=true) (nb:∀ w,namesBound l.prog (H₁ w)=true) (lk:∀ w,laidKept (boot_heap w.params) (H₁ w)=true)
  (ib:∀ w:World,(boot_heap w.params).isNs builtinsNs=true) (bv:∀ w:World,(boot_heap w.params).bltView=bltViewBooted)
  (bm:∀ w,builtinsGlobalAsBooted (H₁ w))
  (pin:∀ w,isTheDefsW l.prog (H₁ w) l.name) (hfa:∀ w,(H₁ w).nsMap mainGlobals l.name=some (.ref fa))
  (walk:∀ (w:World) (s₁:Shared) (a:Addr) (ns:List Int) (ts:List Tok),(∀ b o,(H₁ w).get? b=some o->s₁.heap.get? b=some o)->s₁.gens= #[]->
   ts.length=ns.length->ns.length<=63->s₁.heap.IsList a ((ns.zip ts).map λx=>Value.int x.1 x.2).toArray->(H₁ w).get? a=none->
   wpAny (model l.prog w) callerA (call (.ref fa) [.ref a]) (λv s'=>v= .bool true/\(∀ b o,s₁.heap.get? b=some o->s'.heap.get? b=some o)/\s'.os=s₁.os/\AllBare s'.gens) (λ_ _=>False) s₁):
  l.row.Holds:=by
 refine⟨said,prom,⟨hb,o1,rfl⟩,?_,λw=>?_⟩
 ·refine xEA prom λargs h1 h2=>?_
  exact⟨args,h1,(Bool.and_eq_true_iff.mp h2).1⟩
 refine aB9 (yV e1 f1 w) λs₀ hA hh hg hd ht=>?_
 refine⟨⟨s₀,hA⟩,λs' hs'=>?_⟩
 obtain rfl:s'=s₀:=AfterImport.unique hs' hA
 obtain⟨heap,gens,drawn,toks,os⟩:=s'
 dsimp only at hh hg hd ht
 subst hh hg hd ht
 have hz:Shared.asleep ⟨boot_heap w.params,#[],boot_drawn,boot_toks,os⟩:=AfterImport.life hA
 have hT:=aCd (p:=l.prog) hz (run w os) (life w) (old w) (stat w) (isn w) (nb w) (lk w) (ib w) (bv w) (bm w)
 refine⟨_,f1 _,rfl,⟨H₁ w,#[],boot_drawn,k,os⟩,hT,λn hn=>?_,λx hx=>(nomatch (show x∈([]:WRecords) from hx)),λx hx=>(nomatch (show x∈([]:WRecords) from hx)),?_⟩
 ·obtain rfl:n=l.name:=by simpa [OpenLaw.row] using hn
  exact pin w
 have hz₁:Shared.asleep ⟨H₁ w,#[],boot_drawn,k,os⟩:=Shared.asleep_of_life (life w) hz
 refine ClaimW.callFrom_of_specG (c:=l.row.toRowW.claim) (tree:=aC7 l) hz₁ rfl λargs hpre hlay ord hord=>?_
 refine bP (yP (k:=k) (os:=os) hbd hmost (isn w) (hfa w) (walk w) args hpre hlay ord hord) λvs s₁ q1 q2=>?_
 have no: ¬l.row.writes=true:=λq=>by rw[show l.row.writes=l.writes from rfl,hwr]at q;cases q
 exact⟨vs,s₁,q1,wpAny_mono q2 (λfin s' ⟨f,e,g1,g2,g3⟩=>⟨f,e,g1,g2,g3,λq=>absurd q no⟩) λe s' ⟨g1,g2,g3⟩=>⟨g1,g2,g3,λq=>absurd q no⟩⟩
end
section
noncomputable def H1(w:World):Heap:=absHeap (finT w) endN (boot_heap w.params).life
theorem bt0_eq(P:Params):absHeap (bt0 P) 11 (boot_heap P).life=boot_heap P:=by rfl'
theorem aEa(P:Params):((KL P).all λx=>Nat.blt x.1 endN)=true:=by rfl'
theorem y0(w:World):(KL w.params).In (H1 w):=by
 have key:∀ (K:Frag) (T:BT) (n:Nat) (life:Life),(K.map λx=>(T.get x.1).bind alive)=K.map (λx=>some x.2)->(K.all λx=>Nat.blt x.1 n)=true->K.In (absHeap T n life):=by
  intro K T n life
  induction K with
  |nil=>intro _ _ a o e;cases e
  |cons p r ih=>
   obtain⟨b,x⟩:=p
   intro h1 h2 a o e
   simp only[List.map_cons,List.cons.injEq]at h1
   simp only[List.all_cons,Bool.and_eq_true]at h2
   simp only[List.lookup]at e
   split at e
   ·rename_i q
    cases e
    obtain rfl:=beq_iff_eq.mp q
    have hlt:=Nat.le_of_ble_eq_true h2.1
    refine xEA (Option.bind_eq_some_iff.mp h1.1) λo' g1 g2=>?_
    exact(abs_get hlt g1).trans g2
   ·exact ih h1.2 h2.2 a o e
 exact key _ _ _ _ (gets w) (aEa w.params)
theorem aG6(w:World)(os:OsState):Sem.wp (model pw w) Γ0 (topStub pw).cur (λfin _ s'=>fin= .done (.ret .none)/\s'=⟨H1 w,#[],boot_drawn,endK,os⟩) (λ_ _ _=>False) default
   ⟨boot_heap w.params,#[],boot_drawn,boot_toks,os⟩:=by
 have h:=finEq w
 unfold y7 at h
 rw [<-den_eq,<-p_eq]at h
 have e:ab (boot_heap w.params).life #[] boot_drawn os (bt0 w.params) 11 boot_toks=⟨boot_heap w.params,#[],boot_drawn,boot_toks,os⟩:=by
  unfold ab;rw[bt0_eq]
 rw [<-e]
 have key:Ph (boot_heap w.params).life #[] boot_drawn os (λfin _ s'=>fin= .done (.ret .none)/\s'=⟨H1 w,#[],boot_drawn,endK,os⟩) (λ_ _ _=>False) (some ((Except.ok (PySem.Fin.done (Flow.ret Value.none)):Except Value PySem.Fin),finP w,finT w,endN,endK)):=⟨rfl,rfl⟩
 rw [<-h]at key
 exact aFo (model pw w) (boot_heap w.params).life #[] boot_drawn os (λhq=>yJ (model pw w) (boot_heap w.params).life #[] boot_drawn os 3000 hq) _ key
theorem get3(w:World):(H1 w).get? 3=some (o3 w.params):=y0 w _ _ ⋯
end
section
theorem old1(w:World)(b:Addr)(o:Obj)(h:(boot_heap w.params).get? b=some o)(hn:b≠mainNs):(H1 w).get? b=some o:=by
 have hlt:b<11:=Heap.lt_size h
 have K:=y0 w
 match b,hlt,hn with
 |0,_,_=>
  have e:(boot_heap w.params).get? 0=some (boot_o_0 w.params):=by rfl'
  rw [e]at h;cases h;exact K _ _ ⋯
 |1,_,_=>
  have e:(boot_heap w.params).get? 1=some (boot_o_1 w.params):=by rfl'
  rw [e]at h;cases h;exact K _ _ ⋯
 |2,_,_=>
  have e:(boot_heap w.params).get? 2=some (boot_o_2 w.params):=by rfl'
  rw [e]at h;cases h;exact K _ _ ⋯
 |3,_,hn=>exact absurd rfl hn
 |4,_,_=>
  have e:(boot_heap w.params).get? 4=some (boot_o_4 w.params):=by rfl'
  rw [e]at h;cases h;exact K _ _ ⋯
 |5,_,_=>
  have e:(boot_heap w.params).get? 5=some (boot_o_5 w.params):=by rfl'
  rw [e]at h;cases h;exact K _ _ ⋯
 |6,_,_=>
  have e:(boot_heap w.params).get? 6=some (boot_o_6 w.params):=by rfl'
  rw [e]at h;cases h;exact K _ _ ⋯
 |7,_,_=>
  have e:(boot_heap w.params).get? 7=some (boot_o_7 w.params):=by rfl'
  rw [e]at h;cases h;exact K _ _ ⋯
 |8,_,_=>
  have e:(boot_heap w.params).get? 8=some (boot_o_8 w.params):=by rfl'
  rw [e]at h;cases h;exact K _ _ ⋯
 |9,_,_=>
  have e:(boot_heap w.params).get? 9=some (boot_o_9 w.params):=by rfl'
  rw [e]at h;cases h;exact K _ _ ⋯
 |10,_,_=>
  have e:(boot_heap w.params).get? 10=some (boot_o_10 w.params):=by rfl'
  rw [e]at h;cases h;exact K _ _ ⋯
 |b+11,hlt,_=>exact absurd hlt (Nat.not_lt.mpr (Nat.le_add_left 11 b))
theorem ns3(w:World)(x:Str):(H1 w).nsMap mainGlobals x=(match (o3 w.params).data with | .dict es _=>nsFind es x |_=>none):=by
 unfold Heap.nsMap mainGlobals;rw[get3];rfl
theorem isn1(w:World):(H1 w).isNs mainGlobals=true:=by
 unfold Heap.isNs mainGlobals;rw[get3];kernel_rfl
theorem keys3(w:World):(H1 w).nsKeys mainGlobals=(match (o3 w.params).data with
  | .dict es _=>es.toList.filterMap λe=>match e.key with | .str n _=>some n |_=>none
  |_=>[]):=by
 unfold Heap.nsKeys mainGlobals;rw[get3];rfl
theorem nb1(w:World):namesBound pw (H1 w)=true:=by
 unfold namesBound;rw[isn1,keys3];kernel_rfl
theorem lk1(w:World):laidKept (boot_heap w.params) (H1 w)=true:=by
 unfold laidKept;rw[isn1];simp only[ns3];kernel_rfl
theorem ib1(w:World):(boot_heap w.params).isNs builtinsNs=true:=by rfl'
theorem bv1(w:World):(boot_heap w.params).bltView=bltViewBooted:=by rfl'
theorem bm1(w:World):builtinsGlobalAsBooted (H1 w):=by
 refine⟨4,boot_o_4 w.params,?_,y0 w _ _ ⋯,by rfl',by rfl'⟩
 rw [Pin.globalOf_eq (isn1 w),ns3];kernel_rfl
noncomputable def law:Str:=Str.ofString "law"
theorem fa1(w:World):(H1 w).nsMap mainGlobals law=some (.ref 270):=by rw[ns3];kernel_rfl
theorem pin1(w:World):isTheDefsW pw (H1 w) law:=by
 refine⟨270,eF w.params,_,_,_,_,(Pin.globalOf_eq (isn1 w) _).trans (fa1 w),y0 w _ _ ⋯,rfl,(by rfl':pw.theDef law=some (fPar (stA 10),b9 (stA 10),fSco (stA 10))),rfl,rfl,rfl,rfl,rfl,rfl,rfl,rfl,?_⟩
 exact⟨.inl ⟨rfl,rfl⟩,[],rfl,.inl ⟨rfl,rfl⟩⟩
theorem said5:OpenLaw.wellSaid PySem.Challenge.rw_dm0053_05=true:=by rfl'
theorem head(walk:∀ (w:World) (s₁:Shared) (a:Addr) (ns:List Int) (ts:List Tok),(∀ b o,(H1 w).get? b=some o->s₁.heap.get? b=some o)->s₁.gens= #[]->
   ts.length=ns.length->ns.length<=63->s₁.heap.IsList a ((ns.zip ts).map λx=>Value.int x.1 x.2).toArray->(H1 w).get? a=none->
   wpAny (model pw w) callerA (call (.ref 270) [.ref a]) (λv s'=>v= .bool true/\(∀ b o,s₁.heap.get? b=some o->s'.heap.get? b=some o)/\s'.os=s₁.os/\AllBare s'.gens) (λ_ _=>False) s₁):
  PySem.Challenge.rw_dm0053_05.Holds:=by
 refine holds_law said5 λsaid=>?_
 exact yH (l:=PySem.Challenge.rw_dm0053_05) rfl rfl rfl said ⟨[.list []],by decide+kernel,by decide+kernel⟩ ⟨rfl,rfl,rfl,rfl,rfl,by decide+kernel⟩ (by decide+kernel) ⋯ (λs=>by rfl')
  aG6 (λ_=>rfl) old1 (λw=>⟨boot_o_2 w.params,0,y0 w _ _ ⋯,by rfl'⟩) isn1 nb1 lk1 ib1 bv1 bm1 pin1 fa1 walk
end
section
noncomputable def nth(b:List Stmt)(k:Nat):Stmt:=(b.drop k).headD (.Pass ⟨0,0,0,0⟩)
noncomputable def e0:Expr:=.Constant .none 0 ⟨0,0,0,0⟩
noncomputable def p0:Pos:=⟨0,0,0,0⟩
noncomputable def forT:Stmt->Expr | .For t _ _ _ _=>t |_=>e0
noncomputable def forI:Stmt->Expr | .For _ i _ _ _=>i |_=>e0
noncomputable def forB:Stmt->List Stmt | .For _ _ b _ _=>b |_=>[]
noncomputable def forP:Stmt->Pos | .For _ _ _ _ p=>p |_=>p0
noncomputable def ifT:Stmt->Expr | .If t _ _ _=>t |_=>e0
noncomputable def ifB:Stmt->List Stmt | .If _ b _ _=>b |_=>[]
noncomputable def ifP:Stmt->Pos | .If _ _ _ p=>p |_=>p0
noncomputable def exE:Stmt->Expr | .Expr e _=>e |_=>e0
noncomputable def exP:Stmt->Pos | .Expr _ p=>p |_=>p0
noncomputable def yiE:Expr->Expr | .Yield (some e) _=>e |_=>e0
noncomputable def yiP:Expr->Pos | .Yield _ p=>p |_=>p0
noncomputable def gshOf(fd:FuncData)(fa:Addr)(b:List Stmt)(k:Nat):GSh:=
 let f:=nth b k
 let i1:=nth (forB f) 0
 let i2:=nth b (k+1)
 {fd:=fd,fa:=fa,pre:=b.take k,target:=forT f,iter:=forI f,cond:=ifT i1,ye:=yiE (exE (nth (ifB i1) 1)),cond2:=ifT i2,ye2:=yiE (exE (nth (ifB i2) 0)),s1:=nth (ifB i1) 0,s3:=nth (forB f) 1,s2:=(ifB i1).drop 2,p1:=yiP (exE (nth (ifB i1) 1)),p2:=exP (nth (ifB i1) 1),p3:=yiP (exE (nth (ifB i2) 0)),p4:=exP (nth (ifB i2) 0),p5:=ifP i1,p6:=ifP i2,p7:=forP f}
theorem aE7(fd:FuncData):(gshOf fd 218 (b9 (stB 5 9)) 7).body=b9 (stB 5 9):=by rfl'
end
section
noncomputable def b5(o:Obj):FuncData:=match o.data with | .func fd=>fd |_=> {name:="",qualname:="",params:=⟨[],[],none,[],[],none,[]⟩,body:=.stmts [],scope:=default,globals:=0,closure:=[],defaults:=.none,kwdefaults:=.none,doc:=.none,pyModule:=.none,annotations:=none,code:=.none,closureTuple:=.none,builtins:=0}
noncomputable abbrev gsh(P:Params):GSh:=gshOf (b5 (vP P)) 218 (b9 (stB 5 9)) 7
structure XX(C:Cx) where
 w:World
 base:∀ b o,(H1 w).get? b=some o->C.base.heap.get? b=some o
 gr:∀ ρ s l gn,C.GR ρ s l gn=eQ (gsh w.params) ρ s l gn
variable {C:Cx}
theorem XX.get(X:XX C){b:Addr}{o:Obj}(h:(KL X.w.params).lookup b=some o):C.base.heap.get? b=some o:=X.base _ _ (y0 X.w _ _ h)
theorem XX.inK(X:XX C):(KL X.w.params).In C.base.heap:=λ_ _ h=>X.get h
theorem XX.sys(X:XX C):∃ o,C.base.heap.get? sysModules=some o:=⟨_,X.get (Option.eq_some_of_isSome (by rfl':((KL X.w.params).lookup sysModules).isSome=true))⟩
theorem zL{h:Heap}{a:Addr}{o:Obj}(e:h.get? a=some o)(hn:(match o.data with | .dict es _=>es.all (λx=>match x.key with | .str _ _=>true |_=>false) |_=>false)=true):
  h.Ns a (λx=>match o.data with | .dict es _=>nsFind es x |_=>none):=by
 have q:h.isNs a=true:=by unfold Heap.isNs;rw[e];exact hn
 have z:=Heap.Ns.of_isNs q
 have y:h.nsMap a=(λx=>match o.data with | .dict es _=>nsFind es x |_=>none):=by funext x;unfold Heap.nsMap;rw[e];rfl
 rw [<-y];exact z
theorem XX.smc(X:XX C):SMC C:=by
 refine⟨⟨_,_,_,_,_,_,_,_,_,_,_,_,X.get (o:=o242 X.w.params) ⋯⟩,⟨_,zL (X.get (o:=o241 X.w.params) ⋯) ⋯,?_,by rfl',by rfl',by rfl',?_⟩,?_⟩
 ·intro x hx
  simp only[dQ,List.mem_cons,List.not_mem_nil,or_false]at hx
  rcases hx with rfl |rfl |rfl |rfl |rfl |rfl |rfl |rfl |rfl |rfl<;>kernel_rfl
 ·intro p hp
  simp only[fP,List.mem_cons,List.not_mem_nil,or_false]at hp
  rcases hp with rfl |rfl |rfl |rfl |rfl |rfl |rfl |rfl |rfl<;>kernel_rfl
 ·intro p hp
  simp only[fP,List.mem_cons,List.not_mem_nil,or_false]at hp
  rcases hp with rfl |rfl |rfl |rfl |rfl |rfl |rfl |rfl |rfl
  ·exact⟨pS X.w.params,X.get ⋯,rfl⟩
  ·exact⟨tN X.w.params,X.get ⋯,rfl⟩
  ·exact⟨rU X.w.params,X.get ⋯,rfl⟩
  ·exact⟨nV X.w.params,X.get ⋯,rfl⟩
  ·exact⟨kH X.w.params,X.get ⋯,rfl⟩
  ·exact⟨iH X.w.params,X.get ⋯,rfl⟩
  ·exact⟨hV X.w.params,X.get ⋯,rfl⟩
  ·exact⟨nU X.w.params,X.get ⋯,rfl⟩
  ·exact⟨vP X.w.params,X.get ⋯,rfl⟩
theorem XX.kc(X:XX C):KCx C (KL X.w.params) where
 mem:=X.inK
 makes:=by rfl'
 init:=by rfl'
 initT:=by rfl'
 callS:=by rfl'
 callM:=by rfl'
 typM:=by rfl'
 clsM:=⟨_,_,_,_,(by rfl':(KL X.w.params).lookup aE=some (o135 X.w.params)),by rfl',by rfl',by rfl',by rfl',by rfl',by rfl',by rfl'⟩
 clsS:=⟨_,_,_,_,(by rfl':(KL X.w.params).lookup dY=some (o242 X.w.params))⟩
 readsM:=by rfl'
 newM:=by rfl'
 makeM:=by rfl'
 smM:=by rfl'
 cmM:=⟨Value.bool false,by rfl'⟩
 initM:=by rfl'
 newT:=by rfl'
theorem XX.km(X:XX C):KMx C (KL X.w.params) where
 toK:=X.kc
 bases:=⟨_,_,_,_,(by rfl':(KL X.w.params).lookup aE=some (o135 X.w.params)),by rfl'⟩
 iter:=by rfl'
 len:=by rfl'
 lt:=by rfl'
 tup:=by rfl'
noncomputable def nmL(env:Env)(x:Str):Bool:=(match env.kindOf x with |some .local=>true |some .cell=>true |some .free=>true |_=>false) && !(x==("__debug__" :Str)) && !(x==("__classdict__" :Str))
theorem xX{env:Env}{x:Str}(h:nmL env x=true):(env.kindOf x=some .local∨env.kindOf x=some .cell∨env.kindOf x=some .free)/\(x==("__debug__" :Str))=false/\(x==("__classdict__" :Str))=false:=by
 unfold nmL at h
 have h1:=Bool.and_eq_true_iff.mp h
 have h2:=Bool.and_eq_true_iff.mp h1.1
 refine⟨?_,Bool.not_eq_true' _ |>.mp h2.2,Bool.not_eq_true' _ |>.mp h1.2⟩
 have h3:=h2.1
 revert h3
 cases env.kindOf x with
 |none=>intro h;cases h
 |some k=>cases k<;>intro h<;>first |exact .inl rfl |exact .inr (.inl rfl) |exact .inr (.inr rfl) |cases h
theorem EV.nm{r:Nat}{env:Env}{x:Str}{pos:Pos}(h:nmL env x=true:=by rfl'):EV C r env (.Name x pos) (eN x):=EV.name (xX h).1 (xX h).2.1 (xX h).2.2
noncomputable def nmB(env:Env)(x:Str):Bool:=match env.kindOf x with |some .local=>true |some .cell=>true |_=>false
theorem gQ{env:Env}{l:List Str}(h:l.all (nmB env)=true)(x:Str)(hx:x∈l):env.kindOf x=some .local∨env.kindOf x=some .cell:=by
 have h3:=List.all_eq_true.mp h x hx
 unfold nmB at h3
 revert h3
 cases env.kindOf x with
 |none=>intro h;cases h
 |some k=>cases k<;>intro h<;>first |exact .inl rfl |exact .inr rfl |cases h
noncomputable def nmD(ns:List (Str×NameKind))(x:Str):Bool:=match ns.lookup x with |some .local=>true |some .cell=>true |_=>false
theorem dT{ns:List (Str×NameKind)}{l:List Str}(h:l.all (nmD ns)=true)(x:Str)(hx:x∈l):ns.lookup x=some .local∨ns.lookup x=some .cell:=by
 have h3:=List.all_eq_true.mp h x hx
 unfold nmD at h3
 revert h3
 cases ns.lookup x with
 |none=>intro h;cases h
 |some k=>cases k<;>intro h<;>first |exact .inl rfl |exact .inr rfl |cases h
theorem nml_ok{ns:List (Str×NameKind)}{l:List Str}(h:l.all (λx=>ns.lookup x==some .local)=true)(x:Str)(hx:x∈l):ns.lookup x=some .local:=eq_of_beq (List.all_eq_true.mp h x hx)
noncomputable abbrev Sx(C:Cx)(r:Nat)(o:Obj)(L a:Addr)(b:Stmt)(i:Nat)(f:SF):Prop:=SV C r (callEnvC (b5 o) L a) (((b9 b).drop i).headD (.Pass ⟨0,0,0,0⟩)) f
end
section
variable {C:Cx}
theorem nofree{l:List (Str×NameKind)}(h:(l.all λx=>match x.2 with | .free=>false |_=>true)=true)(x:Str):l.lookup x≠some .free:=by
 intro e
 have:=List.all_eq_true.mp h _ (mem_of_lookup e)
 simp at this
theorem XX.ns3(X:XX C):C.base.heap.Ns mainGlobals (λx=>match (o3 X.w.params).data with | .dict es _=>nsFind es x |_=>none):=zL (X.get (o:=o3 X.w.params) ⋯) ⋯
theorem XX.ns0(X:XX C):C.base.heap.Ns builtinsNs (λx=>match (boot_o_0 X.w.params).data with | .dict es _=>nsFind es x |_=>none):=zL (X.get (o:=boot_o_0 X.w.params) ⋯) ⋯
theorem aK{α:Type}{us:List α}{n:Nat}(h:us.length=n+1):∃ a t,us=a :: t/\t.length=n:=by
 cases us with
 |nil=>simp at h
 |cons a t=>exact⟨a,t,rfl,by simpa using h⟩
theorem XX.g_Match(X:XX C):Glo C "Match" (.ref aE):=⟨_,X.ns3,.inl ⋯⟩
theorem XX.g_SequenceMatcher(X:XX C):Glo C "SequenceMatcher" (.ref dY):=⟨_,X.ns3,.inl ⋯⟩
theorem XX.g__law_reach(X:XX C):Glo C "_law_reach" (.ref 253):=⟨_,X.ns3,.inl ⋯⟩
theorem XX.g__law_turn(X:XX C):Glo C "_law_turn" (.ref 260):=⟨_,X.ns3,.inl ⋯⟩
theorem XX.g__law_mixed(X:XX C):Glo C "_law_mixed" (.ref 265):=⟨_,X.ns3,.inl ⋯⟩
theorem XX.g_list(X:XX C):Glo C "list" (.type "list"):=⟨_,X.ns3,.inr ⟨by rfl',_,X.ns0,by rfl'⟩⟩
theorem XX.g_map(X:XX C):Glo C "map" (.type "map"):=⟨_,X.ns3,.inr ⟨by rfl',_,X.ns0,by rfl'⟩⟩
theorem XX.g_set(X:XX C):Glo C "set" (.type "set"):=⟨_,X.ns3,.inr ⟨by rfl',_,X.ns0,by rfl'⟩⟩
theorem XX.g_range(X:XX C):Glo C "range" (.type "range"):=⟨_,X.ns3,.inr ⟨by rfl',_,X.ns0,by rfl'⟩⟩
theorem XX.g_enumerate(X:XX C):Glo C "enumerate" (.type "enumerate"):=⟨_,X.ns3,.inr ⟨by rfl',_,X.ns0,by rfl'⟩⟩
theorem XX.g_tuple(X:XX C):Glo C "tuple" (.type "tuple"):=⟨_,X.ns3,.inr ⟨by rfl',_,X.ns0,by rfl'⟩⟩
theorem XX.g_len(X:XX C):Glo C "len" (.builtin "len"):=⟨_,X.ns3,.inr ⟨by rfl',_,X.ns0,by rfl'⟩⟩
theorem XX.g_max(X:XX C):Glo C "max" (.builtin "max"):=⟨_,X.ns3,.inr ⟨by rfl',_,X.ns0,by rfl'⟩⟩
theorem XX.g_min(X:XX C):Glo C "min" (.builtin "min"):=⟨_,X.ns3,.inr ⟨by rfl',_,X.ns0,by rfl'⟩⟩
theorem XX.g_sum(X:XX C):Glo C "sum" (.builtin "sum"):=⟨_,X.ns3,.inr ⟨by rfl',_,X.ns0,by rfl'⟩⟩
theorem XX.d_new(X:XX C):Def C 82 (b5 (o82 X.w.params)) (b9 (stB 3 4)) where
 obj:=⟨_,X.get (o:=o82 X.w.params) ⋯,rfl⟩
 code:=⟨81,_,_,_,rfl,X.get (o:=o81 X.w.params) ⋯,rfl,rfl⟩
 body:=rfl
 clo:=rfl
 gl:=rfl
 bi:=rfl
 kind:=by rfl'
 co:=by rfl'
 free:=nofree ⋯
theorem XX.b_new(X:XX C):Binds C (b5 (o82 X.w.params)) ["_cls","a","b","size"] []:=by
 intro s us hk hl
 replace hl:us.length=4:=by simpa using hl
 refine bP (aK hl) λu0 us0 z137 h0=>?_;subst z137
 refine bP (aK h0) λu1 us1 z138 h1=>?_;subst z138
 refine bP (aK h1) λu2 us2 z139 h2=>?_;subst z139
 refine bP (aK h2) λu3 us3 z140 h3=>?_;subst z140
 obtain rfl:=List.eq_nil_of_length_eq_zero h3
 exact BindsTo.of_eq rfl
theorem XX.d_make(X:XX C):Def C 89 (b5 (o89 X.w.params)) (b9 (stB 3 5)) where
 obj:=⟨_,X.get (o:=o89 X.w.params) ⋯,rfl⟩
 code:=⟨88,_,_,_,rfl,X.get (o:=o88 X.w.params) ⋯,rfl,rfl⟩
 body:=rfl
 clo:=rfl
 gl:=rfl
 bi:=rfl
 kind:=by rfl'
 co:=by rfl'
 free:=nofree ⋯
theorem XX.b_make(X:XX C):Binds C (b5 (o89 X.w.params)) ["cls","iterable"] []:=by
 intro s us hk hl
 replace hl:us.length=2:=by simpa using hl
 refine bP (aK hl) λu0 us0 z141 h0=>?_;subst z141
 refine bP (aK h0) λu1 us1 z142 h1=>?_;subst z142
 obtain rfl:=List.eq_nil_of_length_eq_zero h1
 exact BindsTo.of_eq rfl
theorem XX.d_init(X:XX C):Def C 160 (b5 (pS X.w.params)) (b9 (stB 5 1)) where
 obj:=⟨_,X.get (o:=pS X.w.params) ⋯,rfl⟩
 code:=⟨159,_,_,_,rfl,X.get (o:=o159 X.w.params) ⋯,rfl,rfl⟩
 body:=rfl
 clo:=rfl
 gl:=rfl
 bi:=rfl
 kind:=by rfl'
 co:=by rfl'
 free:=nofree ⋯
theorem XX.b_init1(X:XX C):Binds C (b5 (pS X.w.params)) ["self","isjunk","a","b","autojunk"] [Value.bool true]:=by
 intro s us hk hl
 replace hl:us.length=4:=by simpa using hl
 refine bP (aK hl) λu0 us0 z148 h0=>?_;subst z148
 refine bP (aK h0) λu1 us1 z149 h1=>?_;subst z149
 refine bP (aK h1) λu2 us2 z150 h2=>?_;subst z150
 refine bP (aK h2) λu3 us3 z151 h3=>?_;subst z151
 obtain rfl:=List.eq_nil_of_length_eq_zero h3
 exact BindsTo.of_defaults rfl (hk _ _ (X.get (o:=o153 X.w.params) ⋯)) rfl rfl rfl
theorem XX.d_set_seqs(X:XX C):Def C 167 (b5 (tN X.w.params)) (b9 (stB 5 2)) where
 obj:=⟨_,X.get (o:=tN X.w.params) ⋯,rfl⟩
 code:=⟨166,_,_,_,rfl,X.get (o:=o166 X.w.params) ⋯,rfl,rfl⟩
 body:=rfl
 clo:=rfl
 gl:=rfl
 bi:=rfl
 kind:=by rfl'
 co:=by rfl'
 free:=nofree ⋯
theorem XX.b_set_seqs(X:XX C):Binds C (b5 (tN X.w.params)) ["self","a","b"] []:=by
 intro s us hk hl
 replace hl:us.length=3:=by simpa using hl
 refine bP (aK hl) λu0 us0 z152 h0=>?_;subst z152
 refine bP (aK h0) λu1 us1 z153 h1=>?_;subst z153
 refine bP (aK h1) λu2 us2 z154 h2=>?_;subst z154
 obtain rfl:=List.eq_nil_of_length_eq_zero h2
 exact BindsTo.of_eq rfl
theorem XX.d_set_seq1(X:XX C):Def C 174 (b5 (rU X.w.params)) (b9 (stB 5 3)) where
 obj:=⟨_,X.get (o:=rU X.w.params) ⋯,rfl⟩
 code:=⟨173,_,_,_,rfl,X.get (o:=o173 X.w.params) ⋯,rfl,rfl⟩
 body:=rfl
 clo:=rfl
 gl:=rfl
 bi:=rfl
 kind:=by rfl'
 co:=by rfl'
 free:=nofree ⋯
theorem XX.b_set_seq1(X:XX C):Binds C (b5 (rU X.w.params)) ["self","a"] []:=by
 intro s us hk hl
 replace hl:us.length=2:=by simpa using hl
 refine bP (aK hl) λu0 us0 z155 h0=>?_;subst z155
 refine bP (aK h0) λu1 us1 z156 h1=>?_;subst z156
 obtain rfl:=List.eq_nil_of_length_eq_zero h1
 exact BindsTo.of_eq rfl
theorem XX.d_set_seq2(X:XX C):Def C 181 (b5 (nV X.w.params)) (b9 (stB 5 4)) where
 obj:=⟨_,X.get (o:=nV X.w.params) ⋯,rfl⟩
 code:=⟨180,_,_,_,rfl,X.get (o:=o180 X.w.params) ⋯,rfl,rfl⟩
 body:=rfl
 clo:=rfl
 gl:=rfl
 bi:=rfl
 kind:=by rfl'
 co:=by rfl'
 free:=nofree ⋯
theorem XX.b_set_seq2(X:XX C):Binds C (b5 (nV X.w.params)) ["self","b"] []:=by
 intro s us hk hl
 replace hl:us.length=2:=by simpa using hl
 refine bP (aK hl) λu0 us0 z157 h0=>?_;subst z157
 refine bP (aK h0) λu1 us1 z158 h1=>?_;subst z158
 obtain rfl:=List.eq_nil_of_length_eq_zero h1
 exact BindsTo.of_eq rfl
theorem XX.d_chain_b(X:XX C):Def C 188 (b5 (kH X.w.params)) (b9 (stB 5 5)) where
 obj:=⟨_,X.get (o:=kH X.w.params) ⋯,rfl⟩
 code:=⟨187,_,_,_,rfl,X.get (o:=o187 X.w.params) ⋯,rfl,rfl⟩
 body:=rfl
 clo:=rfl
 gl:=rfl
 bi:=rfl
 kind:=by rfl'
 co:=by rfl'
 free:=nofree ⋯
theorem XX.b_chain_b(X:XX C):Binds C (b5 (kH X.w.params)) ["self"] []:=by
 intro s us hk hl
 replace hl:us.length=1:=by simpa using hl
 refine bP (aK hl) λu0 us0 z159 h0=>?_;subst z159
 obtain rfl:=List.eq_nil_of_length_eq_zero h0
 exact BindsTo.of_eq rfl
theorem XX.d_find_longest_match(X:XX C):Def C 196 (b5 (iH X.w.params)) (b9 (stB 5 6)) where
 obj:=⟨_,X.get (o:=iH X.w.params) ⋯,rfl⟩
 code:=⟨195,_,_,_,rfl,X.get (o:=o195 X.w.params) ⋯,rfl,rfl⟩
 body:=rfl
 clo:=rfl
 gl:=rfl
 bi:=rfl
 kind:=by rfl'
 co:=by rfl'
 free:=nofree ⋯
theorem XX.b_find_longest_match(X:XX C):Binds C (b5 (iH X.w.params)) ["self","alo","ahi","blo","bhi"] []:=by
 intro s us hk hl
 replace hl:us.length=5:=by simpa using hl
 refine bP (aK hl) λu0 us0 z160 h0=>?_;subst z160
 refine bP (aK h0) λu1 us1 z161 h1=>?_;subst z161
 refine bP (aK h1) λu2 us2 z162 h2=>?_;subst z162
 refine bP (aK h2) λu3 us3 z163 h3=>?_;subst z163
 refine bP (aK h3) λu4 us4 z164 h4=>?_;subst z164
 obtain rfl:=List.eq_nil_of_length_eq_zero h4
 exact BindsTo.of_defaults rfl (hk _ _ (X.get (o:=o189 X.w.params) ⋯)) rfl rfl rfl
theorem XX.d_get_matching_blocks(X:XX C):Def C 203 (b5 (hV X.w.params)) (b9 (stB 5 7)) where
 obj:=⟨_,X.get (o:=hV X.w.params) ⋯,rfl⟩
 code:=⟨202,_,_,_,rfl,X.get (o:=o202 X.w.params) ⋯,rfl,rfl⟩
 body:=rfl
 clo:=rfl
 gl:=rfl
 bi:=rfl
 kind:=by rfl'
 co:=by rfl'
 free:=nofree ⋯
theorem XX.b_get_matching_blocks(X:XX C):Binds C (b5 (hV X.w.params)) ["self"] []:=by
 intro s us hk hl
 replace hl:us.length=1:=by simpa using hl
 refine bP (aK hl) λu0 us0 z165 h0=>?_;subst z165
 obtain rfl:=List.eq_nil_of_length_eq_zero h0
 exact BindsTo.of_eq rfl
theorem XX.d_get_opcodes(X:XX C):Def C 210 (b5 (nU X.w.params)) (b9 (stB 5 8)) where
 obj:=⟨_,X.get (o:=nU X.w.params) ⋯,rfl⟩
 code:=⟨209,_,_,_,rfl,X.get (o:=o209 X.w.params) ⋯,rfl,rfl⟩
 body:=rfl
 clo:=rfl
 gl:=rfl
 bi:=rfl
 kind:=by rfl'
 co:=by rfl'
 free:=nofree ⋯
theorem XX.b_get_opcodes(X:XX C):Binds C (b5 (nU X.w.params)) ["self"] []:=by
 intro s us hk hl
 replace hl:us.length=1:=by simpa using hl
 refine bP (aK hl) λu0 us0 z166 h0=>?_;subst z166
 obtain rfl:=List.eq_nil_of_length_eq_zero h0
 exact BindsTo.of_eq rfl
theorem XX.d_get_grouped_opcodes(X:XX C):Def C 218 (b5 (vP X.w.params)) (b9 (stB 5 9)) where
 obj:=⟨_,X.get (o:=vP X.w.params) ⋯,rfl⟩
 code:=⟨217,_,_,_,rfl,X.get (o:=o217 X.w.params) ⋯,rfl,rfl⟩
 body:=rfl
 clo:=rfl
 gl:=rfl
 bi:=rfl
 kind:=by rfl'
 co:=by rfl'
 free:=nofree ⋯
theorem XX.b_get_grouped_opcodes(X:XX C):Binds C (b5 (vP X.w.params)) ["self","n"] []:=by
 intro s us hk hl
 replace hl:us.length=2:=by simpa using hl
 refine bP (aK hl) λu0 us0 z167 h0=>?_;subst z167
 refine bP (aK h0) λu1 us1 z168 h1=>?_;subst z168
 obtain rfl:=List.eq_nil_of_length_eq_zero h1
 exact BindsTo.of_defaults rfl (hk _ _ (X.get (o:=o211 X.w.params) ⋯)) rfl rfl rfl
theorem XX.d__law_reach(X:XX C):Def C 253 (b5 (vO X.w.params)) (b9 (stA 7)) where
 obj:=⟨_,X.get (o:=vO X.w.params) ⋯,rfl⟩
 code:=⟨252,_,_,_,rfl,X.get (o:=o252 X.w.params) ⋯,rfl,rfl⟩
 body:=rfl
 clo:=rfl
 gl:=rfl
 bi:=rfl
 kind:=by rfl'
 co:=by rfl'
 free:=nofree ⋯
theorem XX.b__law_reach(X:XX C):Binds C (b5 (vO X.w.params)) ["changes","n","size"] []:=by
 intro s us hk hl
 replace hl:us.length=3:=by simpa using hl
 refine bP (aK hl) λu0 us0 z170 h0=>?_;subst z170
 refine bP (aK h0) λu1 us1 z171 h1=>?_;subst z171
 refine bP (aK h1) λu2 us2 z172 h2=>?_;subst z172
 obtain rfl:=List.eq_nil_of_length_eq_zero h2
 exact BindsTo.of_eq rfl
theorem XX.d__law_turn(X:XX C):Def C 260 (b5 (vN X.w.params)) (b9 (stA 8)) where
 obj:=⟨_,X.get (o:=vN X.w.params) ⋯,rfl⟩
 code:=⟨259,_,_,_,rfl,X.get (o:=o259 X.w.params) ⋯,rfl,rfl⟩
 body:=rfl
 clo:=rfl
 gl:=rfl
 bi:=rfl
 kind:=by rfl'
 co:=by rfl'
 free:=nofree ⋯
theorem XX.b__law_turn(X:XX C):Binds C (b5 (vN X.w.params)) ["work","place","group","one","two"] []:=by
 intro s us hk hl
 replace hl:us.length=5:=by simpa using hl
 refine bP (aK hl) λu0 us0 z173 h0=>?_;subst z173
 refine bP (aK h0) λu1 us1 z174 h1=>?_;subst z174
 refine bP (aK h1) λu2 us2 z175 h2=>?_;subst z175
 refine bP (aK h2) λu3 us3 z176 h3=>?_;subst z176
 refine bP (aK h3) λu4 us4 z177 h4=>?_;subst z177
 obtain rfl:=List.eq_nil_of_length_eq_zero h4
 exact BindsTo.of_eq rfl
theorem XX.d__law_mixed(X:XX C):Def C 265 (b5 (vM X.w.params)) (b9 (stA 9)) where
 obj:=⟨_,X.get (o:=vM X.w.params) ⋯,rfl⟩
 code:=⟨264,_,_,_,rfl,X.get (o:=o264 X.w.params) ⋯,rfl,rfl⟩
 body:=rfl
 clo:=rfl
 gl:=rfl
 bi:=rfl
 kind:=by rfl'
 co:=by rfl'
 free:=nofree ⋯
theorem XX.b__law_mixed(X:XX C):Binds C (b5 (vM X.w.params)) ["first","second","changes","reach","on"] []:=by
 intro s us hk hl
 replace hl:us.length=5:=by simpa using hl
 refine bP (aK hl) λu0 us0 z178 h0=>?_;subst z178
 refine bP (aK h0) λu1 us1 z179 h1=>?_;subst z179
 refine bP (aK h1) λu2 us2 z180 h2=>?_;subst z180
 refine bP (aK h2) λu3 us3 z181 h3=>?_;subst z181
 refine bP (aK h3) λu4 us4 z182 h4=>?_;subst z182
 obtain rfl:=List.eq_nil_of_length_eq_zero h4
 exact BindsTo.of_eq rfl
theorem XX.d_law(X:XX C):Def C 270 (b5 (eF X.w.params)) (b9 (stA 10)) where
 obj:=⟨_,X.get (o:=eF X.w.params) ⋯,rfl⟩
 code:=⟨269,_,_,_,rfl,X.get (o:=o269 X.w.params) ⋯,rfl,rfl⟩
 body:=rfl
 clo:=rfl
 gl:=rfl
 bi:=rfl
 kind:=by rfl'
 co:=by rfl'
 free:=nofree ⋯
theorem XX.b_law(X:XX C):Binds C (b5 (eF X.w.params)) ["script"] []:=by
 intro s us hk hl
 replace hl:us.length=1:=by simpa using hl
 refine bP (aK hl) λu0 us0 z183 h0=>?_;subst z183
 obtain rfl:=List.eq_nil_of_length_eq_zero h0
 exact BindsTo.of_eq rfl
theorem XX.gc(X:XX C):GCx C (gsh X.w.params) where
 gr:=X.gr
 loc:=λL x=>by
  have h:∀ k,((gsh X.w.params).envL L).kindOf x=some k->k≠ .cell/\k≠ .free:=λk e=>by
   have h2:(b5 (vP X.w.params)).scope.names.all (λp=>match p.2 with | .cell=>false | .free=>false |_=>true)=true:=by rfl'
   have:=List.all_eq_true.mp h2 _ (mem_of_lookup e)
   constructor<;>rintro rfl<;>simp at this
  exact⟨λe=>(h _ e).1 rfl,λe=>(h _ e).2 rfl⟩
 cells:=λL=>by rfl'
 kind:=by rfl'
 gl:=by rfl'
 bi:=by rfl'
theorem XX.iop_Add(X:XX C){r:Nat}:OpR C r (inplaceOp .Add) oAdd:=OpR.iadd
end
section
variable {C:Cx}(X:XX C)(P:Params)(L:Addr)
theorem XX.mf(X:XX C)(h:Heap)(hk:∀ b o,C.base.heap.get? b=some o->h.get? b=some o):uS C.M h:=mfacts X.kc X.km.bases (X.kc.mem.keeps hk)
noncomputable def aAb(X:XX C):SF:=(sK .next)
theorem aCu:Sx C 1 (o82 P) L 82 (stB 3 4) 0 (aAb X):=(SV.doc rfl rfl)
noncomputable def aAa(X:XX C):SF:=(fM (aFu (esC (eN "_cls") (esC (bT (esC (eN "a") (esC (eN "b") (esC (eN "size") esN)))) esN))))
theorem aCt:Sx C 1 (o82 P) L 82 (stB 3 4) 1 (aAa X):=(SV.ret (EV.tnew X.mf X.g_tuple ⋯ (EVs.cons EV.nm (EVs.cons (EV.tuple (EVs.cons EV.nm (EVs.cons EV.nm (EVs.cons EV.nm EVs.nil)))) EVs.nil)) ⟨.inr ⟨_,_,rfl,rfl⟩,λ_=>rfl⟩ ⟨rfl,⋯,⋯⟩))
noncomputable def f_new(X:XX C):SF:=(aD (aAb X) (aD (aAa X) (sK .next)))
theorem sv_new:SVs C 1 (callEnvC (b5 (o82 P)) L 82) (b9 (stB 3 4)) (f_new X):=(SVs.cons (aCu X P L) (SVs.cons (aCt X P L) SVs.nil))
noncomputable def wK(X:XX C):SF:=(sK .next)
theorem aAy:Sx C 1 (o89 P) L 89 (stB 3 5) 0 (wK X):=(SV.doc rfl rfl)
noncomputable def wJ(X:XX C):SF:=(aX "result" (aFu (esC (eN "cls") (esC (eN "iterable") esN))))
theorem aAx:Sx C 1 (o89 P) L 89 (stB 3 5) 1 (wJ X):=(SV.assign (EV.tnew X.mf X.g_tuple ⋯ (EVs.cons EV.nm (EVs.cons EV.nm EVs.nil)) ⟨.inr ⟨_,_,rfl,rfl⟩,λ_=>rfl⟩ ⟨rfl,⋯,⋯⟩))
noncomputable def wI(X:XX C):SF:=(sIf (tE (aB (bB not) (aM cG (esC (eN "result") esN)) (eK (.int 3)))) sNo (sK .next))
theorem aAw:Sx C 1 (o89 P) L 89 (stB 3 5) 2 (wI X):=(SV.ite (TV.cmp1 (EV.call (CV.lenM X.km) X.g_len (EVs.cons EV.nm EVs.nil)) EV.int OpR.ne) SVs.no SVs.nil)
noncomputable def wH(X:XX C):SF:=(fM (eN "result"))
theorem aAv:Sx C 1 (o89 P) L 89 (stB 3 5) 3 (wH X):=(SV.ret EV.nm)
noncomputable def f_make(X:XX C):SF:=(aD (wK X) (aD (wJ X) (aD (wI X) (aD (wH X) (sK .next)))))
theorem aGw:SVs C 1 (callEnvC (b5 (o89 P)) L 89) (b9 (stB 3 5)) (f_make X):=(SVs.cons (aAy X P L) (SVs.cons (aAx X P L) (SVs.cons (aAw X P L) (SVs.cons (aAv X P L) SVs.nil))))
theorem XX.newM(X:XX C):NewM C 2:=by
 intro A s ρ H a b c i j k hr S ra rb rc
 refine l5 X.d_new ⋯ X.b_new (λ_ _=>.nil) (dT ⋯) (λL=>sv_new X X.w.params L) hr S (.cons (.raw _) (.cons ra (.cons rb (.cons rc .nil)))) ⟨rfl,?_⟩
 exact(show _=(3<100/\(V.mat i j k=V.mat i j k/\H=H)) by rfl').mpr ⟨by decide,rfl,rfl⟩
theorem XX.makeM(X:XX C):qX C 2:=by
 intro A s ρ H a i j k hr S ra
 refine l5 X.d_make ⋯ X.b_make (λ_ _=>.nil) (dT ⋯) (λL=>aGw X X.w.params L) hr S (.cons (.raw _) (.cons ra .nil)) ⟨rfl,?_⟩
 exact(show _=(V.mat i j k=V.mat i j k/\H=H) by rfl').mpr ⟨rfl,rfl⟩
theorem XX.cv_Match(X:XX C):CV C 3 (.ref aE) yU:=CV.mat X.kc X.newM
noncomputable def lZ(X:XX C):SF:=(sK .next)
theorem rN:Sx C 1 (rU P) L 174 (stB 5 3) 0 (lZ X):=(SV.doc rfl rfl)
noncomputable def lY(X:XX C):SF:=(sIf (tE (aB (oIs id) (eN "a") (d4 "a" (eN "self")))) (aD (sK (.ret .none)) (sK .next)) (sK .next))
theorem rM:Sx C 1 (rU P) L 174 (stB 5 3) 1 (lY X):=(SV.ite (TV.cmp1 EV.nm (EV.attr X.smc (by decide+kernel) EV.nm) OpR.is_) (SVs.cons SV.ret0 SVs.nil) SVs.nil)
noncomputable def lX(X:XX C):SF:=(cY (eN "a") (eJ "a" (eN "self")))
theorem rK:Sx C 1 (rU P) L 174 (stB 5 3) 2 (lX X):=(SV.assigns EV.nm (ALs.one (AV.attr X.smc (by decide+kernel) EV.nm)))
noncomputable def lW(X:XX C):SF:=(cY (eK .none) (iZ (eJ "matching_blocks" (eN "self")) (eJ "opcodes" (eN "self"))))
theorem rH:Sx C 1 (rU P) L 174 (stB 5 3) 3 (lW X):=(SV.assigns EV.none (ALs.cons (AV.attr X.smc (by decide+kernel) EV.nm) (ALs.one (AV.attr X.smc (by decide+kernel) EV.nm)) rfl ⟨_,_,rfl⟩))
noncomputable def qF(X:XX C):SF:=(aD (lZ X) (aD (lY X) (aD (lX X) (aD (lW X) (sK .next)))))
theorem u8:SVs C 1 (callEnvC (b5 (rU P)) L 174) (b9 (stB 5 3)) (qF X):=(SVs.cons (rN X P L) (SVs.cons (rM X P L) (SVs.cons (rK X P L) (SVs.cons (rH X P L) SVs.nil))))
noncomputable def iQ(X:XX C):CF:=l8 ["self","a"] [] (qF X)
theorem wY(X:XX C):CV C 2 (.ref 174) (iQ X):=CV.def_ X.d_set_seq1 ⋯ X.b_set_seq1 (λ_ _=>.nil) (dT ⋯) (λL=>u8 X X.w.params L)
noncomputable def nG(X:XX C):SF:=(aX "b" (d4 "b" (eN "self")))
theorem tD:Sx C 1 (kH P) L 188 (stB 5 5) 0 (nG X):=(SV.assign (EV.attr X.smc (by decide+kernel) EV.nm))
noncomputable def nF(X:XX C):SF:=(cY wU (iZ (eJ "b2j" (eN "self")) (aN "b2j")))
theorem tC:Sx C 1 (kH P) L 188 (stB 5 5) 1 (nF X):=(SV.assigns EV.dict0 (ALs.cons (AV.attr X.smc (by decide+kernel) EV.nm) (ALs.one AV.name) rfl ⟨_,_,rfl⟩))
noncomputable def nD(X:XX C):SF:=(mP (j4 C) (iL (eN "b")) (cU 2 (asC (aN "i") (asC (aN "elt") asN))) (aD (aX "indices" (aFv (eN "b2j") (eN "elt") (gU esN))) (aD (bO (d7 (eN "indices") (eN "i"))) (sK .next))))
theorem tA:Sx C 1 (kH P) L 188 (stB 5 5) 2 (nD X):=(SV.for_ (K:=(j4 C)) (IV.enum EV.nm X.g_enumerate ⋯ ⟨.inr ⟨_,_,rfl,rfl⟩,λ_=>rfl⟩ rfl) (AV.tupleM X.km (AVs.cons AV.name (AVs.cons AV.name AVs.nil))) (SVs.cons (SV.assign (EV.setdefault X.sys EV.nm EV.nm (EV.list EVs.nil) ⟨rfl,⋯,⋯⟩ rfl)) (SVs.cons (SV.expr (EV.append EV.nm EV.nm)) SVs.nil)) ⟨⟨_,_,_,rfl⟩,Nat.le_of_ble_eq_true rfl⟩ (λ_=>rfl))
noncomputable def jM(X:XX C):SF:=(cY (aM cSet esN) (iZ (eJ "bjunk" (eN "self")) (aN "junk")))
theorem s9:Sx C 1 (kH P) L 188 (stB 5 5) 3 (jM X):=(SV.assigns (EV.call CV.set X.g_set EVs.nil ⟨.inl rfl,λ_=>rfl⟩) (ALs.cons (AV.attr X.smc (by decide+kernel) EV.nm) (ALs.one AV.name) rfl ⟨_,_,rfl⟩))
noncomputable def jL(X:XX C):SF:=(aX "isjunk" (d4 "isjunk" (eN "self")))
theorem s8:Sx C 1 (kH P) L 188 (stB 5 5) 4 (jL X):=(SV.assign (EV.attr X.smc (by decide+kernel) EV.nm))
noncomputable def jK(X:XX C):SF:=(sIf (tE (eN "isjunk")) sNo (sK .next))
theorem s6:Sx C 1 (kH P) L 188 (stB 5 5) 5 (jK X):=(SV.ite (TV.val EV.nm) SVs.no SVs.nil)
noncomputable def jJ(X:XX C):SF:=(cY (aM cSet esN) (iZ (eJ "bpopular" (eN "self")) (aN "popular")))
theorem sZ:Sx C 1 (kH P) L 188 (stB 5 5) 6 (jJ X):=(SV.assigns (EV.call CV.set X.g_set EVs.nil ⟨.inl rfl,λ_=>rfl⟩) (ALs.cons (AV.attr X.smc (by decide+kernel) EV.nm) (ALs.one AV.name) rfl ⟨_,_,rfl⟩))
noncomputable def jI(X:XX C):SF:=(aX "n" (aM cG (esC (eN "b") esN)))
theorem sY:Sx C 1 (kH P) L 188 (stB 5 5) 7 (jI X):=(SV.assign (EV.call (CV.lenM X.km) X.g_len (EVs.cons EV.nm EVs.nil)))
noncomputable def jH(X:XX C):SF:=(sIf (aU (tE (d4 "autojunk" (eN "self"))) (aU (tE (aB (bW λx y=>decide (x>=y)) (eN "n") (eK (.int 200)))) (tK true))) sNo (sK .next))
theorem sX:Sx C 1 (kH P) L 188 (stB 5 5) 8 (jH X):=(SV.ite (TV.boolOp (bK.and_cons (TV.val (EV.attr X.smc (by decide+kernel) EV.nm)) (bK.and_cons (TV.cmp1 EV.nm EV.int OpR.ge) bK.and_nil))) SVs.no SVs.nil)
noncomputable def sL(X:XX C):SF:=(aD (nG X) (aD (nF X) (aD (nD X) (aD (jM X) (aD (jL X) (aD (jK X) (aD (jJ X) (aD (jI X) (aD (jH X) (sK .next))))))))))
theorem xF:SVs C 1 (callEnvC (b5 (kH P)) L 188) (b9 (stB 5 5)) (sL X):=(SVs.cons (tD X P L) (SVs.cons (tC X P L) (SVs.cons (tA X P L) (SVs.cons (s9 X P L) (SVs.cons (s8 X P L) (SVs.cons (s6 X P L) (SVs.cons (sZ X P L) (SVs.cons (sY X P L) (SVs.cons (sX X P L) SVs.nil)))))))))
noncomputable def eY(X:XX C):CF:=l8 ["self"] [] (sL X)
theorem yN(X:XX C):CV C 2 (.ref 188) (eY X):=CV.def_ X.d_chain_b ⋯ X.b_chain_b (λ_ _=>.nil) (dT ⋯) (λL=>xF X X.w.params L)
noncomputable def lV(X:XX C):SF:=(sK .next)
theorem rG:Sx C 2 (nV P) L 181 (stB 5 4) 0 (lV X):=(SV.doc rfl rfl)
noncomputable def lU(X:XX C):SF:=(sIf (tE (aB (oIs id) (eN "b") (d4 "b" (eN "self")))) (aD (sK (.ret .none)) (sK .next)) (sK .next))
theorem rF:Sx C 2 (nV P) L 181 (stB 5 4) 1 (lU X):=(SV.ite (TV.cmp1 EV.nm (EV.attr X.smc (by decide+kernel) EV.nm) OpR.is_) (SVs.cons SV.ret0 SVs.nil) SVs.nil)
noncomputable def lT(X:XX C):SF:=(cY (eN "b") (eJ "b" (eN "self")))
theorem rE:Sx C 2 (nV P) L 181 (stB 5 4) 2 (lT X):=(SV.assigns EV.nm (ALs.one (AV.attr X.smc (by decide+kernel) EV.nm)))
noncomputable def lS(X:XX C):SF:=(cY (eK .none) (iZ (eJ "matching_blocks" (eN "self")) (eJ "opcodes" (eN "self"))))
theorem rD:Sx C 2 (nV P) L 181 (stB 5 4) 3 (lS X):=(SV.assigns EV.none (ALs.cons (AV.attr X.smc (by decide+kernel) EV.nm) (ALs.one (AV.attr X.smc (by decide+kernel) EV.nm)) rfl ⟨_,_,rfl⟩))
noncomputable def lR(X:XX C):SF:=(cY (eK .none) (eJ "fullbcount" (eN "self")))
theorem rC:Sx C 2 (nV P) L 181 (stB 5 4) 4 (lR X):=(SV.assigns EV.none (ALs.one (AV.attr X.smc (by decide+kernel) EV.nm)))
noncomputable def lQ(X:XX C):SF:=(bO (jN (eY X) (eN "self") esN))
theorem rB:Sx C 2 (nV P) L 181 (stB 5 4) 5 (lQ X):=(SV.expr (EV.meth X.smc (by decide+kernel) ((yN X).lift rfl) EV.nm EVs.nil ⟨.inl rfl,λ_=>rfl⟩ ⟨rfl,⋯,⋯⟩))
noncomputable def qE(X:XX C):SF:=(aD (lV X) (aD (lU X) (aD (lT X) (aD (lS X) (aD (lR X) (aD (lQ X) (sK .next)))))))
theorem u7:SVs C 2 (callEnvC (b5 (nV P)) L 181) (b9 (stB 5 4)) (qE X):=(SVs.cons (rG X P L) (SVs.cons (rF X P L) (SVs.cons (rE X P L) (SVs.cons (rD X P L) (SVs.cons (rC X P L) (SVs.cons (rB X P L) SVs.nil))))))
noncomputable def iP(X:XX C):CF:=l8 ["self","b"] [] (qE X)
theorem wX(X:XX C):CV C 3 (.ref 181) (iP X):=CV.def_ X.d_set_seq2 ⋯ X.b_set_seq2 (λ_ _=>.nil) (dT ⋯) (λL=>u7 X X.w.params L)
noncomputable def lP(X:XX C):SF:=(sK .next)
theorem q9:Sx C 3 (tN P) L 167 (stB 5 2) 0 (lP X):=(SV.doc rfl rfl)
noncomputable def lO(X:XX C):SF:=(bO (jN (iQ X) (eN "self") (esC (eN "a") esN)))
theorem q8:Sx C 3 (tN P) L 167 (stB 5 2) 1 (lO X):=(SV.expr (EV.meth X.smc (by decide+kernel) ((wY X).lift rfl) EV.nm (EVs.cons EV.nm EVs.nil) ⟨.inr ⟨_,_,rfl,rfl⟩,λ_=>rfl⟩ ⟨rfl,⋯,⋯⟩))
noncomputable def lN(X:XX C):SF:=(bO (jN (iP X) (eN "self") (esC (eN "b") esN)))
theorem q7:Sx C 3 (tN P) L 167 (stB 5 2) 2 (lN X):=(SV.expr (EV.meth X.smc (by decide+kernel) ((wX X).lift rfl) EV.nm (EVs.cons EV.nm EVs.nil) ⟨.inr ⟨_,_,rfl,rfl⟩,λ_=>rfl⟩ ⟨rfl,⋯,⋯⟩))
noncomputable def qD(X:XX C):SF:=(aD (lP X) (aD (lO X) (aD (lN X) (sK .next))))
theorem uZ:SVs C 3 (callEnvC (b5 (tN P)) L 167) (b9 (stB 5 2)) (qD X):=(SVs.cons (q9 X P L) (SVs.cons (q8 X P L) (SVs.cons (q7 X P L) SVs.nil)))
noncomputable def iO(X:XX C):CF:=l8 ["self","a","b"] [] (qD X)
theorem wW(X:XX C):CV C 4 (.ref 167) (iO X):=CV.def_ X.d_set_seqs ⋯ X.b_set_seqs (λ_ _=>.nil) (dT ⋯) (λL=>uZ X X.w.params L)
noncomputable def dU(X:XX C):SF:=(sK .next)
theorem hM:Sx C 3 (iH P) L 196 (stB 5 6) 0 (dU X):=(SV.doc rfl rfl)
noncomputable def b4(X:XX C):SF:=(cY (bT (esC (d4 "a" (eN "self")) (esC (d4 "b" (eN "self")) (esC (d4 "b2j" (eN "self")) (esC (eBd .scon okS (d4 "bjunk" (eN "self"))) esN))))) (cU 4 (asC (aN "a") (asC (aN "b") (asC (aN "b2j") (asC (aN "isbjunk") asN))))))
theorem hJ:Sx C 3 (iH P) L 196 (stB 5 6) 1 (b4 X):=(SV.assigns (EV.tuple (EVs.cons (EV.attr X.smc (by decide+kernel) EV.nm) (EVs.cons (EV.attr X.smc (by decide+kernel) EV.nm) (EVs.cons (EV.attr X.smc (by decide+kernel) EV.nm) (EVs.cons (EV.scon2 (EV.attr X.smc (by decide+kernel) EV.nm) rfl) EVs.nil))))) (ALs.one (AV.tupleM X.km (AVs.cons AV.name (AVs.cons AV.name (AVs.cons AV.name (AVs.cons AV.name AVs.nil)))))))
noncomputable def cS(X:XX C):SF:=(sIf (tE (aB (oIs id) (eN "ahi") (eK .none))) (aD (aX "ahi" (aM cG (esC (eN "a") esN))) (sK .next)) (sK .next))
theorem hI:Sx C 3 (iH P) L 196 (stB 5 6) 2 (cS X):=(SV.ite (TV.cmp1 EV.nm EV.none OpR.is_) (SVs.cons (SV.assign (EV.call (CV.lenM X.km) X.g_len (EVs.cons EV.nm EVs.nil))) SVs.nil) SVs.nil)
noncomputable def cR(X:XX C):SF:=(sIf (tE (aB (oIs id) (eN "bhi") (eK .none))) (aD (aX "bhi" (aM cG (esC (eN "b") esN))) (sK .next)) (sK .next))
theorem hF:Sx C 3 (iH P) L 196 (stB 5 6) 3 (cR X):=(SV.ite (TV.cmp1 EV.nm EV.none OpR.is_) (SVs.cons (SV.assign (EV.call (CV.lenM X.km) X.g_len (EVs.cons EV.nm EVs.nil))) SVs.nil) SVs.nil)
noncomputable def cQ(X:XX C):SF:=(dZ ["besti","bestj","bestsize"] (bT (esC (eN "alo") (esC (eN "blo") (esC (eK (.int 0)) esN)))))
theorem g9:Sx C 3 (iH P) L 196 (stB 5 6) 4 (cQ X):=(SV.swap (EV.tuple (EVs.cons EV.nm (EVs.cons EV.nm (EVs.cons EV.int EVs.nil)))) rfl ⋯ (gQ ⋯))
noncomputable def cP(X:XX C):SF:=(aX "j2len" wU)
theorem g8:Sx C 3 (iH P) L 196 (stB 5 6) 5 (cP X):=(SV.assign EV.dict0)
noncomputable def cN(X:XX C):SF:=(aX "nothing" (gU esN))
theorem g7:Sx C 3 (iH P) L 196 (stB 5 6) 6 (cN X):=(SV.assign (EV.list EVs.nil))
noncomputable def cM(X:XX C):SF:=(mP (kK C) (iR (aM gX (esC (eN "alo") (esC (eN "ahi") esN)))) (aN "i") (aD (aX "j2lenget" (eBd .dget okD (eN "j2len"))) (aD (aX "newj2len" wU) (aD (mP (aT C) (iL (eGet (eN "b2j") (aB aI (eN "a") (eN "i")) (eN "nothing"))) (aN "j") (aD (sIf (tE (aB (bW λx y=>decide (x<y)) (eN "j") (eN "blo"))) (aD (sK .cont) (sK .next)) (sK .next)) (aD (sIf (tE (aB (bW λx y=>decide (x>=y)) (eN "j") (eN "bhi"))) (aD (sK .brk) (sK .next)) (sK .next)) (aD (cY (aB aH (eCv (eN "j2lenget") (esC (aB cI (eN "j") (eK (.int 1))) (esC (eK (.int 0)) esN))) (eK (.int 1))) (iZ (aN "k") (qV (eN "newj2len") (eN "j")))) (aD (sIf (tE (aB (bW λx y=>decide (x>y)) (eN "k") (eN "bestsize"))) (aD (dZ ["besti","bestj","bestsize"] (bT (esC (aB aH (aB cI (eN "i") (eN "k")) (eK (.int 1))) (esC (aB aH (aB cI (eN "j") (eN "k")) (eK (.int 1))) (esC (eN "k") esN))))) (sK .next)) (sK .next)) (sK .next)))))) (aD (aX "j2len" (eN "newj2len")) (sK .next))))))
theorem g6:Sx C 3 (iH P) L 196 (stB 5 6) 7 (cM X):=(SV.for_ (K:=(kK C)) (IV.range (EV.call CV.range X.g_range (EVs.cons EV.nm (EVs.cons EV.nm EVs.nil)))) AV.name (SVs.cons (SV.assign (EV.dget EV.nm rfl (λ_ _=>rfl))) (SVs.cons (SV.assign EV.dict0) (SVs.cons (SV.for_ (K:=(aT C)) (IV.list (EV.get X.sys EV.nm (EV.idx EV.nm EV.nm) EV.nm ⟨rfl,⋯,⋯⟩ rfl)) AV.name (SVs.cons (SV.ite (TV.cmp1 EV.nm EV.nm OpR.lt) (SVs.cons SV.cont SVs.nil) SVs.nil) (SVs.cons (SV.ite (TV.cmp1 EV.nm EV.nm OpR.ge) (SVs.cons SV.brk SVs.nil) SVs.nil) (SVs.cons (SV.assigns (EV.binOp (EV.callV X.sys EV.nm (EVs.cons (EV.binOp EV.nm EV.int OpR.sub) (EVs.cons EV.int EVs.nil)) ⟨.inr ⟨_,_,rfl,rfl⟩,λ_=>rfl⟩) EV.int OpR.add) (ALs.cons AV.name (ALs.one (AV.sub EV.nm EV.nm)) rfl ⟨_,_,rfl⟩)) (SVs.cons (SV.ite (TV.cmp1 EV.nm EV.nm OpR.gt) (SVs.cons (SV.swap (EV.tuple (EVs.cons (EV.binOp (EV.binOp EV.nm EV.nm OpR.sub) EV.int OpR.add) (EVs.cons (EV.binOp (EV.binOp EV.nm EV.nm OpR.sub) EV.int OpR.add) (EVs.cons EV.nm EVs.nil)))) rfl ⋯ (gQ ⋯)) SVs.nil) SVs.nil) SVs.nil)))) ⟨trivial,Nat.le_of_ble_eq_true rfl⟩ (λ_=>rfl)) (SVs.cons (SV.assign EV.nm) SVs.nil)))) ⟨trivial,Nat.le_of_ble_eq_true rfl⟩ (λ_=>rfl))
noncomputable def cL(X:XX C):SF:=(mO (aU (tE (aB (bW λx y=>decide (x>y)) (eN "besti") (eN "alo"))) (aU (tE (aB (bW λx y=>decide (x>y)) (eN "bestj") (eN "blo"))) (aU (sU (tE (eCv (eN "isbjunk") (esC (aB aI (eN "b") (aB cI (eN "bestj") (eK (.int 1)))) esN)))) (aU (tE (aB (bB id) (aB aI (eN "a") (aB cI (eN "besti") (eK (.int 1)))) (aB aI (eN "b") (aB cI (eN "bestj") (eK (.int 1)))))) (tK true))))) (aD (dZ ["besti","bestj","bestsize"] (bT (esC (aB cI (eN "besti") (eK (.int 1))) (esC (aB cI (eN "bestj") (eK (.int 1))) (esC (aB aH (eN "bestsize") (eK (.int 1))) esN))))) (sK .next)))
theorem gZ:Sx C 3 (iH P) L 196 (stB 5 6) 8 (cL X):=(SV.while_ (TV.boolOp (bK.and_cons (TV.cmp1 EV.nm EV.nm OpR.gt) (bK.and_cons (TV.cmp1 EV.nm EV.nm OpR.gt) (bK.and_cons (TV.not (TV.val (EV.callV X.sys EV.nm (EVs.cons (EV.idx EV.nm (EV.binOp EV.nm EV.int OpR.sub)) EVs.nil) ⟨.inr ⟨_,_,rfl,rfl⟩,λ_=>rfl⟩))) (bK.and_cons (TV.cmp1 (EV.idx EV.nm (EV.binOp EV.nm EV.int OpR.sub)) (EV.idx EV.nm (EV.binOp EV.nm EV.int OpR.sub)) OpR.eq) bK.and_nil))))) (SVs.cons (SV.swap (EV.tuple (EVs.cons (EV.binOp EV.nm EV.int OpR.sub) (EVs.cons (EV.binOp EV.nm EV.int OpR.sub) (EVs.cons (EV.binOp EV.nm EV.int OpR.add) EVs.nil)))) rfl ⋯ (gQ ⋯)) SVs.nil))
noncomputable def cK(X:XX C):SF:=(mO (aU (tE (aB (bW λx y=>decide (x<y)) (aB aH (eN "besti") (eN "bestsize")) (eN "ahi"))) (aU (tE (aB (bW λx y=>decide (x<y)) (aB aH (eN "bestj") (eN "bestsize")) (eN "bhi"))) (aU (sU (tE (eCv (eN "isbjunk") (esC (aB aI (eN "b") (aB aH (eN "bestj") (eN "bestsize"))) esN)))) (aU (tE (aB (bB id) (aB aI (eN "a") (aB aH (eN "besti") (eN "bestsize"))) (aB aI (eN "b") (aB aH (eN "bestj") (eN "bestsize"))))) (tK true))))) (aD (sAug "bestsize" oAdd (eK (.int 1))) (sK .next)))
theorem gY:Sx C 3 (iH P) L 196 (stB 5 6) 9 (cK X):=(SV.while_ (TV.boolOp (bK.and_cons (TV.cmp1 (EV.binOp EV.nm EV.nm OpR.add) EV.nm OpR.lt) (bK.and_cons (TV.cmp1 (EV.binOp EV.nm EV.nm OpR.add) EV.nm OpR.lt) (bK.and_cons (TV.not (TV.val (EV.callV X.sys EV.nm (EVs.cons (EV.idx EV.nm (EV.binOp EV.nm EV.nm OpR.add)) EVs.nil) ⟨.inr ⟨_,_,rfl,rfl⟩,λ_=>rfl⟩))) (bK.and_cons (TV.cmp1 (EV.idx EV.nm (EV.binOp EV.nm EV.nm OpR.add)) (EV.idx EV.nm (EV.binOp EV.nm EV.nm OpR.add)) OpR.eq) bK.and_nil))))) (SVs.cons (SV.aug EV.int X.iop_Add (.inl ⋯) ⋯) SVs.nil))
noncomputable def cF(X:XX C):SF:=(mO (aU (tE (aB (bW λx y=>decide (x>y)) (eN "besti") (eN "alo"))) (aU (tE (aB (bW λx y=>decide (x>y)) (eN "bestj") (eN "blo"))) (aU (tE (eCv (eN "isbjunk") (esC (aB aI (eN "b") (aB cI (eN "bestj") (eK (.int 1)))) esN))) (aU (tE (aB (bB id) (aB aI (eN "a") (aB cI (eN "besti") (eK (.int 1)))) (aB aI (eN "b") (aB cI (eN "bestj") (eK (.int 1)))))) (tK true))))) (aD (dZ ["besti","bestj","bestsize"] (bT (esC (aB cI (eN "besti") (eK (.int 1))) (esC (aB cI (eN "bestj") (eK (.int 1))) (esC (aB aH (eN "bestsize") (eK (.int 1))) esN))))) (sK .next)))
theorem gO:Sx C 3 (iH P) L 196 (stB 5 6) 10 (cF X):=(SV.while_ (TV.boolOp (bK.and_cons (TV.cmp1 EV.nm EV.nm OpR.gt) (bK.and_cons (TV.cmp1 EV.nm EV.nm OpR.gt) (bK.and_cons (TV.val (EV.callV X.sys EV.nm (EVs.cons (EV.idx EV.nm (EV.binOp EV.nm EV.int OpR.sub)) EVs.nil) ⟨.inr ⟨_,_,rfl,rfl⟩,λ_=>rfl⟩)) (bK.and_cons (TV.cmp1 (EV.idx EV.nm (EV.binOp EV.nm EV.int OpR.sub)) (EV.idx EV.nm (EV.binOp EV.nm EV.int OpR.sub)) OpR.eq) bK.and_nil))))) (SVs.cons (SV.swap (EV.tuple (EVs.cons (EV.binOp EV.nm EV.int OpR.sub) (EVs.cons (EV.binOp EV.nm EV.int OpR.sub) (EVs.cons (EV.binOp EV.nm EV.int OpR.add) EVs.nil)))) rfl ⋯ (gQ ⋯)) SVs.nil))
noncomputable def cE(X:XX C):SF:=(mO (aU (tE (aB (bW λx y=>decide (x<y)) (aB aH (eN "besti") (eN "bestsize")) (eN "ahi"))) (aU (tE (aB (bW λx y=>decide (x<y)) (aB aH (eN "bestj") (eN "bestsize")) (eN "bhi"))) (aU (tE (eCv (eN "isbjunk") (esC (aB aI (eN "b") (aB aH (eN "bestj") (eN "bestsize"))) esN))) (aU (tE (aB (bB id) (aB aI (eN "a") (aB aH (eN "besti") (eN "bestsize"))) (aB aI (eN "b") (aB aH (eN "bestj") (eN "bestsize"))))) (tK true))))) (aD (aX "bestsize" (aB aH (eN "bestsize") (eK (.int 1)))) (sK .next)))
theorem gN:Sx C 3 (iH P) L 196 (stB 5 6) 11 (cE X):=(SV.while_ (TV.boolOp (bK.and_cons (TV.cmp1 (EV.binOp EV.nm EV.nm OpR.add) EV.nm OpR.lt) (bK.and_cons (TV.cmp1 (EV.binOp EV.nm EV.nm OpR.add) EV.nm OpR.lt) (bK.and_cons (TV.val (EV.callV X.sys EV.nm (EVs.cons (EV.idx EV.nm (EV.binOp EV.nm EV.nm OpR.add)) EVs.nil) ⟨.inr ⟨_,_,rfl,rfl⟩,λ_=>rfl⟩)) (bK.and_cons (TV.cmp1 (EV.idx EV.nm (EV.binOp EV.nm EV.nm OpR.add)) (EV.idx EV.nm (EV.binOp EV.nm EV.nm OpR.add)) OpR.eq) bK.and_nil))))) (SVs.cons (SV.assign (EV.binOp EV.nm EV.int OpR.add)) SVs.nil))
noncomputable def dM(X:XX C):SF:=(fM (aM yU (esC (eN "besti") (esC (eN "bestj") (esC (eN "bestsize") esN)))))
theorem gK:Sx C 3 (iH P) L 196 (stB 5 6) 12 (dM X):=(SV.ret (EV.call (X.cv_Match.lift rfl) X.g_Match (EVs.cons EV.nm (EVs.cons EV.nm (EVs.cons EV.nm EVs.nil)))))
noncomputable def c6(X:XX C):SF:=(aD (dU X) (aD (b4 X) (aD (cS X) (aD (cR X) (aD (cQ X) (aD (cP X) (aD (cN X) (aD (cM X) (aD (cL X) (aD (cK X) (aD (cF X) (aD (cE X) (aD (dM X) (sK .next))))))))))))))
theorem iW:SVs C 3 (callEnvC (b5 (iH P)) L 196) (b9 (stB 5 6)) (c6 X):=(SVs.cons (hM X P L) (SVs.cons (hJ X P L) (SVs.cons (hI X P L) (SVs.cons (hF X P L) (SVs.cons (g9 X P L) (SVs.cons (g8 X P L) (SVs.cons (g7 X P L) (SVs.cons (g6 X P L) (SVs.cons (gZ X P L) (SVs.cons (gY X P L) (SVs.cons (gO X P L) (SVs.cons (gN X P L) (SVs.cons (gK X P L) SVs.nil)))))))))))))
noncomputable def bV(X:XX C):CF:=l8 ["self","alo","ahi","blo","bhi"] [] (c6 X)
theorem iY(X:XX C):CV C 4 (.ref 196) (bV X):=CV.def_ X.d_find_longest_match ⋯ X.b_find_longest_match (λ_ _=>.nil) (dT ⋯) (λL=>iW X X.w.params L)
noncomputable def dL(X:XX C):SF:=(sK .next)
theorem gG:Sx C 4 (hV P) L 203 (stB 5 7) 0 (dL X):=(SV.doc rfl rfl)
noncomputable def dK(X:XX C):SF:=(sIf (tE (aB (oIs not) (d4 "matching_blocks" (eN "self")) (eK .none))) (aD (fM (d4 "matching_blocks" (eN "self"))) (sK .next)) (sK .next))
theorem gE:Sx C 4 (hV P) L 203 (stB 5 7) 1 (dK X):=(SV.ite (TV.cmp1 (EV.attr X.smc (by decide+kernel) EV.nm) EV.none OpR.isNot) (SVs.cons (SV.ret (EV.attr X.smc (by decide+kernel) EV.nm)) SVs.nil) SVs.nil)
noncomputable def cD(X:XX C):SF:=(dZ ["la","lb"] (bT (esC (aM cG (esC (d4 "a" (eN "self")) esN)) (esC (aM cG (esC (d4 "b" (eN "self")) esN)) esN))))
theorem gD:Sx C 4 (hV P) L 203 (stB 5 7) 2 (cD X):=(SV.swap (EV.tuple (EVs.cons (EV.call (CV.lenM X.km) X.g_len (EVs.cons (EV.attr X.smc (by decide+kernel) EV.nm) EVs.nil)) (EVs.cons (EV.call (CV.lenM X.km) X.g_len (EVs.cons (EV.attr X.smc (by decide+kernel) EV.nm) EVs.nil)) EVs.nil))) rfl ⋯ (gQ ⋯))
noncomputable def bG(X:XX C):SF:=(aX "queue" (gU (esC (bT (esC (eK (.int 0)) (esC (eN "la") (esC (eK (.int 0)) (esC (eN "lb") esN))))) esN)))
theorem gC:Sx C 4 (hV P) L 203 (stB 5 7) 3 (bG X):=(SV.assign (EV.list (EVs.cons (EV.tuple (EVs.cons EV.int (EVs.cons EV.nm (EVs.cons EV.int (EVs.cons EV.nm EVs.nil))))) EVs.nil)))
noncomputable def bF(X:XX C):SF:=(aX "matching_blocks" (gU esN))
theorem f9:Sx C 4 (hV P) L 203 (stB 5 7) 4 (bF X):=(SV.assign (EV.list EVs.nil))
noncomputable def bD(X:XX C):SF:=(mO (tE (eN "queue")) (aD (cY (ePop (eN "queue")) (cU 4 (asC (aN "alo") (asC (aN "ahi") (asC (aN "blo") (asC (aN "bhi") asN)))))) (aD (cY (jN (bV X) (eN "self") (esC (eN "alo") (esC (eN "ahi") (esC (eN "blo") (esC (eN "bhi") esN))))) (iZ (cU 3 (asC (aN "i") (asC (aN "j") (asC (aN "k") asN)))) (aN "x"))) (aD (sIf (tE (eN "k")) (aD (bO (d7 (eN "matching_blocks") (eN "x"))) (aD (sIf (aU (tE (aB (bW λx y=>decide (x<y)) (eN "alo") (eN "i"))) (aU (tE (aB (bW λx y=>decide (x<y)) (eN "blo") (eN "j"))) (tK true))) (aD (bO (d7 (eN "queue") (bT (esC (eN "alo") (esC (eN "i") (esC (eN "blo") (esC (eN "j") esN))))))) (sK .next)) (sK .next)) (aD (sIf (aU (tE (aB (bW λx y=>decide (x<y)) (aB aH (eN "i") (eN "k")) (eN "ahi"))) (aU (tE (aB (bW λx y=>decide (x<y)) (aB aH (eN "j") (eN "k")) (eN "bhi"))) (tK true))) (aD (bO (d7 (eN "queue") (bT (esC (aB aH (eN "i") (eN "k")) (esC (eN "ahi") (esC (aB aH (eN "j") (eN "k")) (esC (eN "bhi") esN))))))) (sK .next)) (sK .next)) (sK .next)))) (sK .next)) (sK .next)))))
theorem f8:Sx C 4 (hV P) L 203 (stB 5 7) 5 (bD X):=(SV.while_ (TV.val EV.nm) (SVs.cons (SV.assigns (EV.pop EV.nm ⟨rfl,⋯,⋯⟩) (ALs.one (AV.tupleM X.km (AVs.cons AV.name (AVs.cons AV.name (AVs.cons AV.name (AVs.cons AV.name AVs.nil))))))) (SVs.cons (SV.assigns (EV.meth X.smc (by decide+kernel) ((iY X).lift rfl) EV.nm (EVs.cons EV.nm (EVs.cons EV.nm (EVs.cons EV.nm (EVs.cons EV.nm EVs.nil)))) ⟨.inr ⟨_,_,rfl,rfl⟩,λ_=>rfl⟩ ⟨rfl,⋯,⋯⟩) (ALs.cons (AV.tupleM X.km (AVs.cons AV.name (AVs.cons AV.name (AVs.cons AV.name AVs.nil)))) (ALs.one AV.name) rfl ⟨_,_,rfl⟩)) (SVs.cons (SV.ite (TV.val EV.nm) (SVs.cons (SV.expr (EV.append EV.nm EV.nm)) (SVs.cons (SV.ite (TV.boolOp (bK.and_cons (TV.cmp1 EV.nm EV.nm OpR.lt) (bK.and_cons (TV.cmp1 EV.nm EV.nm OpR.lt) bK.and_nil))) (SVs.cons (SV.expr (EV.append EV.nm (EV.tuple (EVs.cons EV.nm (EVs.cons EV.nm (EVs.cons EV.nm (EVs.cons EV.nm EVs.nil))))))) SVs.nil) SVs.nil) (SVs.cons (SV.ite (TV.boolOp (bK.and_cons (TV.cmp1 (EV.binOp EV.nm EV.nm OpR.add) EV.nm OpR.lt) (bK.and_cons (TV.cmp1 (EV.binOp EV.nm EV.nm OpR.add) EV.nm OpR.lt) bK.and_nil))) (SVs.cons (SV.expr (EV.append EV.nm (EV.tuple (EVs.cons (EV.binOp EV.nm EV.nm OpR.add) (EVs.cons EV.nm (EVs.cons (EV.binOp EV.nm EV.nm OpR.add) (EVs.cons EV.nm EVs.nil))))))) SVs.nil) SVs.nil) SVs.nil))) SVs.nil) SVs.nil))))
noncomputable def cC(X:XX C):SF:=(bO (eSort (eN "matching_blocks")))
theorem f7:Sx C 4 (hV P) L 203 (stB 5 7) 6 (cC X):=(SV.expr (EV.sort X.km EV.nm ⟨rfl,⋯,⋯⟩))
noncomputable def cB(X:XX C):SF:=(cY (eK (.int 0)) (iZ (aN "i1") (iZ (aN "j1") (aN "k1"))))
theorem f6:Sx C 4 (hV P) L 203 (stB 5 7) 7 (cB X):=(SV.assigns EV.int (ALs.cons AV.name (ALs.cons AV.name (ALs.one AV.name) rfl ⟨_,_,rfl⟩) rfl ⟨_,_,rfl⟩))
noncomputable def cA(X:XX C):SF:=(aX "non_adjacent" (gU esN))
theorem fZ:Sx C 4 (hV P) L 203 (stB 5 7) 8 (cA X):=(SV.assign (EV.list EVs.nil))
noncomputable def bX(X:XX C):SF:=(mP (aT C) (iL (eN "matching_blocks")) (cU 3 (asC (aN "i2") (asC (aN "j2") (asC (aN "k2") asN)))) (aD (sIf (aU (tE (aB (bB id) (aB aH (eN "i1") (eN "k1")) (eN "i2"))) (aU (tE (aB (bB id) (aB aH (eN "j1") (eN "k1")) (eN "j2"))) (tK true))) (aD (sAug "k1" oAdd (eN "k2")) (sK .next)) (aD (sIf (tE (eN "k1")) (aD (bO (d7 (eN "non_adjacent") (bT (esC (eN "i1") (esC (eN "j1") (esC (eN "k1") esN)))))) (sK .next)) (sK .next)) (aD (dZ ["i1","j1","k1"] (bT (esC (eN "i2") (esC (eN "j2") (esC (eN "k2") esN))))) (sK .next)))) (sK .next)))
theorem fY:Sx C 4 (hV P) L 203 (stB 5 7) 9 (bX X):=(SV.for_ (K:=(aT C)) (IV.list EV.nm) (AV.tupleM X.km (AVs.cons AV.name (AVs.cons AV.name (AVs.cons AV.name AVs.nil)))) (SVs.cons (SV.ite (TV.boolOp (bK.and_cons (TV.cmp1 (EV.binOp EV.nm EV.nm OpR.add) EV.nm OpR.eq) (bK.and_cons (TV.cmp1 (EV.binOp EV.nm EV.nm OpR.add) EV.nm OpR.eq) bK.and_nil))) (SVs.cons (SV.aug EV.nm X.iop_Add (.inl ⋯) ⋯) SVs.nil) (SVs.cons (SV.ite (TV.val EV.nm) (SVs.cons (SV.expr (EV.append EV.nm (EV.tuple (EVs.cons EV.nm (EVs.cons EV.nm (EVs.cons EV.nm EVs.nil)))))) SVs.nil) SVs.nil) (SVs.cons (SV.swap (EV.tuple (EVs.cons EV.nm (EVs.cons EV.nm (EVs.cons EV.nm EVs.nil)))) rfl ⋯ (gQ ⋯)) SVs.nil))) SVs.nil) ⟨trivial,Nat.le_of_ble_eq_true rfl⟩ (λ_=>rfl))
noncomputable def bS(X:XX C):SF:=(sIf (tE (eN "k1")) (aD (bO (d7 (eN "non_adjacent") (bT (esC (eN "i1") (esC (eN "j1") (esC (eN "k1") esN)))))) (sK .next)) (sK .next))
theorem fK:Sx C 4 (hV P) L 203 (stB 5 7) 10 (bS X):=(SV.ite (TV.val EV.nm) (SVs.cons (SV.expr (EV.append EV.nm (EV.tuple (EVs.cons EV.nm (EVs.cons EV.nm (EVs.cons EV.nm EVs.nil)))))) SVs.nil) SVs.nil)
noncomputable def bC(X:XX C):SF:=(bO (d7 (eN "non_adjacent") (bT (esC (eN "la") (esC (eN "lb") (esC (eK (.int 0)) esN))))))
theorem fJ:Sx C 4 (hV P) L 203 (stB 5 7) 11 (bC X):=(SV.expr (EV.append EV.nm (EV.tuple (EVs.cons EV.nm (EVs.cons EV.nm (EVs.cons EV.int EVs.nil))))))
noncomputable def bR(X:XX C):SF:=(cY (eLM (v0 C 2 X.makeM) (λi=>(i,0)) (eN "non_adjacent")) (eJ "matching_blocks" (eN "self")))
theorem fI:Sx C 4 (hV P) L 203 (stB 5 7) 12 (bR X):=(SV.assigns (EV.listMap X.kc X.makeM (Nat.le_of_ble_eq_true rfl) EV.nm X.g_list X.g_map X.g_Match ⋯ ⋯ ⋯ rfl rfl rfl (λ_=>rfl) (λ_=>rfl) rfl (λ_ _=>rfl)) (ALs.one (AV.attr X.smc (by decide+kernel) EV.nm)))
noncomputable def bQ(X:XX C):SF:=(fM (d4 "matching_blocks" (eN "self")))
theorem fH:Sx C 4 (hV P) L 203 (stB 5 7) 13 (bQ X):=(SV.ret (EV.attr X.smc (by decide+kernel) EV.nm))
noncomputable def d0(X:XX C):SF:=(aD (dL X) (aD (dK X) (aD (cD X) (aD (bG X) (aD (bF X) (aD (bD X) (aD (cC X) (aD (cB X) (aD (cA X) (aD (bX X) (aD (bS X) (aD (bC X) (aD (bR X) (aD (bQ X) (sK .next)))))))))))))))
theorem iE:SVs C 4 (callEnvC (b5 (hV P)) L 203) (b9 (stB 5 7)) (d0 X):=(SVs.cons (gG X P L) (SVs.cons (gE X P L) (SVs.cons (gD X P L) (SVs.cons (gC X P L) (SVs.cons (f9 X P L) (SVs.cons (f8 X P L) (SVs.cons (f7 X P L) (SVs.cons (f6 X P L) (SVs.cons (fZ X P L) (SVs.cons (fY X P L) (SVs.cons (fK X P L) (SVs.cons (fJ X P L) (SVs.cons (fI X P L) (SVs.cons (fH X P L) SVs.nil))))))))))))))
noncomputable def bN(X:XX C):CF:=l8 ["self"] [] (d0 X)
theorem iJ(X:XX C):CV C 5 (.ref 203) (bN X):=CV.def_ X.d_get_matching_blocks ⋯ X.b_get_matching_blocks (λ_ _=>.nil) (dT ⋯) (λL=>iE X X.w.params L)
noncomputable def iV(X:XX C):SF:=(sK .next)
theorem mJ:Sx C 5 (nU P) L 210 (stB 5 8) 0 (iV X):=(SV.doc rfl rfl)
noncomputable def iU(X:XX C):SF:=(sIf (tE (aB (oIs not) (d4 "opcodes" (eN "self")) (eK .none))) (aD (fM (d4 "opcodes" (eN "self"))) (sK .next)) (sK .next))
theorem mI:Sx C 5 (nU P) L 210 (stB 5 8) 1 (iU X):=(SV.ite (TV.cmp1 (EV.attr X.smc (by decide+kernel) EV.nm) EV.none OpR.isNot) (SVs.cons (SV.ret (EV.attr X.smc (by decide+kernel) EV.nm)) SVs.nil) SVs.nil)
noncomputable def eP(X:XX C):SF:=(cY (eK (.int 0)) (iZ (aN "i") (aN "j")))
theorem mH:Sx C 5 (nU P) L 210 (stB 5 8) 2 (eP X):=(SV.assigns EV.int (ALs.cons AV.name (ALs.one AV.name) rfl ⟨_,_,rfl⟩))
noncomputable def eO(X:XX C):SF:=(cY (gU esN) (iZ (eJ "opcodes" (eN "self")) (aN "answer")))
theorem mG:Sx C 5 (nU P) L 210 (stB 5 8) 3 (eO X):=(SV.assigns (EV.list EVs.nil) (ALs.cons (AV.attr X.smc (by decide+kernel) EV.nm) (ALs.one AV.name) rfl ⟨_,_,rfl⟩))
noncomputable def eM(X:XX C):SF:=(mP (aT C) (iL (jN (bN X) (eN "self") esN)) (cU 3 (asC (aN "ai") (asC (aN "bj") (asC (aN "size") asN)))) (aD (aX "tag" (eK (.str ""))) (aD (sIf (aU (tE (aB (bW λx y=>decide (x<y)) (eN "i") (eN "ai"))) (aU (tE (aB (bW λx y=>decide (x<y)) (eN "j") (eN "bj"))) (tK true))) (aD (aX "tag" (eK (.str "replace"))) (sK .next)) (aD (sIf (tE (aB (bW λx y=>decide (x<y)) (eN "i") (eN "ai"))) (aD (aX "tag" (eK (.str "delete"))) (sK .next)) (aD (sIf (tE (aB (bW λx y=>decide (x<y)) (eN "j") (eN "bj"))) (aD (aX "tag" (eK (.str "insert"))) (sK .next)) (sK .next)) (sK .next))) (sK .next))) (aD (sIf (tE (eN "tag")) (aD (bO (d7 (eN "answer") (bT (esC (eN "tag") (esC (eN "i") (esC (eN "ai") (esC (eN "j") (esC (eN "bj") esN)))))))) (sK .next)) (sK .next)) (aD (dZ ["i","j"] (bT (esC (aB aH (eN "ai") (eN "size")) (esC (aB aH (eN "bj") (eN "size")) esN)))) (aD (sIf (tE (eN "size")) (aD (bO (d7 (eN "answer") (bT (esC (eK (.str "equal")) (esC (eN "ai") (esC (eN "i") (esC (eN "bj") (esC (eN "j") esN)))))))) (sK .next)) (sK .next)) (sK .next)))))))
theorem mE:Sx C 5 (nU P) L 210 (stB 5 8) 4 (eM X):=(SV.for_ (K:=(aT C)) (IV.list (EV.meth X.smc (by decide+kernel) ((iJ X).lift rfl) EV.nm EVs.nil ⟨.inl rfl,λ_=>rfl⟩ ⟨rfl,⋯,⋯⟩)) (AV.tupleM X.km (AVs.cons AV.name (AVs.cons AV.name (AVs.cons AV.name AVs.nil)))) (SVs.cons (SV.assign EV.str) (SVs.cons (SV.ite (TV.boolOp (bK.and_cons (TV.cmp1 EV.nm EV.nm OpR.lt) (bK.and_cons (TV.cmp1 EV.nm EV.nm OpR.lt) bK.and_nil))) (SVs.cons (SV.assign EV.str) SVs.nil) (SVs.cons (SV.ite (TV.cmp1 EV.nm EV.nm OpR.lt) (SVs.cons (SV.assign EV.str) SVs.nil) (SVs.cons (SV.ite (TV.cmp1 EV.nm EV.nm OpR.lt) (SVs.cons (SV.assign EV.str) SVs.nil) SVs.nil) SVs.nil)) SVs.nil)) (SVs.cons (SV.ite (TV.val EV.nm) (SVs.cons (SV.expr (EV.append EV.nm (EV.tuple (EVs.cons EV.nm (EVs.cons EV.nm (EVs.cons EV.nm (EVs.cons EV.nm (EVs.cons EV.nm EVs.nil)))))))) SVs.nil) SVs.nil) (SVs.cons (SV.swap (EV.tuple (EVs.cons (EV.binOp EV.nm EV.nm OpR.add) (EVs.cons (EV.binOp EV.nm EV.nm OpR.add) EVs.nil))) rfl ⋯ (gQ ⋯)) (SVs.cons (SV.ite (TV.val EV.nm) (SVs.cons (SV.expr (EV.append EV.nm (EV.tuple (EVs.cons EV.str (EVs.cons EV.nm (EVs.cons EV.nm (EVs.cons EV.nm (EVs.cons EV.nm EVs.nil)))))))) SVs.nil) SVs.nil) SVs.nil))))) ⟨trivial,Nat.le_of_ble_eq_true rfl⟩ (λ_=>rfl))
noncomputable def eL(X:XX C):SF:=(fM (eN "answer"))
theorem mD:Sx C 5 (nU P) L 210 (stB 5 8) 5 (eL X):=(SV.ret EV.nm)
noncomputable def j9(X:XX C):SF:=(aD (iV X) (aD (iU X) (aD (eP X) (aD (eO X) (aD (eM X) (aD (eL X) (sK .next)))))))
theorem oY:SVs C 5 (callEnvC (b5 (nU P)) L 210) (b9 (stB 5 8)) (j9 X):=(SVs.cons (mJ X P L) (SVs.cons (mI X P L) (SVs.cons (mH X P L) (SVs.cons (mG X P L) (SVs.cons (mE X P L) (SVs.cons (mD X P L) SVs.nil))))))
noncomputable def bU(X:XX C):CF:=l8 ["self"] [] (j9 X)
theorem jO(X:XX C):CV C 6 (.ref 210) (bU X):=CV.def_ X.d_get_opcodes ⋯ X.b_get_opcodes (λ_ _=>.nil) (dT ⋯) (λL=>oY X X.w.params L)
noncomputable def wP(X:XX C):SF:=(sK .next)
theorem aBd:Sx C 4 (pS P) L 160 (stB 5 1) 0 (wP X):=(SV.doc rfl rfl)
noncomputable def wO(X:XX C):SF:=(cY (eN "isjunk") (eJ "isjunk" (eN "self")))
theorem aBc:Sx C 4 (pS P) L 160 (stB 5 1) 1 (wO X):=(SV.assigns EV.nm (ALs.one (AV.attr X.smc (by decide+kernel) EV.nm)))
noncomputable def wN(X:XX C):SF:=(cY (eK .none) (iZ (eJ "a" (eN "self")) (eJ "b" (eN "self"))))
theorem aBb:Sx C 4 (pS P) L 160 (stB 5 1) 2 (wN X):=(SV.assigns EV.none (ALs.cons (AV.attr X.smc (by decide+kernel) EV.nm) (ALs.one (AV.attr X.smc (by decide+kernel) EV.nm)) rfl ⟨_,_,rfl⟩))
noncomputable def wM(X:XX C):SF:=(cY (eN "autojunk") (eJ "autojunk" (eN "self")))
theorem aBa:Sx C 4 (pS P) L 160 (stB 5 1) 3 (wM X):=(SV.assigns EV.nm (ALs.one (AV.attr X.smc (by decide+kernel) EV.nm)))
noncomputable def wL(X:XX C):SF:=(bO (jN (iO X) (eN "self") (esC (eN "a") (esC (eN "b") esN))))
theorem aA9:Sx C 4 (pS P) L 160 (stB 5 1) 4 (wL X):=(SV.expr (EV.meth X.smc (by decide+kernel) ((wW X).lift rfl) EV.nm (EVs.cons EV.nm (EVs.cons EV.nm EVs.nil)) ⟨.inr ⟨_,_,rfl,rfl⟩,λ_=>rfl⟩ ⟨rfl,⋯,⋯⟩))
noncomputable def aFj(X:XX C):SF:=(aD (wP X) (aD (wO X) (aD (wN X) (aD (wM X) (aD (wL X) (sK .next))))))
theorem aGx:SVs C 4 (callEnvC (b5 (pS P)) L 160) (b9 (stB 5 1)) (aFj X):=(SVs.cons (aBd X P L) (SVs.cons (aBc X P L) (SVs.cons (aBb X P L) (SVs.cons (aBa X P L) (SVs.cons (aA9 X P L) SVs.nil)))))
noncomputable def yS(X:XX C):CF:=l8 ["self","isjunk","a","b","autojunk"] [.bool true] (aFj X)
theorem XX.cc_init(X:XX C):CC C 5 (.ref 160) (yS X):=λhr S hu e=>l5 X.d_init ⋯ X.b_init1 (λ_ _=>.cons (.bool true) .nil) (dT ⋯) (λL=>aGx X X.w.params L) hr S hu e
noncomputable def XX.c_SM(X:XX C):CF:=cNew (yS X)
theorem XX.cv_SM(X:XX C):CV C 6 (.ref dY) X.c_SM:=CV.sm X.kc X.cc_init
noncomputable def t6(X:XX C):SF:=(sK .next)
theorem aE3(X:XX C)(P:Params)(L:Addr):SV C 6 ((gsh P).envL L) (nth (b9 (stB 5 9)) 0) (t6 X):=(SV.doc rfl rfl)
noncomputable def t5(X:XX C):SF:=(aX "codes" (jN (bU X) (eN "self") esN))
theorem aE2(X:XX C)(P:Params)(L:Addr):SV C 6 ((gsh P).envL L) (nth (b9 (stB 5 9)) 1) (t5 X):=(SV.assign (EV.meth X.smc (by decide+kernel) ((jO X).lift rfl) (EV.nm ⋯) EVs.nil ⟨.inl rfl,λ_=>rfl⟩ ⟨rfl,⋯,⋯⟩) (.inl ⋯) rfl)
noncomputable def lM(X:XX C):SF:=(sIf (sU (tE (eN "codes"))) (aD (aX "codes" (gU (esC (bT (esC (eK (.str "equal")) (esC (eK (.int 0)) (esC (eK (.int 1)) (esC (eK (.int 0)) (esC (eK (.int 1)) esN)))))) esN))) (sK .next)) (sK .next))
theorem aE1(X:XX C)(P:Params)(L:Addr):SV C 6 ((gsh P).envL L) (nth (b9 (stB 5 9)) 2) (lM X):=(SV.ite (TV.not (TV.val (EV.nm ⋯) rfl)) (SVs.cons (SV.assign (EV.list (EVs.cons (EV.tuple (EVs.cons EV.str (EVs.cons EV.int (EVs.cons EV.int (EVs.cons EV.int (EVs.cons EV.int EVs.nil rfl) rfl) rfl) rfl) rfl)) EVs.nil rfl)) (.inl ⋯) rfl) SVs.nil) SVs.nil)
noncomputable def lL(X:XX C):SF:=(sIf (tE (aB (bB id) (aB aI (aB aI (eN "codes") (eK (.int 0))) (eK (.int 0))) (eK (.str "equal")))) (aD (cY (aB aI (eN "codes") (eK (.int 0))) (cU 5 (asC (aN "tag") (asC (aN "i1") (asC (aN "i2") (asC (aN "j1") (asC (aN "j2") asN))))))) (aD (cY (bT (esC (eN "tag") (esC (aM uQ (esC (eN "i1") (esC (aB cI (eN "i2") (eN "n")) esN))) (esC (eN "i2") (esC (aM uQ (esC (eN "j1") (esC (aB cI (eN "j2") (eN "n")) esN))) (esC (eN "j2") esN)))))) (qV (eN "codes") (eK (.int 0)))) (sK .next))) (sK .next))
theorem aE0(X:XX C)(P:Params)(L:Addr):SV C 6 ((gsh P).envL L) (nth (b9 (stB 5 9)) 3) (lL X):=(SV.ite (TV.cmp1 (EV.idx (EV.idx (EV.nm ⋯) EV.int (λ_ _=>⟨_,rfl⟩)) EV.int (λ_ _=>⟨_,rfl⟩)) EV.str OpR.eq rfl) (SVs.cons (SV.assigns (EV.idx (EV.nm ⋯) EV.int (λ_ _=>⟨_,rfl⟩)) (ALs.one (AV.tupleM X.km (AVs.cons (AV.name (.inl ⋯)) (AVs.cons (AV.name (.inl ⋯)) (AVs.cons (AV.name (.inl ⋯)) (AVs.cons (AV.name (.inl ⋯)) (AVs.cons (AV.name (.inl ⋯)) AVs.nil rfl) rfl) rfl) rfl) rfl) rfl ⋯) rfl) rfl ⋯) (SVs.cons (SV.assigns (EV.tuple (EVs.cons (EV.nm ⋯) (EVs.cons (EV.call CV.max X.g_max (EVs.cons (EV.nm ⋯) (EVs.cons (EV.binOp (EV.nm ⋯) (EV.nm ⋯) OpR.sub) EVs.nil rfl) rfl) ⟨.inr ⟨_,_,rfl,rfl⟩,λ_=>rfl⟩ ⋯ ⋯) (EVs.cons (EV.nm ⋯) (EVs.cons (EV.call CV.max X.g_max (EVs.cons (EV.nm ⋯) (EVs.cons (EV.binOp (EV.nm ⋯) (EV.nm ⋯) OpR.sub) EVs.nil rfl) rfl) ⟨.inr ⟨_,_,rfl,rfl⟩,λ_=>rfl⟩ ⋯ ⋯) (EVs.cons (EV.nm ⋯) EVs.nil rfl) rfl) rfl) rfl) rfl)) (ALs.one (AV.sub (EV.nm ⋯) EV.int) rfl) rfl ⋯) SVs.nil)) SVs.nil)
noncomputable def lK(X:XX C):SF:=(sIf (tE (aB (bB id) (aB aI (aB aI (eN "codes") (jV (eK (.int 1)))) (eK (.int 0))) (eK (.str "equal")))) (aD (cY (aB aI (eN "codes") (jV (eK (.int 1)))) (cU 5 (asC (aN "tag") (asC (aN "i1") (asC (aN "i2") (asC (aN "j1") (asC (aN "j2") asN))))))) (aD (cY (bT (esC (eN "tag") (esC (eN "i1") (esC (aM uP (esC (eN "i2") (esC (aB aH (eN "i1") (eN "n")) esN))) (esC (eN "j1") (esC (aM uP (esC (eN "j2") (esC (aB aH (eN "j1") (eN "n")) esN))) esN)))))) (qV (eN "codes") (jV (eK (.int 1))))) (sK .next))) (sK .next))
theorem aEz(X:XX C)(P:Params)(L:Addr):SV C 6 ((gsh P).envL L) (nth (b9 (stB 5 9)) 4) (lK X):=(SV.ite (TV.cmp1 (EV.idx (EV.idx (EV.nm ⋯) (EV.neg EV.int) (λ_ _=>⟨_,rfl⟩)) EV.int (λ_ _=>⟨_,rfl⟩)) EV.str OpR.eq rfl) (SVs.cons (SV.assigns (EV.idx (EV.nm ⋯) (EV.neg EV.int) (λ_ _=>⟨_,rfl⟩)) (ALs.one (AV.tupleM X.km (AVs.cons (AV.name (.inl ⋯)) (AVs.cons (AV.name (.inl ⋯)) (AVs.cons (AV.name (.inl ⋯)) (AVs.cons (AV.name (.inl ⋯)) (AVs.cons (AV.name (.inl ⋯)) AVs.nil rfl) rfl) rfl) rfl) rfl) rfl ⋯) rfl) rfl ⋯) (SVs.cons (SV.assigns (EV.tuple (EVs.cons (EV.nm ⋯) (EVs.cons (EV.nm ⋯) (EVs.cons (EV.call CV.min X.g_min (EVs.cons (EV.nm ⋯) (EVs.cons (EV.binOp (EV.nm ⋯) (EV.nm ⋯) OpR.add) EVs.nil rfl) rfl) ⟨.inr ⟨_,_,rfl,rfl⟩,λ_=>rfl⟩ ⋯ ⋯) (EVs.cons (EV.nm ⋯) (EVs.cons (EV.call CV.min X.g_min (EVs.cons (EV.nm ⋯) (EVs.cons (EV.binOp (EV.nm ⋯) (EV.nm ⋯) OpR.add) EVs.nil rfl) rfl) ⟨.inr ⟨_,_,rfl,rfl⟩,λ_=>rfl⟩ ⋯ ⋯) EVs.nil rfl) rfl) rfl) rfl) rfl)) (ALs.one (AV.sub (EV.nm ⋯) (EV.neg EV.int)) rfl) rfl ⋯) SVs.nil)) SVs.nil)
noncomputable def oC(X:XX C):SF:=(aX "nn" (aB aH (eN "n") (eN "n")))
theorem aEy(X:XX C)(P:Params)(L:Addr):SV C 6 ((gsh P).envL L) (nth (b9 (stB 5 9)) 5) (oC X):=(SV.assign (EV.binOp (EV.nm ⋯) (EV.nm ⋯) OpR.add) (.inl ⋯) rfl)
noncomputable def oA(X:XX C):SF:=(aX "group" (gU esN))
theorem aEx(X:XX C)(P:Params)(L:Addr):SV C 6 ((gsh P).envL L) (nth (b9 (stB 5 9)) 6) (oA X):=(SV.assign (EV.list EVs.nil) (.inl ⋯) rfl)
noncomputable def aFd(X:XX C):SF:=(aD (t6 X) (aD (t5 X) (aD (lM X) (aD (lL X) (aD (lK X) (aD (oC X) (aD (oA X) (sK .next))))))))
theorem gv_pre(X:XX C)(P:Params)(L:Addr):SVs C 6 ((gsh P).envL L) (gsh P).pre (aFd X):=(SVs.cons (aE3 X P L) (SVs.cons (aE2 X P L) (SVs.cons (aE1 X P L) (SVs.cons (aE0 X P L) (SVs.cons (aEz X P L) (SVs.cons (aEy X P L) (SVs.cons (aEx X P L) SVs.nil)))))))
noncomputable def g_it(X:XX C):EF:=(eN "codes")
theorem gv_it(X:XX C)(P:Params)(L:Addr):EV C 6 ((gsh P).envL L) (gsh P).iter (g_it X):=(EV.nm ⋯)
noncomputable def aFc(X:XX C):AF:=(cU 5 (asC (aN "tag") (asC (aN "i1") (asC (aN "i2") (asC (aN "j1") (asC (aN "j2") asN))))))
theorem gv_tgt(X:XX C)(P:Params)(L:Addr):AV C 6 ((gsh P).envL L) (gsh P).target (aFc X):=(AV.tupleM X.km (AVs.cons (AV.name (.inl ⋯)) (AVs.cons (AV.name (.inl ⋯)) (AVs.cons (AV.name (.inl ⋯)) (AVs.cons (AV.name (.inl ⋯)) (AVs.cons (AV.name (.inl ⋯)) AVs.nil rfl) rfl) rfl) rfl) rfl) rfl ⋯)
noncomputable def g_fc(X:XX C):TF:=(aU (tE (aB (bB id) (eN "tag") (eK (.str "equal")))) (aU (tE (aB (bW λx y=>decide (x>y)) (aB cI (eN "i2") (eN "i1")) (eN "nn"))) (tK true)))
theorem gv_fc(X:XX C)(P:Params)(L:Addr):TV C 6 ((gsh P).envL L) (gsh P).cond (g_fc X):=(TV.boolOp (bK.and_cons (TV.cmp1 (EV.nm ⋯) EV.str OpR.eq rfl) (bK.and_cons (TV.cmp1 (EV.binOp (EV.nm ⋯) (EV.nm ⋯) OpR.sub) (EV.nm ⋯) OpR.gt rfl) bK.and_nil)))
noncomputable def g_f1(X:XX C):SF:=(bO (d7 (eN "group") (bT (esC (eN "tag") (esC (eN "i1") (esC (aM uP (esC (eN "i2") (esC (aB aH (eN "i1") (eN "n")) esN))) (esC (eN "j1") (esC (aM uP (esC (eN "j2") (esC (aB aH (eN "j1") (eN "n")) esN))) esN))))))))
theorem gv_f1(X:XX C)(P:Params)(L:Addr):SV C 6 ((gsh P).envL L) (gsh P).s1 (g_f1 X):=(SV.expr (EV.append (EV.nm ⋯) (EV.tuple (EVs.cons (EV.nm ⋯) (EVs.cons (EV.nm ⋯) (EVs.cons (EV.call CV.min X.g_min (EVs.cons (EV.nm ⋯) (EVs.cons (EV.binOp (EV.nm ⋯) (EV.nm ⋯) OpR.add) EVs.nil rfl) rfl) ⟨.inr ⟨_,_,rfl,rfl⟩,λ_=>rfl⟩ ⋯ ⋯) (EVs.cons (EV.nm ⋯) (EVs.cons (EV.call CV.min X.g_min (EVs.cons (EV.nm ⋯) (EVs.cons (EV.binOp (EV.nm ⋯) (EV.nm ⋯) OpR.add) EVs.nil rfl) rfl) ⟨.inr ⟨_,_,rfl,rfl⟩,λ_=>rfl⟩ ⋯ ⋯) EVs.nil rfl) rfl) rfl) rfl) rfl)) ⟨rfl,⋯,⋯⟩ rfl) rfl rfl)
noncomputable def g_fy(X:XX C):EF:=(eN "group")
theorem gv_fy(X:XX C)(P:Params)(L:Addr):EV C 6 ((gsh P).envL L) (gsh P).ye (g_fy X):=(EV.nm ⋯)
noncomputable def g_f2(X:XX C):SF:=(aD (aX "group" (gU esN)) (aD (dZ ["i1","j1"] (bT (esC (aM uQ (esC (eN "i1") (esC (aB cI (eN "i2") (eN "n")) esN))) (esC (aM uQ (esC (eN "j1") (esC (aB cI (eN "j2") (eN "n")) esN))) esN)))) (sK .next)))
theorem gv_f2(X:XX C)(P:Params)(L:Addr):SVs C 6 ((gsh P).envL L) (gsh P).s2 (g_f2 X):=(SVs.cons (SV.assign (EV.list EVs.nil) (.inl ⋯) rfl) (SVs.cons (SV.swap (EV.tuple (EVs.cons (EV.call CV.max X.g_max (EVs.cons (EV.nm ⋯) (EVs.cons (EV.binOp (EV.nm ⋯) (EV.nm ⋯) OpR.sub) EVs.nil rfl) rfl) ⟨.inr ⟨_,_,rfl,rfl⟩,λ_=>rfl⟩ ⋯ ⋯) (EVs.cons (EV.call CV.max X.g_max (EVs.cons (EV.nm ⋯) (EVs.cons (EV.binOp (EV.nm ⋯) (EV.nm ⋯) OpR.sub) EVs.nil rfl) rfl) ⟨.inr ⟨_,_,rfl,rfl⟩,λ_=>rfl⟩ ⋯ ⋯) EVs.nil rfl) rfl)) rfl ⋯ (gQ ⋯)) SVs.nil))
noncomputable def g_f3(X:XX C):SF:=(bO (d7 (eN "group") (bT (esC (eN "tag") (esC (eN "i1") (esC (eN "i2") (esC (eN "j1") (esC (eN "j2") esN))))))))
theorem gv_f3(X:XX C)(P:Params)(L:Addr):SV C 6 ((gsh P).envL L) (gsh P).s3 (g_f3 X):=(SV.expr (EV.append (EV.nm ⋯) (EV.tuple (EVs.cons (EV.nm ⋯) (EVs.cons (EV.nm ⋯) (EVs.cons (EV.nm ⋯) (EVs.cons (EV.nm ⋯) (EVs.cons (EV.nm ⋯) EVs.nil rfl) rfl) rfl) rfl) rfl)) ⟨rfl,⋯,⋯⟩ rfl) rfl rfl)
noncomputable def zZ(X:XX C):TF:=(aU (tE (eN "group")) (aU (sU (aU (tE (aB (bB id) (aM cG (esC (eN "group") esN)) (eK (.int 1)))) (aU (tE (aB (bB id) (aB aI (aB aI (eN "group") (eK (.int 0))) (eK (.int 0))) (eK (.str "equal")))) (tK true)))) (tK true)))
theorem gv_fc2(X:XX C)(P:Params)(L:Addr):TV C 6 ((gsh P).envL L) (gsh P).cond2 (zZ X):=(TV.boolOp (bK.and_cons (TV.val (EV.nm ⋯) rfl) (bK.and_cons (TV.not (TV.boolOp (bK.and_cons (TV.cmp1 (EV.call (CV.lenM X.km) X.g_len (EVs.cons (EV.nm ⋯) EVs.nil rfl) ⟨.inr ⟨_,_,rfl,rfl⟩,λ_=>rfl⟩ ⋯ ⋯) EV.int OpR.eq rfl) (bK.and_cons (TV.cmp1 (EV.idx (EV.idx (EV.nm ⋯) EV.int (λ_ _=>⟨_,rfl⟩)) EV.int (λ_ _=>⟨_,rfl⟩)) EV.str OpR.eq rfl) bK.and_nil)))) bK.and_nil)))
noncomputable def g_fy2(X:XX C):EF:=(eN "group")
theorem gv_fy2(X:XX C)(P:Params)(L:Addr):EV C 6 ((gsh P).envL L) (gsh P).ye2 (g_fy2 X):=(EV.nm ⋯)
noncomputable def gfn(X:XX C):GFn:= {pre:=aFd X,it:=g_it X,tgt:=aFc X,fc:=g_fc X,f1:=g_f1 X,fy:=g_fy X,f2:=g_f2 X,f3:=g_f3 X,fc2:=zZ X,fy2:=g_fy2 X}
theorem XX.gv(X:XX C)(L:Addr):GV C 6 (gsh X.w.params) (gfn X) ((gsh X.w.params).envL L) where
 pre:=gv_pre X X.w.params L
 it:=gv_it X X.w.params L
 tgt:=gv_tgt X X.w.params L
 fc:=gv_fc X X.w.params L
 f1:=gv_f1 X X.w.params L
 fy:=gv_fy X X.w.params L
 f2:=gv_f2 X X.w.params L
 f3:=gv_f3 X X.w.params L
 fc2:=gv_fc2 X X.w.params L
 fy2:=gv_fy2 X X.w.params L
 hs:=λ_=>rfl
 co:=rfl
 ia:=rfl
theorem XX.dG(X:XX C):Def C (gsh X.w.params).fa (gsh X.w.params).fd (gsh X.w.params).body:=(aE7 (b5 (vP X.w.params))).symm▸X.d_get_grouped_opcodes
noncomputable def b7(X:XX C):CF:=cGen ["self","n"] []
theorem iK(X:XX C):CV C 7 (.ref 218) (b7 X):=CV.gen X.gc X.dG ⋯ X.b_get_grouped_opcodes (λ_ _=>.nil) (nml_ok ⋯)
end
section
noncomputable def av(l:List Int)(i:Int):Int:=l.getD i.toNat 0
noncomputable def Mt(a b:List Int)(i j k:Int):Prop:=∀ t,0<=t->t<k->av a (i+t)=av b (j+t)
structure Wd where
 al:Int
 ah:Int
 bl:Int
 bh:Int
structure In(a b:List Int)(w:Wd)(i j k:Int):Prop where
 i0:w.al<=i
 i1:i+k<=w.ah
 j0:w.bl<=j
 j1:j+k<=w.bh
 k0:0<=k
 m:Mt a b i j k
noncomputable def Ge(i j k i' j' k':Int):Prop:=k'<k∨(k'=k/\(i<i'∨(i=i'/\j<=j')))
structure Best(a b:List Int)(w:Wd)(i j k:Int):Prop where
 n:In a b w i j k
 z:k=0->i=w.al/\j=w.bl
 g:∀ i' j' k',In a b w i' j' k'->0<k'->Ge i j k i' j' k'
theorem Ge.anti{i j k i' j' k':Int}(h:Ge i j k i' j' k')(h':Ge i' j' k' i j k):i=i'/\j=j'/\k=k':=by
 rcases h with h |⟨e,h⟩
 ·rcases h' with h' |⟨e',_⟩
  ·exact absurd h (Int.lt_asymm h')
  ·exact absurd h (e'▸Int.lt_irrefl _)
 ·rcases h' with h' |⟨_,h'⟩
  ·exact absurd h' (e▸Int.lt_irrefl _)
  ·rcases h with h |⟨e1,h⟩
   ·rcases h' with h' |⟨e2,_⟩
    ·exact absurd h (Int.lt_asymm h')
    ·exact absurd h (e2▸Int.lt_irrefl _)
   ·rcases h' with h' |⟨_,h'⟩
    ·exact absurd h' (e1▸Int.lt_irrefl _)
    ·exact⟨e1,Int.le_antisymm h h',e.symm⟩
theorem Ge.pos{i j k i' j' k':Int}(h:Ge i j k i' j' k')(h':0<k'):0<k:=by
 rcases h with h |⟨e,_⟩
 ·exact Int.lt_trans h' h
 ·exact e▸h'
theorem Best.uniq{a b:List Int}{w:Wd}{i j k i' j' k':Int}(h:Best a b w i j k)(h':Best a b w i' j' k'):i=i'/\j=j'/\k=k':=by
 refine Or.elim (Int.lt_or_eq_of_le h.n.k0) (λp=>?_) λp=>?_
 ·have q:=h'.g _ _ _ h.n p
  exact(h.g _ _ _ h'.n (q.pos p)).anti q
 ·refine Or.elim (Int.lt_or_eq_of_le h'.n.k0) (λp'=>?_) λp'=>?_
  ·exact absurd ((h.g _ _ _ h'.n p').pos p') (p▸Int.lt_irrefl _)
  ·have z:=h.z p.symm;have z':=h'.z p'.symm
   exact⟨z.1.trans z'.1.symm,z.2.trans z'.2.symm,p.symm.trans p'⟩
structure Suf(a b:List Int)(w:Wd)(i j k:Int):Prop where
 k0:0<=k
 i0:w.al<=i-k+1
 j0:w.bl<=j-k+1
 m:Mt a b (i-k+1) (j-k+1) k
 x:w.al<=i-k->w.bl<=j-k->av a (i-k)≠av b (j-k)
theorem Suf.zero{a b:List Int}{w:Wd}{i j:Int}(hi:w.al<=i+1)(hj:w.bl<=j+1)(x:w.al<=i->w.bl<=j->av a i≠av b j):Suf a b w i j 0:=
 ⟨Int.le_refl _,A128 hi,A128 hj,λt h1 h2=>absurd h2 (Int.not_lt.mpr h1),by simpa using x⟩
theorem Suf.succ{a b:List Int}{w:Wd}{i j k:Int}(h:Suf a b w (i-1) (j-1) k)(e:av a i=av b j):Suf a b w i j (k+1):=by
 have e1:i-(k+1)=i-1-k:=A129
 have e2:j-(k+1)=j-1-k:=A129
 refine⟨Int.add_nonneg h.k0 (by decide),by rw[e1];exact h.i0,by rw[e2];exact h.j0,λt h1 h2=>?_,by rw[e1,e2];exact h.x⟩
 rw [e1,e2]
 by_cases q:t=k
 ·have a1:i-1-k+1+t=i:=A130 q
  have a2:j-1-k+1+t=j:=A131 a1
  rw [a1,a2];exact e
 ·exact h.m t h1 (A132 h2 q)
theorem Suf.max{a b:List Int}{w:Wd}{i j k i' j' k':Int}(h:Suf a b w i j k)(n:In a b w i' j' k')(e1:i'+k'=i+1)(e2:j'+k'=j+1):k'<=k:=by
 refine Int.not_lt.mp λq=>?_
 have k0:=h.k0
 have m:=n.m (k'-1-k) (A133 q) (A134 k0)
 have a1:i'+(k'-1-k)=i-k:=A135 e1
 have a2:j'+(k'-1-k)=j-k:=A135 e2
 rw [a1,a2]at m
 exact h.x (by have:=n.i0;exact A136 q a1 this) (by have:=n.j0;exact A136 q a2 this) m
structure BU(a b:List Int)(w:Wd)(x y i j k:Int):Prop where
 n:In a b w i j k
 z:k=0->i=w.al/\j=w.bl
 e:0<k->i+k<=x∨(i+k=x+1/\j+k<=y)
 g:∀ i' j' k',In a b w i' j' k'->0<k'->(i'+k'<=x∨(i'+k'=x+1/\j'+k'<=y))->Ge i j k i' j' k'
theorem BU.start{a b:List Int}{w:Wd}(h1:w.al<=w.ah)(h2:w.bl<=w.bh):BU a b w w.al w.bl w.al w.bl 0:=by
 refine⟨⟨Int.le_refl _,A137 h1,Int.le_refl _,A137 h2,Int.le_refl _,λt h1 h2=>absurd h2 (Int.not_lt.mpr h1)⟩,λ_=>⟨rfl,rfl⟩,λq=>absurd q (Int.lt_irrefl _),λi' j' k' n q r=>?_⟩
 have:=n.i0;have:=n.j0;omega
theorem BU.skip{a b:List Int}{w:Wd}{x y y' i j k:Int}(h:BU a b w x y i j k)(hy:y<=y')(hn:∀ c,y<=c->c<y'->w.bl<=c->c<w.bh->av a x≠av b c):BU a b w x y' i j k:=by
 refine⟨h.n,h.z,λq=>(h.e q).imp_right λr=>⟨r.1,Int.le_trans r.2 hy⟩,λi' j' k' n q r=>?_⟩
 by_cases p:i'+k'<=x∨(i'+k'=x+1/\j'+k'<=y)
 ·exact h.g i' j' k' n q p
 ·have m:=n.m (k'-1) (A138 q) A139
  have a1:i'+(k'-1)=x:=A140 r p
  rw [a1]at m
  exact absurd m (hn _ (A141 p a1) (A142 r a1) (by have:=n.j0;exact A143 q this) (by have:=n.j1;exact A144 this))
theorem BU.row{a b:List Int}{w:Wd}{x i j k:Int}(h:BU a b w x w.bh i j k):BU a b w (x+1) w.bl i j k:=by
 refine⟨h.n,h.z,λq=>.inl ?_,λi' j' k' n q r=>h.g i' j' k' n q ?_⟩
 ·refine Or.elim (h.e q) (λr=>?_) λr=>?_<;>omega
 ·have:=n.j0;have:=n.j1;omega
theorem BU.at{a b:List Int}{w:Wd}{x y i j k i' j' k':Int}(h:BU a b w x y i j k)(n:In a b w i' j' k')(r:0<k')(t:i'+k'<=x∨(i'+k'=x+1/\j'+k'<=y+1))(u: ¬(i'+k'<=x∨(i'+k'=x+1/\j'+k'<=y))):i'+k'=x+1/\j'+k'=y+1:=by
 rcases t with t |⟨t1,t2⟩
 ·exact absurd (.inl t) u
 ·exact⟨t1,Int.le_antisymm t2 (Int.not_lt.mp λq=>u (.inr ⟨t1,Int.le_of_lt_add_one q⟩))⟩
theorem BU.step{a b:List Int}{w:Wd}{x y i j k k1:Int}(h:BU a b w x y i j k)(s:Suf a b w x y k1)(hx:x<w.ah)(hy:y<w.bh)(p:0<k1):
  BU a b w x (y+1) (if k<k1 then x-k1+1 else i) (if k<k1 then y-k1+1 else j) (if k<k1 then k1 else k):=by
 by_cases q:k<k1
 ·simp only[if_pos q]
  refine⟨⟨s.i0,A145 hx,s.j0,A145 hy,s.k0,s.m⟩,λz=>by exact(A146 p z).elim,λ_=>.inr ⟨A147,A148⟩,λi' j' k' n r t=>?_⟩
  by_cases u:i'+k'<=x∨(i'+k'=x+1/\j'+k'<=y)
  ·rcases h.g i' j' k' n r u with v |⟨v,_⟩
   ·exact .inl (Int.lt_trans v q)
   ·exact .inl (v▸q)
  ·have e:=BU.at h n r t u
   refine Or.elim (Int.lt_or_eq_of_le (s.max n e.1 e.2)) (λv=>?_) λv=>?_
   ·exact .inl v
   ·exact .inr ⟨v,.inr ⟨A149 e v,A150 e v⟩⟩
 ·simp only[if_neg q]
  refine⟨h.n,h.z,λz=>(h.e z).imp_right λr=>⟨r.1,A151 r⟩,λi' j' k' n r t=>?_⟩
  by_cases u:i'+k'<=x∨(i'+k'=x+1/\j'+k'<=y)
  ·exact h.g i' j' k' n r u
  ·have e:=BU.at h n r t u
   have v:=Int.le_trans (s.max n e.1 e.2) (Int.not_lt.mp q)
   refine Or.elim (Int.lt_or_eq_of_le v) (λv=>?_) λv=>?_
   ·exact .inl v
   ·refine .inr ⟨v,?_⟩
    refine Or.elim (h.e (v▸r)) (λz=>?_) λz=>?_
    ·exact .inl (A152 e v z)
    ·exact .inr ⟨A153 e v z,A154 e v z⟩
theorem BU.done{a b:List Int}{w:Wd}{i j k:Int}(h:BU a b w w.ah w.bl i j k):Best a b w i j k:=
 ⟨h.n,h.z,λi' j' k' n q=>h.g i' j' k' n q (.inl n.i1)⟩
noncomputable def Row(a b:List Int)(w:Wd)(x y:Int)(g:Int->Option Int):Prop:=
 ∀ c,if w.bl<=c/\c<y/\w.al<=x/\av a x=av b c then ∃ k,g c=some k/\Suf a b w x c k else g c=none
theorem Row.skip{a b:List Int}{w:Wd}{x y y':Int}{g:Int->Option Int}(h:Row a b w x y g)(hy:y<=y')(hn:∀ c,y<=c->c<y'->w.bl<=c->av a x≠av b c):Row a b w x y' g:=λc=>by
 have:=h c
 by_cases q:w.bl<=c/\c<y'/\w.al<=x/\av a x=av b c
 ·rw[if_pos q]
  by_cases r:c<y
  ·rwa [if_pos ⟨q.1,r,q.2.2⟩]at this
  ·exact absurd q.2.2.2 (hn c (Int.not_lt.mp r) q.2.1 q.1)
 ·rw[if_neg q]
  rwa [if_neg λr=>q ⟨r.1,A155 hy r,r.2.2⟩]at this
theorem Row.step{a b:List Int}{w:Wd}{x y k:Int}{g:Int->Option Int}(h:Row a b w x y g)(hy:w.bl<=y)(hx:w.al<=x)(e:av a x=av b y)(s:Suf a b w x y k):Row a b w x (y+1) (λc=>if c=y then some k else g c):=λc=>by
 have:=h c
 by_cases q:c=y
 ·subst q
  rw [if_pos ⟨hy,A156,hx,e⟩]
  exact⟨k,if_pos rfl,s⟩
 ·dsimp only
  rw [if_neg q]
  by_cases r:w.bl<=c/\c<y/\w.al<=x/\av a x=av b c
  ·rw[if_pos r]at this
   rw [if_pos ⟨r.1,A157 r,r.2.2⟩];exact this
  ·rw[if_neg r]at this
   rw [if_neg λz=>r ⟨z.1,A158 q z,z.2.2⟩];exact this
theorem Row.next{a b:List Int}{w:Wd}{x y:Int}{g:Int->Option Int}(h:Row a b w (x-1) w.bh g)(hx:w.al<=x)(hy:w.bl<=y)(hy2:y<w.bh)(e:av a x=av b y):Suf a b w x y ((g (y-1)).getD 0+1):=by
 have:=h (y-1)
 refine Suf.succ ?_ e
 by_cases q:w.bl<=y-1/\y-1<w.bh/\w.al<=x-1/\av a (x-1)=av b (y-1)
 ·rw[if_pos q]at this
  refine xEA this λk h1 h2=>?_
  rw [h1];exact h2
 ·rw[if_neg q]at this
  rw [this]
  exact .zero (A159 hx) (A159 hy) λh1 h2 h3=>q ⟨h2,A160 hy2,h1,h3⟩
theorem Row.zero{a b:List Int}{w:Wd}{x y:Int}(h:x<w.al∨y<=w.bl):Row a b w x y (λ_=>none):=λc=>by
 rw [if_neg (A161 h)]
inductive Idx(b:List Int)(v:Int):Int->List Int->Prop
 |nil {lo:Int} (h:∀ c:Int,lo<=c->c<b.length->av b c≠v):Idx b v lo []
 |cons {lo j:Int}{js:List Int} (h:lo<=j) (hl:j<b.length) (e:av b j=v) (n:∀ c:Int,lo<=c->c<j->av b c≠v) (r:Idx b v (j+1) js):Idx b v lo (j :: js)
theorem Idx.no{b:List Int}{v y j:Int}{js:List Int}(h:Idx b v y (j :: js)):∀ c,y<=c->c<j->av b c≠v:=by
 cases h with
 |cons _ _ _ n _=>exact n
end
section
structure WOk(a b:List Int)(w:Wd):Prop where
 a0:0<=w.al
 a1:w.al<=w.ah
 a2:w.ah<=a.length
 b0:0<=w.bl
 b1:w.bl<=w.bh
 b2:w.bh<=b.length
structure T3 where
 i:Int
 j:Int
 k:Int
noncomputable def iX(w:Wd)(i j:Int)(q:List Wd):List Wd:=if w.al<i/\w.bl<j then⟨w.al,i,w.bl,j⟩ :: q else q
noncomputable def kC(w:Wd)(i j k:Int)(q:List Wd):List Wd:=if i+k<w.ah/\j+k<w.bh then⟨i+k,w.ah,j+k,w.bh⟩ :: q else q
inductive Run(a b:List Int):List Wd->List T3->List T3->Prop
 |nil {m:List T3}:Run a b [] m m
 |zero {w:Wd}{q:List Wd}{m r:List T3}{i j:Int} (B:Best a b w i j 0) (h:Run a b q m r):Run a b (w :: q) m r
 |pos {w:Wd}{q:List Wd}{m r:List T3}{i j k:Int} (B:Best a b w i j k) (p:0<k) (h:Run a b (kC w i j k (iX w i j q)) (m++[⟨i,j,k⟩]) r):Run a b (w :: q) m r
theorem Run.uniq{a b:List Int}{q:List Wd}{m r r':List T3}(h:Run a b q m r)(h':Run a b q m r'):r=r':=by
 induction h with
 |nil=>cases h';rfl
 |zero B h ih=>
  cases h' with
  |zero B' h'=>exact ih h'
  |pos B' p h'=>exact absurd ((B.uniq B').2.2▸p) (Int.lt_irrefl _)
 |pos B p h ih=>
  cases h' with
  |zero B' h'=>exact absurd ((B'.uniq B).2.2▸p) (Int.lt_irrefl _)
  |pos B' p' h'=>
   refine xAA (B.uniq B') λe1 e2 e3=>?_
   subst e1 e2 e3
   exact ih h'
noncomputable def wsz(w:Wd):Nat:=2*(w.ah-w.al).toNat+1
noncomputable def mu:List Wd->Nat
 | []=>0
 |w :: q=>wsz w+mu q
theorem mu_c(w:Wd)(q:List Wd):mu (w :: q)=wsz w+mu q:=rfl
theorem yA:∀ q:List Wd,q.length<=mu q
 | []=>Nat.le_refl _
 |w :: q=>by
  rw [mu_c,List.length_cons,Nat.add_comm]
  exact Nat.add_le_add (Nat.le_add_left _ _) (yA q)
theorem zA{a b:List Int}{w:Wd}{i j k:Int}(h:WOk a b w)(B:Best a b w i j k){q:List Wd}(hq:∀ v∈q,WOk a b v):∀ v∈kC w i j k (iX w i j q),WOk a b v:=by
 have i0:=B.n.i0;have i1:=B.n.i1;have j0:=B.n.j0;have j1:=B.n.j1;have k0:=B.n.k0
 have ik:=Int.add_le_add_left k0 i;have jk:=Int.add_le_add_left k0 j
 rw [Int.add_zero]at ik jk
 have h1:∀ v∈iX w i j q,WOk a b v:=λv hv=>by
  unfold iX at hv
  split at hv
  ·refine Or.elim (List.mem_cons.mp hv) (λe=>?_) λe=>?_
   ·exact e▸⟨h.a0,i0,Int.le_trans ik (Int.le_trans i1 h.a2),h.b0,j0,Int.le_trans jk (Int.le_trans j1 h.b2)⟩
   ·exact hq v e
  ·exact hq v hv
 intro v hv
 unfold kC at hv
 split at hv
 ·refine Or.elim (List.mem_cons.mp hv) (λe=>?_) λe=>?_
  ·exact e▸⟨Int.le_trans h.a0 (Int.le_trans i0 ik),i1,h.a2,Int.le_trans h.b0 (Int.le_trans j0 jk),j1,h.b2⟩
  ·exact h1 v e
 ·exact h1 v hv
theorem mu_sub{a b:List Int}{w:Wd}{i j k:Int}(B:Best a b w i j k)(p:0<k)(q:List Wd):mu (kC w i j k (iX w i j q))+1<=mu (w :: q):=by
 have i0:=B.n.i0;have i1:=B.n.i1
 have e1:mu (iX w i j q)<=2*(i-w.al).toNat+1+mu q:=by
  unfold iX
  split
  ·exact Nat.le_refl _
  ·exact Nat.le_add_left _ _
 have e2:mu (kC w i j k (iX w i j q))<=2*(w.ah-(i+k)).toNat+1+mu (iX w i j q):=by
  unfold kC
  split
  ·exact Nat.le_refl _
  ·exact Nat.le_add_left _ _
 have e3:mu (w :: q)=2*(w.ah-w.al).toNat+1+mu q:=rfl
 exact A183 p i0 i1 e1 e2 e3
noncomputable def nad(c:T3):List T3->List T3
 | []=>if c.k=0 then [] else [c]
 |x :: xs=>if c.i+c.k=x.i/\c.j+c.k=x.j then nad ⟨c.i,c.j,c.k+x.k⟩ xs else(if c.k=0 then [] else [c])++nad x xs
theorem zM(c:T3):nad c []=if c.k=0 then [] else [c]:=rfl
theorem zN(c x:T3)(xs:List T3):nad c (x :: xs)=if c.i+c.k=x.i/\c.j+c.k=x.j then nad ⟨c.i,c.j,c.k+x.k⟩ xs else(if c.k=0 then [] else [c])++nad x xs:=rfl
end
section
structure Bx(a b:List Int)(t:T3):Prop where
 p:0<t.k
 n:In a b ⟨0,a.length,0,b.length⟩ t.i t.j t.k
noncomputable def T3.w(t:T3):Wd:=⟨t.i,t.i+t.k,t.j,t.j+t.k⟩
noncomputable def Sep(x y:Wd):Prop:=(x.ah<=y.al/\x.bh<=y.bl)∨(y.ah<=x.al/\y.bh<=x.bl)
structure Sb(x y:Wd):Prop where
 a0:y.al<=x.al
 a1:x.ah<=y.ah
 b0:y.bl<=x.bl
 b1:x.bh<=y.bh
theorem Sep.symm{x y:Wd}(h:Sep x y):Sep y x:=Or.symm h
theorem Sep.sub{x y z:Wd}(h:Sep y z)(s:Sb x y):Sep x z:=
 h.imp (λh=>⟨Int.le_trans s.a1 h.1,Int.le_trans s.b1 h.2⟩) λh=>⟨Int.le_trans h.1 s.a0,Int.le_trans h.2 s.b0⟩
section
variable {a b:List Int}{w:Wd}{i j k:Int}{q:List Wd}
theorem cX(i:Int){k:Int}(h:0<=k):i<=i+k:=Int.le_add_of_nonneg_right h
theorem sb1(B:In a b w i j k):Sb ⟨w.al,i,w.bl,j⟩ w:=⟨Int.le_refl _,Int.le_trans (cX i B.k0) B.i1,Int.le_refl _,Int.le_trans (cX j B.k0) B.j1⟩
theorem sb2(B:In a b w i j k):Sb ⟨i+k,w.ah,j+k,w.bh⟩ w:=⟨Int.le_trans B.i0 (cX i B.k0),Int.le_refl _,Int.le_trans B.j0 (cX j B.k0),Int.le_refl _⟩
theorem sb3(B:In a b w i j k):Sb (T3.w ⟨i,j,k⟩) w:=⟨B.i0,B.i1,B.j0,B.j1⟩
theorem mem1{v:Wd}(h:v∈iX w i j q):v=⟨w.al,i,w.bl,j⟩∨v∈q:=by
 unfold iX at h
 split at h
 ·exact List.mem_cons.mp h
 ·exact .inr h
theorem mem2{v:Wd}(h:v∈kC w i j k q):v=⟨i+k,w.ah,j+k,w.bh⟩∨v∈q:=by
 unfold kC at h
 split at h
 ·exact List.mem_cons.mp h
 ·exact .inr h
theorem pw1(h:q.Pairwise Sep)(c:∀ v∈q,Sep ⟨w.al,i,w.bl,j⟩ v):(iX w i j q).Pairwise Sep:=by
 unfold iX
 split
 ·exact List.pairwise_cons.mpr ⟨c,h⟩
 ·exact h
theorem pw2(h:q.Pairwise Sep)(c:∀ v∈q,Sep ⟨i+k,w.ah,j+k,w.bh⟩ v):(kC w i j k q).Pairwise Sep:=by
 unfold kC
 split
 ·exact List.pairwise_cons.mpr ⟨c,h⟩
 ·exact h
end
noncomputable def SepT(x y:T3):Prop:=Sep x.w y.w
theorem Run.ok{a b:List Int}{q:List Wd}{m r:List T3}(h:Run a b q m r)(hw:∀ w∈q,WOk a b w)(hm:∀ t∈m,Bx a b t)(pq:q.Pairwise Sep)(pm:m.Pairwise SepT)(cr:∀ w∈q,∀ t∈m,Sep w t.w):
  (∀ t∈r,Bx a b t)/\r.Pairwise SepT:=by
 induction h with
 |nil=>exact⟨hm,pm⟩
 |zero B h ih=>
  exact ih (λv hv=>hw v (.tail _ hv)) hm (List.pairwise_cons.mp pq).2 pm λv hv=>cr v (.tail _ hv)
 | @pos w q m r i j k B p h ih=>
  have W:=hw w (.head _)
  have n:=B.n
  refine xA (List.pairwise_cons.mp pq) λpw pq=>?_
  have cl:∀ v∈iX w i j q,v=⟨w.al,i,w.bl,j⟩∨v∈q:=λv hv=>mem1 hv
  have new:∀ v∈kC w i j k (iX w i j q),Sep v (T3.w ⟨i,j,k⟩):=λv hv=>by
   refine Or.elim (mem2 hv) (λe=>?_) λe=>?_
   ·exact e▸ .inr ⟨Int.le_refl _,Int.le_refl _⟩
   ·refine Or.elim (cl v e) (λe=>?_) λe=>?_
    ·exact e▸ .inl ⟨Int.le_refl _,Int.le_refl _⟩
    ·exact((pw v e).sub (sb3 n)).symm
  refine ih (zA W B λv hv=>hw v (.tail _ hv)) (λt ht=>?_) (pw2 (pw1 pq λv hv=>(pw v hv).sub (sb1 n)) λv hv=>?_) (List.pairwise_append.mpr ⟨pm,List.pairwise_singleton _ _,λx hx y hy=>?_⟩) λv hv t ht=>?_
  ·refine Or.elim (List.mem_append.mp ht) (λe=>?_) λe=>?_
   ·exact hm t e
   ·cases List.mem_singleton.mp e
    exact⟨p,Int.le_trans W.a0 n.i0,Int.le_trans n.i1 W.a2,Int.le_trans W.b0 n.j0,Int.le_trans n.j1 W.b2,n.k0,n.m⟩
  ·refine Or.elim (cl v hv) (λe=>?_) λe=>?_
   ·exact e▸ .inr ⟨cX i n.k0,cX j n.k0⟩
   ·exact(pw v e).sub (sb2 n)
  ·cases List.mem_singleton.mp hy
   exact((cr w (.head _) x hx).sub (sb3 n)).symm
  ·refine Or.elim (List.mem_append.mp ht) (λe=>?_) λe=>?_
   ·refine Or.elim (mem2 hv) (λz=>?_) λz=>?_
    ·exact z▸(cr w (.head _) t e).sub (sb2 n)
    ·refine Or.elim (cl v z) (λz=>?_) λz=>?_
     ·exact z▸(cr w (.head _) t e).sub (sb1 n)
     ·exact cr v (.tail _ z) t e
   ·cases List.mem_singleton.mp e
    exact new v hv
theorem Run.ok0{a b:List Int}{r:List T3}(h:Run a b [⟨0,a.length,0,b.length⟩] [] r):(∀ t∈r,Bx a b t)/\r.Pairwise SepT:=
 h.ok (λw hw=>by
  cases List.mem_singleton.mp hw
  exact⟨Int.le_refl _,Int.natCast_nonneg _,Int.le_refl _,Int.le_refl _,Int.natCast_nonneg _,Int.le_refl _⟩) nofun (List.pairwise_singleton _ _) .nil λ_ _=>nofun
inductive CH(a b:List Int):Int->Int->List T3->Prop
 |nil {i j:Int}:CH a b i j []
 |cons {i j:Int}{t:T3}{l:List T3} (hi:i<=t.i) (hj:j<=t.j) (B:Bx a b t) (h:CH a b (t.i+t.k) (t.j+t.k) l):CH a b i j (t :: l)
theorem CH.of{a b:List Int}:∀ {l:List T3}{i j:Int},(∀ t∈l,Bx a b t)->l.Pairwise SepT->l.Pairwise (λx y=>x.i<y.i)->(∀ t∈l,i<=t.i/\j<=t.j)->CH a b i j l
 | [],_,_,_,_,_,_=>.nil
 |t :: l,i,j,hb,hs,hl,h0=>by
  refine xA (List.pairwise_cons.mp hs) λs1 s2=>?_
  refine xA (List.pairwise_cons.mp hl) λl1 l2=>?_
  have ht:=h0 t (.head _)
  refine .cons ht.1 ht.2 (hb t (.head _)) (CH.of (λx hx=>hb x (.tail _ hx)) s2 l2 λx hx=>?_)
  refine Or.elim (s1 x hx) (λs=>?_) λs=>?_
  ·exact s
  ·have p:=(hb x (.tail _ hx)).p
   have e:=Int.lt_of_lt_of_le (l1 x hx) (Int.le_trans (Int.le_of_lt (Int.lt_add_of_pos_right x.i p)) s.1)
   exact absurd e (Int.lt_irrefl _)
theorem CH.len{a b:List Int}{l:List T3}{i j:Int}(h:CH a b i j l)(hi:i<=a.length):i+l.length<=a.length:=by
 induction h with
 |nil=>simpa using hi
 | @cons i j t l h1 h2 B h ih=>
  have:=ih B.n.i1
  have p:=B.p
  rw [List.length_cons]
  exact A201 h1 this p
theorem n6:∀ (l:List T3) (c:T3),(nad c l).length<=l.length+1
 | [],c=>by
  rw [zM];split
  ·exact Nat.zero_le 1
  ·exact Nat.le_refl 1
 |x :: l,c=>by
  rw [zN];split
  ·exact Nat.le_succ_of_le (n6 l _)
  ·rw[List.length_append,List.length_cons,Nat.add_comm]
   refine Nat.add_le_add (n6 l x) ?_
   split
   ·exact Nat.zero_le 1
   ·exact Nat.le_refl 1
theorem Run.sorted{a b:List Int}{r:List T3}(h:Run a b [⟨0,a.length,0,b.length⟩] [] r):r.Pairwise (λx y=>x.i≠y.i)/\CH a b 0 0 (isort T3.i r):=by
 refine xA h.ok0 λh1 h2=>?_
 have ne:r.Pairwise (λx y=>x.i≠y.i):=h2.imp_of_mem λ{x y} hx hy s e=>by
  have px:=(h1 x hx).p;have py:=(h1 y hy).p
  refine Or.elim s (λs=>?_) λs=>?_
  ·exact absurd (Int.lt_of_lt_of_le (Int.lt_add_of_pos_right x.i px) s.1) (e▸Int.lt_irrefl _)
  ·exact absurd (Int.lt_of_lt_of_le (Int.lt_add_of_pos_right y.i py) s.1) (e▸Int.lt_irrefl _)
 have pm:=cJ T3.i r
 have h3:∀ t∈isort T3.i r,Bx a b t:=λt ht=>h1 t (pm.mem_iff.mp ht)
 exact⟨ne,.of h3 ((pm.pairwise_iff λ{x y} (s:SepT x y)=>s.symm).mpr h2) (pY ne) λt ht=>⟨(h3 t ht).n.i0,(h3 t ht).n.j0⟩⟩
theorem Run.len{a b:List Int}{r:List T3}(h:Run a b [⟨0,a.length,0,b.length⟩] [] r):r.length<=a.length:=by
 have:=h.sorted.2.len (Int.natCast_nonneg _)
 rw [(cJ T3.i r).length_eq]at this
 exact A202 this
end
section
inductive Tg where |rep |del |ins |eq
structure Op where
 tag:Tg
 i1:Int
 i2:Int
 j1:Int
 j2:Int
noncomputable def gap(i j i' j':Int):List Op:=if i<i' then if j<j' then [⟨.rep,i,i',j,j'⟩] else [⟨.del,i,i',j,j'⟩] else if j<j' then [⟨.ins,i,i',j,j'⟩] else []
noncomputable def ops(i j:Int):List T3->List Op
 | []=>[]
 |t :: l=>gap i j t.i t.j++((if t.k=0 then [] else [Op.mk .eq t.i (t.i+t.k) t.j (t.j+t.k)])++ops (t.i+t.k) (t.j+t.k) l)
theorem ops_n(i j:Int):ops i j []= []:=rfl
theorem aDt(i j:Int)(t:T3)(l:List T3):ops i j (t :: l)=gap i j t.i t.j++((if t.k=0 then [] else [Op.mk .eq t.i (t.i+t.k) t.j (t.j+t.k)])++ops (t.i+t.k) (t.j+t.k) l):=rfl
inductive NA(a b:List Int):Bool->Int->Int->List T3->Prop
 |nil {f:Bool}{i j:Int}:NA a b f i j []
 |cons {f:Bool}{i j:Int}{t:T3}{l:List T3} (hi:i<=t.i) (hj:j<=t.j) (st:f=true->i<t.i∨j<t.j) (B:Bx a b t) (h:NA a b true (t.i+t.k) (t.j+t.k) l):NA a b f i j (t :: l)
theorem Bx.nz{a b:List Int}{c:T3}(B:Bx a b c):c.k≠0:=λz=>absurd B.p (z▸Int.lt_irrefl _)
theorem Bx.join{a b:List Int}{c x:T3}(B:Bx a b c)(X:Bx a b x)(e1:c.i+c.k=x.i)(e2:c.j+c.k=x.j):Bx a b ⟨c.i,c.j,c.k+x.k⟩:=by
 have n:=X.n
 have c0:=B.n.k0
 refine⟨Int.add_pos_of_pos_of_nonneg B.p n.k0,B.n.i0,?_,B.n.j0,?_,Int.add_nonneg c0 n.k0,λt h1 h2=>?_⟩
 ·show c.i+(c.k+x.k)<=_
  rw [<-Int.add_assoc,e1];exact n.i1
 ·show c.j+(c.k+x.k)<=_
  rw [<-Int.add_assoc,e2];exact n.j1
 ·by_cases q:t<c.k
  ·exact B.n.m t h1 q
  ·have:=n.m (t-c.k) (Int.sub_nonneg_of_le (Int.not_lt.mp q)) (Int.sub_left_lt_of_lt_add h2)
   rw [<-e1,<-e2,Int.add_assoc,Int.add_assoc,show c.k+(t-c.k)=t from A203]at this
   exact this
theorem k9{a b:List Int}:∀ {l:List T3}{c:T3}{f:Bool}{i j:Int},CH a b (c.i+c.k) (c.j+c.k) l->Bx a b c->i<=c.i->j<=c.j->(f=true->i<c.i∨j<c.j)->NA a b f i j (nad c l)
 | [],c,f,i,j,_,B,hi,hj,st=>by
  rw [zM,if_neg B.nz]
  exact .cons hi hj st B .nil
 |x :: l,c,f,i,j,h,B,hi,hj,st=>by
  cases h with
  |cons h1 h2 X h=>
  rw [zN]
  by_cases q:c.i+c.k=x.i/\c.j+c.k=x.j
  ·rw[if_pos q]
   refine k9 (c:=⟨c.i,c.j,c.k+x.k⟩) ?_ (B.join X q.1 q.2) hi hj st
   show CH a b (c.i+(c.k+x.k)) (c.j+(c.k+x.k)) l
   rw [<-Int.add_assoc,<-Int.add_assoc,q.1,q.2];exact h
  ·rw[if_neg q,if_neg B.nz]
   refine .cons hi hj st B (k9 h X h1 h2 λ_=>?_)
   by_cases q1:c.i+c.k=x.i
   ·exact .inr (Int.lt_iff_le_and_ne.mpr ⟨h2,λz=>q ⟨q1,z⟩⟩)
   ·exact .inl (Int.lt_iff_le_and_ne.mpr ⟨h1,q1⟩)
theorem nad_0{a b:List Int}{l:List T3}(h:CH a b 0 0 l):NA a b false 0 0 (nad ⟨0,0,0⟩ l):=by
 cases h with
 |nil=>exact .nil
 | @cons i j t l h1 h2 X h=>
  rw [zN]
  show NA a b false 0 0 (if (0:Int)+0=t.i/\(0:Int)+0=t.j then nad ⟨0,0,0+t.k⟩ l else []++nad t l)
  by_cases q:(0:Int)+0=t.i/\(0:Int)+0=t.j
  ·rw[if_pos q]
   have e:(⟨0,0,0+t.k⟩:T3)=t:=by
    cases t
    cases q.1;cases q.2
    rw [Int.zero_add];rfl
   rw [e]
   exact k9 h X h1 h2 nofun
  ·rw[if_neg q]
   exact k9 h X h1 h2 nofun
inductive Cod(a b:List Int):Option Bool->Int->Int->List Op->Prop
 |nil {f:Option Bool}:Cod a b f a.length b.length []
 |eq {f:Option Bool}{i j k:Int}{l:List Op} (hf:f≠some true) (p:0<k) (m:Mt a b i j k) (h:Cod a b (some true) (i+k) (j+k) l):Cod a b f i j (⟨.eq,i,i+k,j,j+k⟩ :: l)
 |ch {f:Option Bool}{i j i' j':Int}{g:Tg}{l:List Op} (hf:f≠some false) (hg:g≠ .eq) (hi:i<=i') (hj:j<=j') (lt:i<i'∨j<j') (h:Cod a b (some false) i' j' l):Cod a b f i j (⟨g,i,i',j,j'⟩ :: l)
theorem Cod.gap{a b:List Int}{f:Option Bool}{i j i' j':Int}{l:List Op}(hf:f≠some false)(hi:i<=i')(hj:j<=j')(h1:i=i'->j=j'->Cod a b f i j l)(h2:Cod a b (some false) i' j' l):Cod a b f i j (Mine.gap i j i' j'++l):=by
 unfold Mine.gap
 by_cases q1:i<i'
 ·rw[if_pos q1]
  split
  ·exact .ch hf nofun hi hj (.inl q1) h2
  ·exact .ch hf nofun hi hj (.inl q1) h2
 ·rw[if_neg q1]
  by_cases q2:j<j'
  ·rw[if_pos q2];exact .ch hf nofun hi hj (.inr q2) h2
  ·rw[if_neg q2]
   exact h1 (Int.le_antisymm hi (Int.not_lt.mp q1)) (Int.le_antisymm hj (Int.not_lt.mp q2))
noncomputable def fl(f:Bool):Option Bool:=if f=true then some true else none
theorem NA.cod{a b:List Int}{f:Bool}{i j:Int}{l:List T3}(h:NA a b f i j l)(hi:i<=a.length)(hj:j<=b.length):Cod a b (fl f) i j (ops i j (l++[⟨a.length,b.length,0⟩])):=by
 have nf:∀ f,fl f≠some false:=λf=>by cases f<;>nofun
 induction h with
 | @nil f i j=>
  refine Cod.gap (nf f) hi hj (λe1 e2=>?_) .nil
  rw [e1,e2];exact .nil
 | @cons f i j t l h1 h2 st B h ih=>
  have E:=ih B.n.i1 B.n.j1
  rw [List.cons_append,aDt,if_neg B.nz]
  refine Cod.gap (nf f) h1 h2 (λe1 e2=>?_) (.eq nofun B.p B.n.m E)
  subst e1 e2
  refine .eq (λz=>?_) B.p B.n.m E
  cases f with
  |false=>cases z
  |true=>rcases st rfl with q |q<;>exact Int.lt_irrefl _ q
end
section
variable {C:Cx}
noncomputable abbrev Nv:=List (Str×Option V)
noncomputable def look(l:Nv):Lo:=λx=>match l.lookup x with |some o=>o |none=>none
noncomputable def put(l:Nv)(x:Str)(v:V):Nv:=match l with
 | []=>[(x,some v)]
 | (y,u) :: r=>bif x==y then(y,some v) :: r else(y,u) :: put r x v
theorem put_n(x:Str)(v:V):put [] x v= [(x,some v)]:=rfl
theorem put_c(y:Str)(u:Option V)(r:Nv)(x:Str)(v:V):put ((y,u) :: r) x v=bif x==y then(y,some v) :: r else(y,u) :: put r x v:=rfl
theorem c7(y z:Str)(u:Option V)(r:Nv):((z,u) :: r).lookup y=if y=z then some u else r.lookup y:=by
 rw [List.lookup]
 by_cases h:y=z
 ·subst h;rw[beq_self_eq_true,if_pos rfl]
 ·rw[if_neg h,show (y==z)=false by simpa using h]
theorem pK(x:Str)(v:V)(y:Str):∀ l:Nv,(put l x v).lookup y=if y=x then some (some v) else l.lookup y
 | []=>by rw[put_n,c7]
 | (z,u) :: r=>by
  rw [put_c]
  by_cases h:x=z
  ·subst h
   rw [beq_self_eq_true,cond_true,c7,c7]
   by_cases h2:y=x
   ·rw[if_pos h2,if_pos h2]
   ·rw[if_neg h2,if_neg h2,if_neg h2]
  ·rw[show (x==z)=false by simpa using h,cond_false,c7,c7,pK]
   by_cases h2:y=z
   ·rw[if_pos h2,if_neg (λq=>h (q.symm.trans h2)),if_pos h2]
   ·rw[if_neg h2,if_neg h2]
theorem aA(l:Nv)(x:Str)(v:V):upd (look l) x v=look (put l x v):=by
 funext y
 show(if y=x then some v else _)=match (put l x v).lookup y with |some o=>o |none=>none
 rw [pK]
 by_cases h:y=x
 ·rw[if_pos h,if_pos h]
 ·rw[if_neg h,if_neg h];rfl
theorem kch{A B:Prop}(h:A=B)(b:B):A:=h.mpr b
structure GoK(I:Lo->MH->Prop)(Q K:SK):Prop where
 nx:∀ {lo H},I lo H->K .next lo H
 ct:∀ {lo H},I lo H->K .cont lo H
 br:∀ {lo H},Q .next lo H->K .brk lo H
 rt:∀ {v lo H},Q (.ret v) lo H->K (.ret v) lo H
theorem GoK.loop{I:Lo->MH->Prop}{Q:SK}{again:Lo->MH->SK->Prop}(h:∀ {lo H},I lo H->again lo H Q):GoK I Q (vW again Q):=⟨h,h,id,id⟩
theorem eG{tgt:AF}{body:SF}{r:Nat}{vs:List V}{Q:SK}(Inv:List V->Lo->MH->Prop)(hl:∀ {rest lo H},Inv rest lo H->lst H (.ref r)=some vs)(he:∀ {lo H},Inv [] lo H->Q .next lo H)
  (hs:∀ {v rest lo H K},Inv (v :: rest) lo H->GoK (Inv rest) Q K->tgt v lo H λlo1 H1=>body lo1 H1 K):
  ∀ (rest:List V) (p:Nat){lo:Lo}{H:MH},vs.drop p=rest->Inv rest lo H->cW (aT C) tgt body (rest.length+1) (r,p) lo H Q
 | [],p,lo,H,hd,h=>by
  refine Lf.mk (p:=none) ?_ (he h)
  show(lst H (.ref r)).map _=_
  rw [hl h,Option.map_some,List.getElem?_eq_none (List.drop_eq_nil_iff.mp hd)];rfl
 |v :: rest,p,lo,H,hd,h=>by
  have hv:vs[p]? =some v:=by rw[<-List.head?_drop,hd];rfl
  refine Lf.mk (p:=some (v,(r,p+1))) ?_ ?_
  ·show(lst H (.ref r)).map _=_
   rw [hl h,Option.map_some,hv];rfl
  ·exact hs h (.loop λh'=>eG Inv hl he hs rest (p+1) (by rw[<-List.drop_drop,hd];rfl) h')
theorem z0{tgt:AF}{body:SF}{e:Int}{Q:SK}(Inv:Int->Lo->MH->Prop)(he:∀ {lo H},Inv e lo H->Q .next lo H)
  (hs:∀ {x lo H K},x<e->Inv x lo H->GoK (Inv (x+1)) Q K->tgt (.int x) lo H λlo1 H1=>body lo1 H1 K):
  ∀ (n:Nat) (x:Int){lo:Lo}{H:MH},x+n=e->Inv x lo H->cW (kK C) tgt body (n+1) (x,n,1) lo H Q
 |0,x,lo,H,hd,h=>by
  have:x=e:=A162 hd
  subst this
  exact he h
 |n+1,x,lo,H,hd,h=>hs (A163 hd) h (.loop λh'=>z0 Inv he hs n (x+1) (A164 hd) h')
theorem while_{t:TF}{b:SF}{Q:SK}(Inv:Nat->Lo->MH->Prop)(hs:∀ {m lo H},Inv m lo H->t lo H λc H1=>bif c then ∀ K,GoK (λlo' H'=>∃ m',m'<m/\Inv m' lo' H') Q K->b lo H1 K else Q .next lo H1)
  (mono:∀ {lo H}{P P':Bool->MH->Prop},t lo H P->(∀ c H',P c H'->P' c H')->t lo H P'):
  ∀ (n m:Nat){lo:Lo}{H:MH},m<n->Inv m lo H->runW t b n lo H Q
 |0,_,_,_,hn,_=>absurd hn (Nat.not_lt_zero _)
 |n+1,m,lo,H,hn,h=>mono (hs h) λc H' p=>by
  cases c with
  |true=>exact p _ (.loop fun⟨m',h1,h2⟩=>while_ Inv hs mono n m' (Nat.lt_of_lt_of_le h1 (Nat.le_of_lt_succ hn)) h2)
  |false=>exact p
end
section
variable {C:Cx}
noncomputable def LI(H:MH)(r:Nat)(l:List Int):Prop:=lst H (.ref r)=some (l.map V.int)
noncomputable def Hx(H H':MH):Prop:=∀ (i:Nat) (m:MO),H[i]? =some m->H'[i]? =some m
theorem Hx.refl(H:MH):Hx H H:=λ_ _ e=>e
theorem Hx.trans{H1 H2 H3:MH}(a:Hx H1 H2)(b:Hx H2 H3):Hx H1 H3:=λi m e=>b i m (a i m e)
theorem Hx.app(H l:MH):Hx H (H++l):=λi m e=>by
 rw [List.getElem?_append_left (List.getElem?_eq_some_iff.mp e).1];exact e
theorem Hx.set{H H1:MH}{i:Nat}{m:MO}(h:Hx H H1)(hi:H[i]? =none):Hx H (H1.set i m):=λj x e=>by
 have:i≠j:=λq=>by rw[q,e]at hi;cases hi
 rw [List.getElem?_set_ne this];exact h j x e
theorem Hx.lst{H H':MH}{v:V}{vs:List V}(h:Hx H H')(e:lst H v=some vs):lst H' v=some vs:=by
 refine xEA (Option.bind_eq_some_iff.mp e) λi hi e=>?_
 refine xEA (Option.bind_eq_some_iff.mp e) λm hm e=>?_
 exact Option.bind_eq_some_iff.mpr ⟨i,hi,Option.bind_eq_some_iff.mpr ⟨m,h _ _ hm,e⟩⟩
theorem Hx.li{H H':MH}{r:Nat}{l:List Int}(h:Hx H H')(e:LI H r l):LI H' r l:=h.lst e
theorem aY(H:MH)(m:MO):(H++[m])[H.length]? =some m:=by simp
theorem hY(H:MH)(vs:List V):lst (H++[.list vs]) (.ref H.length)=some vs:=by
 show((H++[MO.list vs])[H.length]?).bind _=_
 rw [aY];rfl
theorem aL(H:MH):H[H.length]? =none:=List.getElem?_eq_none (Nat.le_refl _)
noncomputable def B2J(H:MH)(b:List Int)(f:Int->Option V):Prop:=∀ v,(f v=none/\Idx b v 0 [])∨∃ r js,f v=some (.ref r)/\LI H r js/\Idx b v 0 js
theorem B2J.hx{H H':MH}{b:List Int}{f:Int->Option V}(h:B2J H b f)(e:Hx H H'):B2J H' b f:=λv=>(h v).imp_right fun⟨r,js,h1,h2,h3⟩=>⟨r,js,h1,e.li h2,h3⟩
structure SM(H:MH)(s ra rb rd rj n:Nat)(fs:Str->Option V)(f:Int->Option V)(a b:List Int):Prop where
 o:H[s]? =some (.inst fs)
 fa:fs "a" =some (.ref ra)
 fb:fs "b" =some (.ref rb)
 fd:fs "b2j" =some (.ref rd)
 fj:fs "bjunk" =some (.ref rj)
 ia:LI H ra a
 ib:LI H rb b
 d:H[rd]? =some (.dict n f)
 j:H[rj]? =some .eset
 bj:B2J H b f
 al:a.length<1000000
 bl:b.length<1000000
theorem SM.hx{H H':MH}{s ra rb rd rj n:Nat}{fs:Str->Option V}{f:Int->Option V}{a b:List Int}(h:SM H s ra rb rd rj n fs f a b)(e:Hx H H'):SM H' s ra rb rd rj n fs f a b:=
 ⟨e _ _ h.o,h.fa,h.fb,h.fd,h.fj,e.li h.ia,e.li h.ib,e _ _ h.d,e _ _ h.j,h.bj.hx e,h.al,h.bl⟩
theorem oI{x:Str}{lo:Lo}{H:MH}{Q:EK}{s:Nat}{fs:Str->Option V}{v:V}(h1:lo "self" =some (.ref s))(h2:H[s]? =some (.inst fs))(h3:fs x=some v)(q:Q v H):d4 x (eN "self") lo H Q:=
 Lf.mk h1 (Lf.mk (p:=s) rfl (Lf.mk (p:=fs) (by rw[h2];rfl) (Lf.mk h3 q)))
theorem c8:∀ l:Nv,(l.all λp=>p.2.isNone)=true->look l=lo0
 | [],_=>rfl
 | (y,u) :: r,h=>by
  rw [List.all_cons,Bool.and_eq_true]at h
  have ih:=c8 r h.2
  funext x
  show(match ((y,u) :: r).lookup x with |some o=>o |none=>none)=none
  rw [c7]
  by_cases q:x=y
  ·rw[if_pos q];exact Option.isNone_iff_eq_none.mp h.1
  ·rw[if_neg q];exact congrFun ih x
theorem tH{f:EF}{g:AF}{lo:Lo}{H:MH}{K:SK}(h:f lo H λv H1=>g v lo H1 λlo' H2=>K .next lo' H2):cY f g lo H K:=h
theorem dD{x:Str}{f:EF}{lo:Lo}{H:MH}{K:SK}(h:f lo H λv H1=>K .next (upd lo x v) H1):aX x f lo H K:=h
theorem sRet_i{f:EF}{lo:Lo}{H:MH}{K:SK}(h:f lo H λv H1=>K (.ret v) lo H1):fM f lo H K:=h
theorem aS{f g:SF}{lo:Lo}{H:MH}{K:SK}(h:f lo H (bH g K)):aD f g lo H K:=h
theorem aDh{t:TF}{f g:SF}{lo:Lo}{H:MH}{K:SK}(h:t lo H λb H1=>bif b then f lo H1 K else g lo H1 K):sIf t f g lo H K:=h
theorem kO{g:EFs}{lo:Lo}{H:MH}{Q:EK}(h:g lo H λvs H1=>vs.length<100/\Q (.tup vs) H1):bT g lo H Q:=h
theorem eLst_i{g:EFs}{lo:Lo}{H:MH}{Q:EK}(h:g lo H λvs H1=>vs.length<1000000/\Q (.ref H1.length) (H1++[.list vs]))(mono:∀ {P P':List V->MH->Prop},g lo H P->(∀ vs H',P vs H'->P' vs H')->g lo H P'):gU g lo H Q:=
 mono h λvs H' ⟨h1,h2⟩=>Lf.mk (p:=(.ref H'.length,H'++[.list vs])) (by rw[mkL,if_pos h1]) h2
theorem aEc{lo:Lo}{H:MH}{Q:EK}(h:Q (.ref H.length) (H++[.list []])):gU esN lo H Q:=eLst_i ⟨by decide,h⟩ λp k=>k _ _ p
theorem aZ{f:EF}{g:EFs}{lo:Lo}{H:MH}{Q:List V->MH->Prop}(h:f lo H λv H1=>g lo H1 λvs H2=>Q (v :: vs) H2):esC f g lo H Q:=h
theorem d3{lo:Lo}{H:MH}{Q:List V->MH->Prop}(h:Q [] H):esN lo H Q:=h
theorem aP{g:OpF}{f1 f2:EF}{lo:Lo}{H:MH}{Q:EK}(h:f1 lo H λa H1=>f2 lo H1 λb H2=>Lp (g a b H2) Q):aB g f1 f2 lo H Q:=h
theorem dW{g:CF}{fs:EFs}{lo:Lo}{H:MH}{Q:EK}(h:fs lo H λvs H1=>g vs H1 Q):aM g fs lo H Q:=h
theorem cT{v:V}{lo:Lo}{H:MH}{Q:EK}(h:Q v H):eK v lo H Q:=h
theorem aV{x:Str}{lo:Lo}{H:MH}{Q:EK}{v:V}(e:lo x=some v)(h:Q v H):eN x lo H Q:=Lf.mk e h
theorem Lp.mk{o:Option (V×MH)}{Q:EK}{v:V}{H:MH}(e:o=some (v,H))(h:Q v H):Lp o Q:=Lf.mk e h
theorem bd_i{mk:Nat->V}{ok:MO->Bool}{f:EF}{lo:Lo}{H:MH}{Q:EK}(h:f lo H λa H1=>Lf a.rf λi=>Lf H1[i]? λm=>ok m=true/\Q (mk i) H1):eBd mk ok f lo H Q:=h
theorem sFor_i{K:ItK C}{fi:IF K}{tgt:AF}{bf:SF}{lo:Lo}{H:MH}{Q:SK}(h:fi lo H λit H1=>∃ n,cW K tgt bf n it lo H1 Q):mP K fi tgt bf lo H Q:=h
noncomputable def fE(s ra rb rd rj nt g:Option V)(al ah bl bh:Int)(bi bj bs i o2 o3 j k:Option V):Nv:=
 [("self",s),("alo",some (.int al)),("ahi",some (.int ah)),("blo",some (.int bl)),("bhi",some (.int bh)),("a",ra),("b",rb),("b2j",rd),("isbjunk",rj),("besti",bi),("bestj",bj),("bestsize",bs),("j2len",g),("nothing",nt),
  ("i",i),("j2lenget",o2),("newj2len",o3),("j",j),("k",k)]
noncomputable def fN:Nv:=[("self",none),("alo",none),("ahi",none),("blo",none),("bhi",none),("a",none),("b",none),("b2j",none),("isbjunk",none),("besti",none),("bestj",none),("bestsize",none),("j2len",none),("nothing",none),
  ("i",none),("j2lenget",none),("newj2len",none),("j",none),("k",none)]
theorem flm_in(s al ah bl bh):loB ["self","alo","ahi","blo","bhi"] [s,.int al,.int ah,.int bl,.int bh] lo0=look (fE (some s) none none none none none none al ah bl bh none none none none none none none none):=by
 rw [<-c8 fN ⋯]
 show upd (upd (upd (upd (upd (look fN) "self" s) "alo" (.int al)) "ahi" (.int ah)) "blo" (.int bl)) "bhi" (.int bh)=_
 rw [aA,aA,aA,aA,aA]
 kernel_rfl
theorem flm_1(X:XX C){H:MH}{s ra rb rd rj n:Nat}{fs:Str->Option V}{f:Int->Option V}{a b:List Int}{al ah bl bh:Int}{K:SK}(h:SM H s ra rb rd rj n fs f a b)
  (k:K .next (look (fE (some (.ref s)) (some (.ref ra)) (some (.ref rb)) (some (.ref rd)) (some (.scon rj)) none none al ah bl bh none none none none none none none none)) H):
  b4 X (look (fE (some (.ref s)) none none none none none none al ah bl bh none none none none none none none none)) H K:=by
 unfold b4
 refine tH (kO (aZ (oI ⋯ h.o h.fa (aZ (oI ⋯ h.o h.fb (aZ (oI ⋯ h.o h.fd (aZ (bd_i (oI ⋯ h.o h.fj (Lf.mk (p:=rj) rfl (Lf.mk h.j ⟨rfl,d3 ⟨Nat.lt_of_sub_eq_succ rfl,?_⟩⟩))))))))))))
 refine kch (B:=(4=4/\K .next (upd (upd (upd (upd (look (fE (some (.ref s)) none none none none none none al ah bl bh none none none none none none none none)) "a" (.ref ra)) "b" (.ref rb)) "b2j" (.ref rd)) "isbjunk" (.scon rj)) H)) ⋯ ⟨rfl,?_⟩
 rw [aA,aA,aA,aA]
 exact kch ⋯ k
end
section
variable {C:Cx}
structure FC where
 s:Nat
 ra:Nat
 rb:Nat
 rd:Nat
 rj:Nat
 nt:Nat
 w:Wd
noncomputable def fL(c:FC)(g:Nat)(bi bj bs:Int)(i o2 o3 j k:Option V):Lo:=
 look (fE (some (.ref c.s)) (some (.ref c.ra)) (some (.ref c.rb)) (some (.ref c.rd)) (some (.scon c.rj)) (some (.ref c.nt)) (some (.ref g)) c.w.al c.w.ah c.w.bl c.w.bh (some (.int bi)) (some (.int bj)) (some (.int bs)) i o2 o3 j k)
noncomputable def uN:SF:=aD (sIf (tE (aB (bW λx y=>decide (x<y)) (eN "j") (eN "blo"))) (aD (sK .cont) (sK .next)) (sK .next)) (aD (sIf (tE (aB (bW λx y=>decide (x>=y)) (eN "j") (eN "bhi"))) (aD (sK .brk) (sK .next)) (sK .next)) (aD (cY (aB aH (eCv (eN "j2lenget") (esC (aB cI (eN "j") (eK (.int 1))) (esC (eK (.int 0)) esN))) (eK (.int 1))) (iZ (aN "k") (qV (eN "newj2len") (eN "j")))) (aD (sIf (tE (aB (bW λx y=>decide (x>y)) (eN "k") (eN "bestsize"))) (aD (dZ ["besti","bestj","bestsize"] (bT (esC (aB aH (aB cI (eN "i") (eN "k")) (eK (.int 1))) (esC (aB aH (aB cI (eN "j") (eN "k")) (eK (.int 1))) (esC (eN "k") esN))))) (sK .next)) (sK .next)) (sK .next))))
noncomputable def colB3:SF:=aD (cY (aB aH (eCv (eN "j2lenget") (esC (aB cI (eN "j") (eK (.int 1))) (esC (eK (.int 0)) esN))) (eK (.int 1))) (iZ (aN "k") (qV (eN "newj2len") (eN "j")))) (aD (sIf (tE (aB (bW λx y=>decide (x>y)) (eN "k") (eN "bestsize"))) (aD (dZ ["besti","bestj","bestsize"] (bT (esC (aB aH (aB cI (eN "i") (eN "k")) (eK (.int 1))) (esC (aB aH (aB cI (eN "j") (eN "k")) (eK (.int 1))) (esC (eN "k") esN))))) (sK .next)) (sK .next)) (sK .next))
noncomputable def aF4:SF:=aD (sIf (tE (aB (bW λx y=>decide (x>y)) (eN "k") (eN "bestsize"))) (aD (dZ ["besti","bestj","bestsize"] (bT (esC (aB aH (aB cI (eN "i") (eN "k")) (eK (.int 1))) (esC (aB aH (aB cI (eN "j") (eN "k")) (eK (.int 1))) (esC (eN "k") esN))))) (sK .next)) (sK .next)) (sK .next)
noncomputable def rowB(C:Cx):SF:=aD (aX "j2lenget" (eBd .dget okD (eN "j2len"))) (aD (aX "newj2len" wU) (aD (mP (aT C) (iL (eGet (eN "b2j") (aB aI (eN "a") (eN "i")) (eN "nothing"))) (aN "j") uN) (aD (aX "j2len" (eN "newj2len")) (sK .next))))
variable {c:FC}{g gn:Nat}{bi bj bs x:Int}{o1 o2 o3 o4 o5:Option V}{K Q:SK}{H:MH}
theorem aIn{j:Int}:aN "j" (.int j) (fL c g bi bj bs o1 o2 o3 o4 o5) H (λlo1 H1=>uN lo1 H1 K)=uN (fL c g bi bj bs o1 o2 o3 (some (.int j)) o5) H K:=
 congrArg (λlo=>uN lo H K) (aA _ _ _)
theorem col_nf{j:Int}:uN (fL c g bi bj bs o1 o2 o3 (some (.int j)) o5) H K=
  (bif decide (j<c.w.bl) then K .cont (fL c g bi bj bs o1 o2 o3 (some (.int j)) o5) H
   else bif decide (j>=c.w.bh) then K .brk (fL c g bi bj bs o1 o2 o3 (some (.int j)) o5) H
   else colB3 (fL c g bi bj bs o1 o2 o3 (some (.int j)) o5) H K):=by rfl'
theorem yL{i n:Nat}{f:Int->Option V}(h:H[i]? =some (.dict n f)):H[i]?.bind MO.dct=some (n,f):=by rw[h];rfl
theorem col3{j k:Int}{m n:Nat}{f fn:Int->Option V}(hg:H[g]? =some (.dict n f))(hn:H[gn]? =some (.dict m fn))(hm:m<1000000)(hk:(f (j-1)).getD (.int 0)= .int k)
  (h:aF4 (fL c g bi bj bs (some (.int x)) (some (.dget g)) (some (.ref gn)) (some (.int j)) (some (.int (k+1)))) (H.set gn (.dict (m+1) (dput fn j (.int (k+1))))) K):
  colB3 (fL c g bi bj bs (some (.int x)) (some (.dget g)) (some (.ref gn)) (some (.int j)) o5) H K:=by
 refine kch (B:=Lf (H[g]?.bind MO.dct) λd=>Lp (aH ((d.2 (j-1)).getD (.int 0)) (.int 1) H) λv H1=>Lf (oSet (.ref gn) (.int j) v H1) λH3=>aF4 (upd (fL c g bi bj bs (some (.int x)) (some (.dget g)) (some (.ref gn)) (some (.int j)) o5) "k" v) H3 K) ⋯ ?_
 refine Lf.mk (yL hg) (Lp.mk (v:=.int (k+1)) (H:=H) (by rw[hk];rfl) (Lf.mk (p:=H.set gn (.dict (m+1) (dput fn j (.int (k+1))))) ?_ ?_))
 ·show H[gn]?.bind (setO H gn j (.int (k+1)))=_
  rw [hn]
  exact if_pos hm
 ·unfold fL
  rw [aA]
  exact h
theorem col4{j k:Int}(h:K .next (fL c g (if bs<k then x-k+1 else bi) (if bs<k then j-k+1 else bj) (if bs<k then k else bs) (some (.int x)) o2 o3 (some (.int j)) (some (.int k))) H):
  aF4 (fL c g bi bj bs (some (.int x)) o2 o3 (some (.int j)) (some (.int k))) H K:=by
 refine kch (B:=(bif decide (k>bs) then((3<100)/\3=3/\K .next (upd (upd (upd (fL c g bi bj bs (some (.int x)) o2 o3 (some (.int j)) (some (.int k))) "bestsize" (.int k)) "bestj" (.int (j-k+1))) "besti" (.int (x-k+1))) H)
  else K .next (fL c g bi bj bs (some (.int x)) o2 o3 (some (.int j)) (some (.int k))) H)) ⋯ ?_
 by_cases q:bs<k
 ·rw[if_pos q,if_pos q,if_pos q]at h
  rw [show decide (k>bs)=true from decide_eq_true q]
  refine⟨by decide,rfl,?_⟩
  unfold fL
  rw [aA,aA,aA]
  exact h
 ·rw[if_neg q,if_neg q,if_neg q]at h
  rw [show decide (k>bs)=false from decide_eq_false q]
  exact h
inductive CI(a b:List Int)(c:FC)(g gn:Nat)(x v:Int)(Hr:MH)(rest:List V)(lo:Lo)(H:MH):Prop
 |mk {js:List Int}{y bi bj bs:Int}{m:Nat}{fn:Int->Option V}{gi:Int->Option Int}{o4 o5:Option V} (er:rest=js.map .int) (el:lo=fL c g bi bj bs (some (.int x)) (some (.dget g)) (some (.ref gn)) o4 o5) (hx:Hx Hr H) (hn:H[gn]? =some (.dict m fn))
   (hm:m+js.length<1000000) (hf:∀ c,fn c=(gi c).map V.int) (row:Row a b c.w x (max c.w.bl y) gi) (bu:BU a b c.w x (max c.w.bl y) bi bj bs) (ix:Idx b v y js) (yb:y<=c.w.bh):CI a b c g gn x v Hr rest lo H
inductive CE(a b:List Int)(c:FC)(g gn:Nat)(x:Int)(Hr:MH)(lo:Lo)(H:MH):Prop
 |mk {bi bj bs:Int}{m:Nat}{fn:Int->Option V}{gi:Int->Option Int}{o4 o5:Option V} (el:lo=fL c g bi bj bs (some (.int x)) (some (.dget g)) (some (.ref gn)) o4 o5) (hx:Hx Hr H) (hn:H[gn]? =some (.dict m fn)) (hf:∀ c,fn c=(gi c).map V.int)
   (row:Row a b c.w x c.w.bh gi) (bu:BU a b c.w x c.w.bh bi bj bs):CE a b c g gn x Hr lo H
theorem CE.of{a b:List Int}{Hr:MH}{lo:Lo}{m:Nat}{fn:Int->Option V}{gi:Int->Option Int}{y:Int}(el:lo=fL c g bi bj bs (some (.int x)) (some (.dget g)) (some (.ref gn)) o4 o5)(hx:Hx Hr H)(hn:H[gn]? =some (.dict m fn))(hf:∀ c,fn c=(gi c).map V.int)
  (row:Row a b c.w x (max c.w.bl y) gi) (bu:BU a b c.w x (max c.w.bl y) bi bj bs) (hn2:∀ z,y<=z->z<c.w.bh->av b z≠av a x) (hb:c.w.bl<=c.w.bh) (yb:y<=c.w.bh):CE a b c g gn x Hr lo H:=by
 have mb:max c.w.bl y<=c.w.bh:=Int.max_le.mpr ⟨hb,yb⟩
 exact .mk el hx hn hf (row.skip mb λz h1 h2 h3 h4=>hn2 z (Int.le_trans (Int.le_max_right _ _) h1) h2 h4.symm) (bu.skip mb λz h1 h2 h3 h4 h5=>hn2 z (Int.le_trans (Int.le_max_right _ _) h1) h2 h5.symm)
theorem Row.pos{a b:List Int}{w:Wd}{x y:Int}{g:Int->Option Int}(h:Row a b w x y g)(c:Int):0<=(g c).getD 0:=by
 have:=h c
 split at this
 ·refine xEA this λk e s=>?_;rw[e];exact s.k0
 ·rw[this];exact Int.le_refl _
theorem aF3{C:Cx}{a b:List Int}{n:Nat}{f:Int->Option V}{g0:Int->Option Int}{v:Int}{Hr:MH}{r:Nat}{js:List Int}{lo:Lo}(hg:Hr[g]? =some (.dict n f))(hf0:∀ c,f c=(g0 c).map V.int)(row0:Row a b c.w (x-1) c.w.bh g0)
  (hgn:Hr[gn]? =none) (hx0:c.w.al<=x) (hx1:x<c.w.ah) (hb:c.w.bl<=c.w.bh) (hbh:c.w.bh<=b.length) (hv:v=av a x) (hr:LI Hr r js) (h:CI a b c g gn x v Hr (js.map .int) lo H) (hQ:∀ {lo H},CE a b c g gn x Hr lo H->Q .next lo H):
  cW (aT C) (aN "j") uN ((js.map V.int).length+1) (r,0) lo H Q:=by
 subst hv
 refine eG (CI a b c g gn x (av a x) Hr) (λh=>?_) (λh=>?_) (λh G=>?_) _ 0 rfl h
 ·cases h with |mk _ _ hx=>exact hx.li hr
 ·cases h with
  |mk er el hx hn hm hf row bu ix yb=>
   cases List.map_eq_nil_iff.mp er.symm
   cases ix with
   |nil ix=>
   exact hQ (CE.of el hx hn hf row bu (λz h1 h2=>ix z h1 (Int.lt_of_lt_of_le h2 hbh)) hb yb)
 ·cases h with
  | @mk js y bi bj bs m fn gi o4 o5 er el hx hn hm hf row bu ix yb=>
   refine b8 (List.map_eq_cons_iff.mp er.symm) λj js' e1 e2 e3=>?_
   subst e1 e2 e3
   subst el
   refine kch aIn (kch col_nf ?_)
   have nn:=ix.no
   cases ix with
   |cons h1 hl e _ ix=>
   by_cases q:j<c.w.bl
   ·rw[decide_eq_true q]
    refine G.ct (.mk rfl rfl hx hn (Nat.lt_of_succ_lt hm) hf ?_ ?_ ix (Int.le_trans (Int.add_one_le_of_lt q) hb))
    ·rw[Int.max_eq_left (Int.add_one_le_of_lt q)]
     rwa [Int.max_eq_left (Int.le_of_lt (Int.lt_of_le_of_lt h1 q))]at row
    ·rw[Int.max_eq_left (Int.add_one_le_of_lt q)]
     rwa [Int.max_eq_left (Int.le_of_lt (Int.lt_of_le_of_lt h1 q))]at bu
   ·rw[decide_eq_false q]
    by_cases q2:j>=c.w.bh
    ·rw[decide_eq_true q2]
     exact G.br (hQ (CE.of rfl hx hn hf row bu (λz h1 h2=>nn z h1 (Int.lt_of_lt_of_le h2 q2)) hb yb))
    ·rw[decide_eq_false q2]
     have q:=Int.not_lt.mp q
     have q2:=Int.not_le.mp q2
     have mj:max c.w.bl _<=j:=Int.max_le.mpr ⟨q,h1⟩
     have row2:=row.skip mj λz h1 h2 h3 h4=>nn z (Int.le_trans (Int.le_max_right _ _) h1) h2 h4.symm
     have bu2:=bu.skip mj λz h1 h2 h3 h4 h5=>nn z (Int.le_trans (Int.le_max_right _ _) h1) h2 h5.symm
     have sf:=row0.next hx0 q q2 e.symm
     have hk:(f (j-1)).getD (.int 0)= .int ((g0 (j-1)).getD 0):=by rw[hf0];cases g0 (j-1)<;>rfl
     have k0:0<(g0 (j-1)).getD 0+1:=Int.lt_add_one_of_le (Row.pos row0 _)
     refine col3 (hx _ _ hg) hn (Nat.lt_of_le_of_lt (Nat.le_add_right _ _) hm) hk (col4 (G.nx (.mk rfl rfl (hx.set hgn) (by rw[List.getElem?_set_self (List.getElem?_eq_some_iff.mp hn).1]) ?_ (gi:=λc=>if c=j then some ((g0 (j-1)).getD 0+1) else gi c) ?_ ?_ ?_ ix (Int.add_one_le_of_lt q2))))
     ·exact Nat.lt_of_le_of_lt (Nat.le_of_eq (Nat.add_right_comm _ _ _)) hm
     ·intro z
      unfold dput
      by_cases qz:z=j
      ·rw[if_pos qz,if_pos qz];rfl
      ·rw[if_neg qz,if_neg qz];exact hf z
     ·rw[Int.max_eq_right (Int.le_trans q (Int.le_add_one (Int.le_refl j)))]
      exact row2.step q hx0 e.symm sf
     ·rw[Int.max_eq_right (Int.le_trans q (Int.le_add_one (Int.le_refl j)))]
      exact bu2.step sf hx1 q2 k0
end
section
variable {C:Cx}{c:FC}{g gn:Nat}{bi bj bs x:Int}{o1 o2 o3 o4 o5:Option V}{K Q:SK}{H:MH}{a b:List Int}
theorem eR{x:Int}{n:Nat}(h0:0<=x)(h1:x<n):seqIndex? x n=some x.toNat:=by
 unfold seqIndex?
 rw [if_neg (Int.not_lt.mpr h0)]
 exact if_pos (by rw[decide_eq_true h0,decide_eq_true h1];rfl)
theorem av_get{l:List Int}{x:Int}(h0:0<=x)(h1:x<l.length):(l.map V.int)[x.toNat]? =some (.int (av l x)):=by
 have:=(Int.toNat_lt h0).mpr h1
 unfold av
 rw [List.getElem?_map,List.getD_eq_getElem?_getD,List.getElem?_eq_getElem this];rfl
theorem iI{r:Nat}{l:List Int}{x:Int}(h:LI H r l)(h0:0<=x)(h1:x<l.length)(hl:l.length<1000000):aI (.ref r) (.int x) H=some (.int (av l x),H):=by
 show((lst H (.ref r)).bind (at_ x)).map _=_
 rw [h]
 show(at_ x (l.map V.int)).map _=_
 unfold at_
 rw [if_pos ⟨A165 h0,A166 h1 hl⟩,List.length_map,eR h0 h1]
 show((l.map V.int)[x.toNat]?).map _=_
 rw [av_get h0 h1];rfl
theorem Idx.len{v y:Int}{js:List Int}(h:Idx b v y js)(hy:y<=b.length):y+js.length<=b.length:=by
 induction h with
 |nil _=>simpa using hy
 |cons h1 hl _ _ _ ih=>
  have:=ih (Int.add_one_le_of_lt hl)
  rw [List.length_cons]
  exact A167 h1 this
theorem aG7:aN "i" (.int x) (fL c g bi bj bs o1 o2 o3 o4 o5) H (λlo1 H1=>rowB C lo1 H1 K)=rowB C (fL c g bi bj bs (some (.int x)) o2 o3 o4 o5) H K:=congrArg (λlo=>rowB C lo H K) (aA _ _ _)
noncomputable def rowB3(C:Cx):SF:=aD (mP (aT C) (iL (eGet (eN "b2j") (aB aI (eN "a") (eN "i")) (eN "nothing"))) (aN "j") uN) (aD (aX "j2len" (eN "newj2len")) (sK .next))
theorem row12{n:Nat}{f:Int->Option V}(hg:H[g]? =some (.dict n f))(h:rowB3 C (fL c g bi bj bs (some (.int x)) (some (.dget g)) (some (.ref H.length)) o4 o5) (H++[.dict 0 λ_=>Option.none]) K):
  rowB C (fL c g bi bj bs (some (.int x)) o2 o3 o4 o5) H K:=by
 refine kch (B:=Lf H[g]? λm=>okD m=true/\rowB3 C (upd (upd (fL c g bi bj bs (some (.int x)) o2 o3 o4 o5) "j2lenget" (.dget g)) "newj2len" (.ref H.length)) (H++[.dict 0 λ_=>Option.none]) K) ⋯ (Lf.mk hg ⟨rfl,?_⟩)
 unfold fL
 rw [aA,aA]
 exact h
inductive RI(a b:List Int)(c:FC)(H2:MH)(x:Int)(lo:Lo)(H:MH):Prop
 |mk {g n:Nat}{bi bj bs:Int}{f:Int->Option V}{g0:Int->Option Int}{o1 o2 o3 o4 o5:Option V} (el:lo=fL c g bi bj bs o1 o2 o3 o4 o5) (hx:Hx H2 H) (hg:H[g]? =some (.dict n f)) (hf:∀ c,f c=(g0 c).map V.int)
   (row:Row a b c.w (x-1) c.w.bh g0) (bu:BU a b c.w x c.w.bl bi bj bs) (hx0:c.w.al<=x):RI a b c H2 x lo H
theorem aDm{n:Nat}{fs:Str->Option V}{f:Int->Option V}{H2:MH}(h:SM H2 c.s c.ra c.rb c.rd c.rj n fs f a b)(ht:LI H2 c.nt [])(w:WOk a b c.w){lo:Lo}(hx1:x<c.w.ah)(I:RI a b c H2 x lo H)(G:GoK (RI a b c H2 (x+1)) Q K):
  aN "i" (.int x) lo H λlo1 H1=>rowB C lo1 H1 K:=by
 cases I with
 | @mk g n0 bi bj bs f0 g0 o1 o2 o3 o4 o5 el hx hg hf row bu hx0=>
 subst el
 refine kch aG7 (row12 hg ?_)
 have hx':Hx H (H++[.dict 0 λ_=>Option.none]):=.app _ _
 have h':=h.hx (hx.trans hx')
 refine kch (B:=(∃ n g,(H++[MO.dict 0 λ_=>Option.none])[c.rd]? =some (.dict n g))/\Lp (aI (.ref c.ra) (.int x) (H++[.dict 0 λ_=>Option.none])) λu H2=>Lf (Ti u) λv=>Lf (H2[c.rd]?.bind MO.dct) λp=>Lf ((p.2 v).getD (.ref c.nt)).rf λi=>(∃ vs,lst H2 (.ref i)=some vs)/\
  ∃ n,cW (aT C) (aN "j") uN n (i,0) (fL c g bi bj bs (some (.int x)) (some (.dget g)) (some (.ref H.length)) o4 o5) H2 (bH (aD (aX "j2len" (eN "newj2len")) (sK .next)) K)) ⋯ ?_
 refine⟨⟨_,_,h'.d⟩,Lp.mk (iI h'.ia (Int.le_trans w.a0 hx0) (Int.lt_of_lt_of_le hx1 w.a2) h'.al) (Lf.mk (p:=av a x) rfl (Lf.mk (yL h'.d) ?_))⟩
 have fin:∀ {lo H3},CE a b c g H.length x H lo H3->bH (aD (aX "j2len" (eN "newj2len")) (sK .next)) K .next lo H3:=λ{lo H3} e=>by
  cases e with
  | @mk bi bj bs m fn gi o4 o5 el hx3 hn hf3 row3 bu3=>
  subst el
  refine kch (B:=K .next (upd (fL c g bi bj bs (some (.int x)) (some (.dget g)) (some (.ref H.length)) o4 o5) "j2len" (.ref H.length)) H3) ⋯ ?_
  refine G.nx (.mk (g:=H.length) (aA _ _ _) (hx.trans hx3) hn hf3 ?_ bu3.row (Int.le_trans hx0 (Int.le_add_one (Int.le_refl _))))
  rw [Int.add_sub_cancel];exact row3
 have start:∀ {js:List Int},Idx b (av a x) 0 js->CI a b c g H.length x (av a x) H (js.map .int) (fL c g bi bj bs (some (.int x)) (some (.dget g)) (some (.ref H.length)) o4 o5) (H++[.dict 0 λ_=>Option.none]):=λ{js} ix=>
  .mk rfl rfl hx' (aY _ _) (by have:=ix.len (Int.natCast_nonneg _);have:=h.bl;omega) (gi:=λ_=>Option.none) (λ_=>rfl) (.zero (.inr (Int.max_le.mpr ⟨Int.le_refl _,w.b0⟩))) (by rw[Int.max_eq_left w.b0];exact bu) ix (Int.le_trans w.b0 w.b1)
 have go:∀ {r:Nat}{js:List Int},LI H r js->Idx b (av a x) 0 js->Lf (V.ref r).rf λi=>(∃ vs,lst (H++[MO.dict 0 λ_=>Option.none]) (.ref i)=some vs)/\
   ∃ n,cW (aT C) (aN "j") uN n (i,0) (fL c g bi bj bs (some (.int x)) (some (.dget g)) (some (.ref H.length)) o4 o5) (H++[.dict 0 λ_=>Option.none]) (bH (aD (aX "j2len" (eN "newj2len")) (sK .next)) K):=λhr ix=>
  ⟨⟨_,hx'.li hr⟩,_,aF3 hg hf row (aL H) hx0 hx1 w.b1 w.b2 rfl hr (start ix) fin⟩
 rcases h.bj (av a x) with ⟨e,ix⟩ |⟨r,js,e,hr,ix⟩
 ·show Lf ((f (av a x)).getD (.ref c.nt)).rf _
  rw [e];exact go (hx.li ht) ix
 ·show Lf ((f (av a x)).getD (.ref c.nt)).rf _
  rw [e];exact go (hx.li hr) ix
end
section
variable {C:Cx}{c:FC}{g gn:Nat}{bi bj bs x:Int}{o1 o2 o3 o4 o5:Option V}{K Q:SK}{H:MH}{a b:List Int}
theorem aIj(H:MH)(x y:Int):eqv H (.int x) (.int y)=some (decide (x=y)):=by rfl'
theorem flm_26(X:XX C)(R:SF){s ra rb rd rj:Nat}{al ah bl bh:Int}(h:R (fL ⟨s,ra,rb,rd,rj,H.length+1,⟨al,ah,bl,bh⟩⟩ H.length al bl 0 none none none none none) ((H++[.dict 0 λ_=>Option.none])++[.list []]) K):
  aD (cS X) (aD (cR X) (aD (cQ X) (aD (cP X) (aD (cN X) R))))
   (look (fE (some (.ref s)) (some (.ref ra)) (some (.ref rb)) (some (.ref rd)) (some (.scon rj)) none none al ah bl bh none none none none none none none none)) H K:=by
 refine kch (B:=(3<100/\3=3/\R (upd (upd (upd (upd (upd (look (fE (some (.ref s)) (some (.ref ra)) (some (.ref rb)) (some (.ref rd)) (some (.scon rj)) none none al ah bl bh none none none none none none none none)) "bestsize" (.int 0)) "bestj" (.int bl)) "besti" (.int al)) "j2len" (.ref H.length)) "nothing" (.ref (H++[MO.dict 0 λ_=>Option.none]).length)) ((H++[.dict 0 λ_=>Option.none])++[.list []]) K)) ⋯ ⟨by decide,rfl,?_⟩
 rw [aA,aA,aA,aA,aA,show (H++[MO.dict 0 λ_=>Option.none]).length=H.length+1 from by simp]
 exact h
theorem flm_7(X:XX C){n:Nat}{fs:Str->Option V}{f:Int->Option V}(h:SM H c.s c.ra c.rb c.rd c.rj n fs f a b)(ht:LI H c.nt [])(hg:H[g]? =some (.dict 0 λ_=>Option.none))(w:WOk a b c.w)
  (k:∀ {g bi bj bs o1 o2 o3 o4 o5 H'},Hx H H'->Best a b c.w bi bj bs->K .next (fL c g bi bj bs o1 o2 o3 o4 o5) H'):cM X (fL c g c.w.al c.w.bl 0 none none none none none) H K:=by
 refine kch (B:=(rOk c.w.al c.w.ah 1=true/\∃ n,cW (kK C) (aN "i") (rowB C) n (c.w.al,mQ c.w.al c.w.ah 1,1) (fL c g c.w.al c.w.bl 0 none none none none none) H K)) ⋯ ⟨?_,_,z0 (e:=c.w.ah) (RI a b c H) (λr=>?_) (λhx r G=>aDm h ht w hx r G) _ _ ?_ (.mk rfl (.refl H) hg (λ_=>rfl) (g0:=λ_=>Option.none) (.zero (.inl (Int.sub_one_lt_of_le (Int.le_refl _)))) (.start w.a1 w.b1) (Int.le_refl _))⟩
 ·have:=w.a0;have:=w.a1;have:=w.a2;have:=h.al
  unfold rOk
  rw [decide_eq_true (by omega: -1000000<c.w.al),decide_eq_true (by omega:c.w.al<1000000),decide_eq_true (by omega: -1000000<c.w.ah),decide_eq_true (by omega:c.w.ah<1000000)]
  rfl
 ·cases r with
  |mk el hx hg hf row bu hx0=>
   subst el
   exact k hx bu.done
 ·show c.w.al+((c.w.ah-c.w.al).toNat:Int)=c.w.ah
  have:=w.a1;exact A168 this
theorem ab_eq{ra rb:Nat}{i j:Int}{Q:Bool->MH->Prop}(ha:LI H ra a)(hb:LI H rb b)(al:a.length<1000000)(bl:b.length<1000000)(i0:0<=i)(i1:i<a.length)(j0:0<=j)(j1:j<b.length)(q:Q (decide (av a i=av b j)) H):
  Lp (aI (.ref ra) (.int i) H) λa H2=>Lp (aI (.ref rb) (.int j) H2) λb H3=>Lp (bB id a b H3) λv H4=>Lf (tr v H4) λc=>Q c H4:=
 Lp.mk (iI ha i0 i1 al) (Lp.mk (iI hb j0 j1 bl) (Lp.mk (v:=.bool (decide (av a i=av b j))) (H:=H) ⋯ (Lf.mk (p:=decide (av a i=av b j)) rfl q)))
theorem Best.left{w:Wd}{i j k:Int}(h:Best a b w i j k)(hi:w.al<i)(hj:w.bl<j):av a (i-1)≠av b (j-1):=λe=>by
 have n:=h.n
 have i0:=n.i0;have i1:=n.i1;have j0:=n.j0;have j1:=n.j1;have k0:=n.k0
 have g:=h.g (i-1) (j-1) (k+1) ⟨A169 hi,A170 i1,A169 hj,A170 j1,A171 k0,λt h1 h2=>?_⟩ (A172 k0)
 ·rcases g with g |⟨g,_⟩<;>omega
 ·by_cases q:t=0
  ·rw[q,Int.add_zero,Int.add_zero];exact e
  ·have:=n.m (t-1) (A173 h1 q) (A174 h2)
   rw [show i-1+t=i+(t-1) from A175,show j-1+t=j+(t-1) from A175];exact this
theorem Best.right{w:Wd}{i j k:Int}(h:Best a b w i j k)(hi:i+k<w.ah)(hj:j+k<w.bh):av a (i+k)≠av b (j+k):=λe=>by
 have n:=h.n
 have i0:=n.i0;have i1:=n.i1;have j0:=n.j0;have j1:=n.j1;have k0:=n.k0
 have g:=h.g i j (k+1) ⟨A176 i0,A177 hi,A176 j0,A177 hj,A171 k0,λt h1 h2=>?_⟩ (A172 k0)
 ·rcases g with g |⟨g,_⟩<;>omega
 ·by_cases q:t=k
  ·rw[q];exact e
  ·exact n.m t h1 (A132 h2 q)
theorem flm_8(X:XX C){n:Nat}{fs:Str->Option V}{f:Int->Option V}(h:SM H c.s c.ra c.rb c.rd c.rj n fs f a b)(w:WOk a b c.w)(B:Best a b c.w bi bj bs)(k:K .next (fL c g bi bj bs o1 o2 o3 o4 o5) H):
  cL X (fL c g bi bj bs o1 o2 o3 o4 o5) H K:=by
 refine⟨1,kch (B:=(bif decide (bi>c.w.al) then bif decide (bj>c.w.bl) then Lp (aI (.ref c.rb) (.int (bj-1)) H) λv H1=>Lf ((one [v]).bind Ti) λk=>H1[c.rj]? =some .eset/\
  (Lp (aI (.ref c.ra) (.int (bi-1)) H1) λa H2=>Lp (aI (.ref c.rb) (.int (bj-1)) H2) λb H3=>Lp (bB id a b H3) λv H4=>Lf (tr v H4) λt=>bif t then
   aD (dZ ["besti","bestj","bestsize"] (bT (esC (aB cI (eN "besti") (eK (.int 1))) (esC (aB cI (eN "bestj") (eK (.int 1))) (esC (aB aH (eN "bestsize") (eK (.int 1))) esN))))) (sK .next) (fL c g bi bj bs o1 o2 o3 o4 o5) H4 (vW (λ_ _ _=>False) K)
   else K .next (fL c g bi bj bs o1 o2 o3 o4 o5) H4) else K .next (fL c g bi bj bs o1 o2 o3 o4 o5) H else K .next (fL c g bi bj bs o1 o2 o3 o4 o5) H)) ⋯ ?_⟩
 have i1:=B.n.i1;have j1:=B.n.j1;have k0:=B.n.k0;have a0:=w.a0;have a2:=w.a2;have b0:=w.b0;have b2:=w.b2
 by_cases q1:c.w.al<bi
 ·rw[decide_eq_true q1,cond_true]
  by_cases q2:c.w.bl<bj
  ·rw[decide_eq_true q2,cond_true]
   refine Lp.mk (iI h.ib (A178 b0 q2) (A179 j1 k0 b2) h.bl) (Lf.mk (p:=av b (bj-1)) rfl ?_)
   refine⟨h.j,ab_eq (Q:=λt H4=>bif t then _ else _) h.ia h.ib h.al h.bl (A178 a0 q1) (A179 i1 k0 a2) (A178 b0 q2) (A179 j1 k0 b2) ?_⟩
   rw [decide_eq_false (B.left q1 q2)]
   exact k
  ·rw[decide_eq_false q2];exact k
 ·rw[decide_eq_false q1];exact k
theorem flm_9(X:XX C){n:Nat}{fs:Str->Option V}{f:Int->Option V}(h:SM H c.s c.ra c.rb c.rd c.rj n fs f a b)(w:WOk a b c.w)(B:Best a b c.w bi bj bs)(k:K .next (fL c g bi bj bs o1 o2 o3 o4 o5) H):
  cK X (fL c g bi bj bs o1 o2 o3 o4 o5) H K:=by
 refine⟨1,kch (B:=(bif decide (bi+bs<c.w.ah) then bif decide (bj+bs<c.w.bh) then Lp (aI (.ref c.rb) (.int (bj+bs)) H) λv H1=>Lf ((one [v]).bind Ti) λk=>H1[c.rj]? =some .eset/\
  (Lp (aI (.ref c.ra) (.int (bi+bs)) H1) λa H2=>Lp (aI (.ref c.rb) (.int (bj+bs)) H2) λb H3=>Lp (bB id a b H3) λv H4=>Lf (tr v H4) λt=>bif t then
   aD (sAug "bestsize" oAdd (eK (.int 1))) (sK .next) (fL c g bi bj bs o1 o2 o3 o4 o5) H4 (vW (λ_ _ _=>False) K)
   else K .next (fL c g bi bj bs o1 o2 o3 o4 o5) H4) else K .next (fL c g bi bj bs o1 o2 o3 o4 o5) H else K .next (fL c g bi bj bs o1 o2 o3 o4 o5) H)) ⋯ ?_⟩
 have i0:=B.n.i0;have j0:=B.n.j0;have i1:=B.n.i1;have j1:=B.n.j1;have k0:=B.n.k0;have a0:=w.a0;have a2:=w.a2;have b0:=w.b0;have b2:=w.b2
 by_cases q1:bi+bs<c.w.ah
 ·rw[decide_eq_true q1,cond_true]
  by_cases q2:bj+bs<c.w.bh
  ·rw[decide_eq_true q2,cond_true]
   refine Lp.mk (iI h.ib (A180 j0 k0 b0) (A181 b2 q2) h.bl) (Lf.mk (p:=av b (bj+bs)) rfl ?_)
   refine⟨h.j,ab_eq (Q:=λt H4=>bif t then _ else _) h.ia h.ib h.al h.bl (A180 i0 k0 a0) (A181 a2 q1) (A180 j0 k0 b0) (A181 b2 q2) ?_⟩
   rw [decide_eq_false (B.right q1 q2)]
   exact k
  ·rw[decide_eq_false q2];exact k
 ·rw[decide_eq_false q1];exact k
theorem flm_10(X:XX C){n:Nat}{fs:Str->Option V}{f:Int->Option V}(h:SM H c.s c.ra c.rb c.rd c.rj n fs f a b)(w:WOk a b c.w)(B:Best a b c.w bi bj bs)(k:K .next (fL c g bi bj bs o1 o2 o3 o4 o5) H):
  cF X (fL c g bi bj bs o1 o2 o3 o4 o5) H K:=by
 refine⟨1,kch (B:=(bif decide (bi>c.w.al) then bif decide (bj>c.w.bl) then Lp (aI (.ref c.rb) (.int (bj-1)) H) λv H1=>Lf ((one [v]).bind Ti) λk=>H1[c.rj]? =some .eset/\
  (K .next (fL c g bi bj bs o1 o2 o3 o4 o5) H1) else K .next (fL c g bi bj bs o1 o2 o3 o4 o5) H else K .next (fL c g bi bj bs o1 o2 o3 o4 o5) H)) ⋯ ?_⟩
 have i0:=B.n.i0;have j0:=B.n.j0;have i1:=B.n.i1;have j1:=B.n.j1;have k0:=B.n.k0;have a0:=w.a0;have a2:=w.a2;have b0:=w.b0;have b2:=w.b2
 by_cases q1:bi>c.w.al
 ·rw[decide_eq_true q1,cond_true]
  by_cases q2:bj>c.w.bl
  ·rw[decide_eq_true q2,cond_true]
   refine Lp.mk (iI h.ib (A178 b0 q2) (A179 j1 k0 b2) h.bl) (Lf.mk (p:=av b (bj-1)) rfl ?_)
   exact⟨h.j,k⟩
  ·rw[decide_eq_false q2];exact k
 ·rw[decide_eq_false q1];exact k
theorem flm_11(X:XX C){n:Nat}{fs:Str->Option V}{f:Int->Option V}(h:SM H c.s c.ra c.rb c.rd c.rj n fs f a b)(w:WOk a b c.w)(B:Best a b c.w bi bj bs)(k:K .next (fL c g bi bj bs o1 o2 o3 o4 o5) H):
  cE X (fL c g bi bj bs o1 o2 o3 o4 o5) H K:=by
 refine⟨1,kch (B:=(bif decide (bi+bs<c.w.ah) then bif decide (bj+bs<c.w.bh) then Lp (aI (.ref c.rb) (.int (bj+bs)) H) λv H1=>Lf ((one [v]).bind Ti) λk=>H1[c.rj]? =some .eset/\
  (K .next (fL c g bi bj bs o1 o2 o3 o4 o5) H1) else K .next (fL c g bi bj bs o1 o2 o3 o4 o5) H else K .next (fL c g bi bj bs o1 o2 o3 o4 o5) H)) ⋯ ?_⟩
 have i0:=B.n.i0;have j0:=B.n.j0;have i1:=B.n.i1;have j1:=B.n.j1;have k0:=B.n.k0;have a0:=w.a0;have a2:=w.a2;have b0:=w.b0;have b2:=w.b2
 by_cases q1:bi+bs<c.w.ah
 ·rw[decide_eq_true q1,cond_true]
  by_cases q2:bj+bs<c.w.bh
  ·rw[decide_eq_true q2,cond_true]
   refine Lp.mk (iI h.ib (A180 j0 k0 b0) (A181 b2 q2) h.bl) (Lf.mk (p:=av b (bj+bs)) rfl ?_)
   exact⟨h.j,k⟩
  ·rw[decide_eq_false q2];exact k
 ·rw[decide_eq_false q1];exact k
theorem flm_ok(X:XX C){s ra rb rd rj n:Nat}{fs:Str->Option V}{f:Int->Option V}{al ah bl bh:Int}{Q:EK}(h:SM H s ra rb rd rj n fs f a b)(w:WOk a b ⟨al,ah,bl,bh⟩)
  (k:∀ {i j k H'},Hx H H'->Best a b ⟨al,ah,bl,bh⟩ i j k->Q (.mat i j k) H'):bV X [.ref s,.int al,.int ah,.int bl,.int bh] H Q:=by
 refine⟨rfl,?_⟩
 show c6 X (loB ["self","alo","ahi","blo","bhi"] [.ref s,.int al,.int ah,.int bl,.int bh] lo0) H (kD Q)
 rw [flm_in]
 refine flm_1 X h (flm_26 X _ ?_)
 have e:=(Hx.app H [.dict 0 λ_=>Option.none]).trans (Hx.app _ [.list []])
 have h1:=h.hx e
 refine flm_7 X (c:=⟨s,ra,rb,rd,rj,H.length+1,⟨al,ah,bl,bh⟩⟩) h1 ?_ ?_ w λ{g bi bj bs o1 o2 o3 o4 o5 H'} e1 B=>?_
 ·have:=hY (H++[.dict 0 λ_=>Option.none]) []
  rw [List.length_append]at this
  exact this
 ·exact Hx.app _ _ _ _ (aY H _)
 have h2:=h1.hx e1
 exact flm_8 X h2 w B (flm_9 X h2 w B (flm_10 X h2 w B (flm_11 X h2 w B (kch (B:=Q (.mat bi bj bs) H') ⋯ (k (e.trans e1) B)))))
end
section
variable {C:Cx}
theorem bL{P Q:Prop}(h:Q):bif false then P else Q:=h
theorem bY{P Q:Prop}(h:P):bif true then P else Q:=h
theorem aEu{H:MH}{s:Nat}{fs:Str->Option V}(h:H[s]? =some (.inst fs)):H[s]?.bind MO.ins=some fs:=by rw[h];rfl
theorem aJ{H:MH}{i:Nat}{m:MO}(h:H[i]? =some m)(m':MO):(H.set i m')[i]? =some m':=by
 rw [List.getElem?_set_self (List.getElem?_eq_some_iff.mp h).1]
theorem aG{H:MH}{i j:Nat}{m m':MO}(h:H[j]? =some m)(n:i≠j):(H.set i m')[j]? =some m:=by
 rw [List.getElem?_set_ne n];exact h
noncomputable def St(s:Nat)(x:Str)(v:V)(H:MH)(k:MH->Prop):Prop:=Lf (H[s]?.bind MO.ins) λfs=>k (H.set s (.inst (fput fs x v)))
noncomputable def At(s:Nat)(x:Str)(H:MH)(k:V->Prop):Prop:=Lf (H[s]?.bind MO.ins) λfs=>Lf (fs x) k
theorem St.mk{s:Nat}{x:Str}{v:V}{H:MH}{k:MH->Prop}{fs:Str->Option V}(h:H[s]? =some (.inst fs))(q:k (H.set s (.inst (fput fs x v)))):St s x v H k:=Lf.mk (aEu h) q
theorem At.mk{s:Nat}{x:Str}{v:V}{H:MH}{k:V->Prop}{fs:Str->Option V}(h:H[s]? =some (.inst fs))(e:fs x=some v)(q:k v):At s x H k:=Lf.mk (aEu h) (Lf.mk e q)
noncomputable def fs1(fs:Str->Option V)(r:Nat):Str->Option V:=fput (fput (fput fs "a" (.ref r)) "matching_blocks" .none) "opcodes" .none
theorem vC(X:XX C){H:MH}{s ra:Nat}{fs:Str->Option V}{Q:EK}(h:H[s]? =some (.inst fs))(ha:fs "a" =some .none)(k:Q .none (H.set s (.inst (fs1 fs ra)))):iQ X [.ref s,.ref ra] H Q:=by
 refine kch (B:=(2=2/\At s "a" H λv=>Lp (oIs id (.ref ra) v H) λv H1=>Lf (tr v H1) λb=>bif b then Q .none H1 else St s "a" (.ref ra) H1 λH2=>St s "matching_blocks" .none H2 λH3=>St s "opcodes" .none H3 λH4=>Q .none H4)) ⋯
  ⟨rfl,At.mk h ha (Lp.mk (v:=.bool false) (H:=H) rfl (Lf.mk (p:=false) rfl (bL (St.mk h (St.mk (aJ h _) (St.mk (aJ (aJ h _) _) ?_))))))⟩
 rw [List.set_set,List.set_set];exact k
noncomputable def fs2(fs:Str->Option V)(r:Nat):Str->Option V:=fput (fput (fput (fput fs "b" (.ref r)) "matching_blocks" .none) "opcodes" .none) "fullbcount" .none
theorem vB(X:XX C){H:MH}{s rb:Nat}{fs:Str->Option V}{Q:EK}(h:H[s]? =some (.inst fs))(ha:fs "b" =some .none)(k:eY X [.ref s] (H.set s (.inst (fs2 fs rb))) λ_ H'=>Q .none H'):iP X [.ref s,.ref rb] H Q:=by
 refine kch (B:=(2=2/\At s "b" H λv=>Lp (oIs id (.ref rb) v H) λv H1=>Lf (tr v H1) λb=>bif b then Q .none H1 else St s "b" (.ref rb) H1 λH2=>St s "matching_blocks" .none H2 λH3=>St s "opcodes" .none H3 λH4=>St s "fullbcount" .none H4 λH5=>(∃ ff,H5[s]? =some (.inst ff))/\eY X [.ref s] H5 λ_ H'=>Q .none H')) ⋯
  ⟨rfl,At.mk h ha (Lp.mk (v:=.bool false) (H:=H) rfl (Lf.mk (p:=false) rfl (bL (St.mk h (St.mk (aJ h _) (St.mk (aJ (aJ h _) _) (St.mk (aJ (aJ (aJ h _) _) _) ?_)))))))⟩
 rw [List.set_set,List.set_set,List.set_set];exact⟨⟨_,aJ h _⟩,k⟩
noncomputable def js(b:List Int)(v:Int):Nat->List Int
 |0=>[]
 |p+1=>js b v p++if av b p=v then [(p:Int)] else []
theorem js_c(b:List Int)(v:Int)(p:Nat):js b v (p+1)=js b v p++if av b p=v then [(p:Int)] else []:=rfl
theorem Idx.low{b js:List Int}{v lo:Int}(h:Idx b v (lo+1) js)(e:av b lo≠v):Idx b v lo js:=by
 have go:∀ c:Int,lo<=c->(lo+1<=c->av b c≠v)->av b c≠v:=λc h1 h2=>by
  rcases Int.lt_or_eq_of_le h1 with q |q
  ·exact h2 q
  ·exact q▸e
 cases h with
 |nil n=>exact .nil λc h1 h2=>go c h1 λq=>n c q h2
 |cons h1 h2 h3 n r=>exact .cons (Int.le_trans (Int.le_add_one (Int.le_refl _)) h1) h2 h3 (λc a b=>go c a λq=>n c q b) r
theorem aEq{b:List Int}{v:Int}:∀ {p:Nat}{rest:List Int},p<=b.length->Idx b v p rest->Idx b v 0 (js b v p++rest)
 |0,_,_,h=>h
 |p+1,rest,hp,h=>by
  rw [js_c,List.append_assoc]
  refine aEq (Nat.le_of_succ_le hp) ?_
  by_cases q:av b p=v
  ·rw[if_pos q]
   exact .cons (Int.le_refl _) (Int.ofNat_lt.mpr hp) q (λc h1 h2=>absurd h2 (Int.not_lt.mpr h1)) h
  ·rw[if_neg q]
   exact Idx.low h q
structure Bk(B:MH)(s rd:Nat)(b:List Int)(p:Nat)(f:Int->Option V)(H:MH):Prop where
 g:∀ v,(f v=none/\js b v p= [])∨∃ r,f v=some (.ref r)/\H[r]? =some (.list ((js b v p).map V.int))/\B[r]? =none/\r≠s/\r≠rd
 i:∀ v v' r,f v=some (.ref r)->f v'=some (.ref r)->v=v'
theorem Hx.fresh{B H:MH}(h:Hx B H):B[H.length]? =none:=by
 cases e:B[H.length]? with
 |none=>rfl
 |some m=>exact absurd (h _ _ e) (by rw[aL];nofun)
theorem aR{H:MH}{i:Nat}{m:MO}(h:H[i]? =some m):H.length≠i:=λq=>by rw[<-q,aL]at h;cases h
noncomputable def fB(s rb rd i elt ind:Option V):Nv:=[("self",s),("b",rb),("b2j",rd),("i",i),("elt",elt),("indices",ind)]
inductive CBI(B:MH)(s rb rd:Nat)(fs:Str->Option V)(b:List Int)(p:Nat)(lo:Lo)(H:MH):Prop
 |mk {n:Nat}{f:Int->Option V}{o1 o2 o3:Option V} (el:lo=look (fB (some (.ref s)) (some (.ref rb)) (some (.ref rd)) o1 o2 o3)) (hx:Hx B H) (ho:H[s]? =some (.inst fs)) (hd:H[rd]? =some (.dict n f)) (hn:n<=p) (bk:Bk B s rd b p f H):CBI B s rb rd fs b p lo H
theorem n5{P:Option (V×(Nat×Nat))->MH->Prop}{r p:Nat}{vs:List V}{H:MH}{o:Option V}(hl:lst H (.ref r)=some vs)(e:vs[p]? =o)(h:P (o.map λv=>(.tup [.int p,v],(r,p+1))) H):(j4 C).nx (r,p) H P:=
 Lf.mk hl (by subst e;exact h)
theorem wD{tgt:AF}{body:SF}{r:Nat}{vs:List V}{Q:SK}(Inv:Nat->Lo->MH->Prop)(hl:∀ {p lo H},Inv p lo H->lst H (.ref r)=some vs)(he:∀ {lo H},Inv vs.length lo H->Q .next lo H)
  (hs:∀ {p v lo H K},vs[p]? =some v->Inv p lo H->GoK (Inv (p+1)) Q K->tgt (.tup [.int p,v]) lo H λlo1 H1=>body lo1 H1 K):
  ∀ (k p:Nat){lo:Lo}{H:MH},p+k=vs.length->Inv p lo H->cW (j4 C) tgt body (k+1) (r,p) lo H Q
 |0,p,lo,H,hd,h=>by
  refine n5 (o:=none) (hl h) (List.getElem?_eq_none (Nat.le_of_eq hd.symm)) ?_
  have e:p=vs.length:=hd
  subst e
  exact he h
 |k+1,p,lo,H,hd,h=>by
  have hp:p<vs.length:=A106 hd
  exact n5 (o:=some vs[p]) (hl h) (List.getElem?_eq_getElem hp) (hs (List.getElem?_eq_getElem hp) h (.loop λh'=>wD Inv hl he hs k (p+1) (A109 hd) h'))
noncomputable def chB:SF:=aD (aX "indices" (aFv (eN "b2j") (eN "elt") (gU esN))) (aD (bO (d7 (eN "indices") (eN "i"))) (sK .next))
noncomputable def chT:AF:=cU 2 (asC (aN "i") (asC (aN "elt") asN))
section
variable {B:MH}{s rb rd:Nat}{fs:Str->Option V}{b:List Int}{p:Nat}{H:MH}
theorem Bk.old{f:Int->Option V}{r:Nat}{G:MH}(h:Bk B s rd b p f H)(hx:Hx H G)(e:f (av b p)=some (.ref r))(hs:H[s]? =some (.inst fs)):Bk B s rd b (p+1) f (G.set r (.list ((js b (av b p) p++[(p:Int)]).map V.int))):=by
 refine⟨λv=>?_,h.i⟩
 rw [js_c]
 by_cases q:av b p=v
 ·subst q
  rw [if_pos rfl]
  rcases h.g (av b p) with ⟨e1,_⟩ |⟨r',e1,h1,h2⟩
  ·rw[e]at e1;cases e1
  ·rw[e]at e1;cases e1
   exact .inr ⟨r,e,aJ (hx _ _ h1) _,h2⟩
 ·rw[if_neg q,List.append_nil]
  rcases h.g v with h1 |⟨r',e1,h1,h2⟩
  ·exact .inl h1
  ·exact .inr ⟨r',e1,aG (hx _ _ h1) λz=>q (h.i _ _ r (e) (z▸e1)),h2⟩
theorem Bk.new{f:Int->Option V}{n:Nat}(h:Bk B s rd b p f H)(hx:Hx B H)(e:f (av b p)=none)(hs:H[s]? =some (.inst fs))(hd:H[rd]? =some (.dict n f))(m:MO):
  Bk B s rd b (p+1) (dput f (av b p) (.ref H.length)) (((H++[MO.list []]).set rd m).set H.length (.list [.int p])):=by
 have nr:=aR hd
 have ns:=aR hs
 refine⟨λv=>?_,λv v' r h1 h2=>?_⟩
 ·rw[js_c]
  unfold dput
  by_cases q:v=av b p
  ·subst q
   rw [if_pos rfl,if_pos rfl]
   refine .inr ⟨_,rfl,?_,hx.fresh,ns,nr⟩
   rcases h.g (av b p) with ⟨_,e1⟩ |⟨r',e1,_⟩
   ·rw[e1];exact aJ (aG (aY _ _) nr.symm) _
   ·rw[e]at e1;cases e1
  ·rw[if_neg q,if_neg (λz=>q z.symm),List.append_nil]
   rcases h.g v with h1 |⟨r',e1,h1,h2⟩
   ·exact .inl h1
   ·exact .inr ⟨r',e1,aG (aG (Hx.app _ _ _ _ h1) h2.2.2.symm) (aR h1),h2⟩
 ·unfold dput at h1 h2
  have key:∀ v,f v≠some (.ref H.length):=λv z=>by
   rcases h.g v with ⟨e1,_⟩ |⟨r',e1,h1,_⟩
   ·rw[z]at e1;cases e1
   ·rw[z]at e1;cases e1;exact aR h1 rfl
  by_cases q:v=av b p
  ·by_cases q':v'=av b p
   ·exact q.trans q'.symm
   ·rw[if_pos q]at h1;rw[if_neg q']at h2;cases h1;exact absurd h2 (key _)
  ·by_cases q':v'=av b p
   ·rw[if_neg q]at h1;rw[if_pos q']at h2;cases h2;exact absurd h1 (key _)
   ·rw[if_neg q]at h1;rw[if_neg q']at h2;exact h.i _ _ _ h1 h2
end
end
section
variable {C:Cx}{B:MH}{s rb rd:Nat}{fs:Str->Option V}{b:List Int}{p:Nat}{H:MH}{K:SK}{lo:Lo}
theorem dE{r:Nat}{vs:List V}(h:H[r]? =some (.list vs)):H[r]?.bind MO.own=some vs:=by rw[h];rfl
theorem aF{r:Nat}{vs:List V}(h:H[r]? =some (.list vs)):lst H (.ref r)=some vs:=by
 show H[r]?.bind _=_
 rw [h];rfl
theorem aDj{x y:Str}{r:Nat}{vs:List V}{v:V}(hf:lo x=some (.ref r))(hg:lo y=some v)(h:H[r]? =some (.list vs))(hl:vs.length<1000000)(k:K .next lo (H.set r (.list (vs++[v])))):bO (d7 (eN x) (eN y)) lo H K:=
 Lf.mk hf (Lf.mk (p:=r) rfl ⟨⟨_,h⟩,Lf.mk hg (Lf.mk (dE h) ⟨hl,k⟩)⟩)
theorem aEp(b:List Int)(v:Int):∀ p,(js b v p).length<=p
 |0=>Nat.le_refl _
 |p+1=>by
  rw [js_c,List.length_append]
  refine Nat.add_le_add (aEp b v p) ?_
  split
  ·exact Nat.le_refl 1
  ·exact Nat.zero_le 1
noncomputable def chR(w:V)(lo:Lo)(K:SK)(H:MH):Prop:=aD (bO (d7 (eN "indices") (eN "i"))) (sK .next) (upd lo "indices" w) H K
theorem chR_i{r:Nat}{vs:List V}{v:V}(hi:upd lo "indices" (.ref r) "i" =some v)(h:H[r]? =some (.list vs))(hl:vs.length<1000000)(k:K .next (upd lo "indices" (.ref r)) (H.set r (.list (vs++[v])))):chR (.ref r) lo K H:=
 aDj (x:="indices") (y:="i") (lo:=upd lo "indices" (.ref r)) (K:=bH (sK .next) K) ⋯ hi h hl k
theorem ch_nf{v:Int}{o1 o2 o3:Option V}:(chT (.tup [.int p,.int v]) (look (fB (some (.ref s)) (some (.ref rb)) (some (.ref rd)) o1 o2 o3)) H λlo1 H1=>chB lo1 H1 K)=
  (2=2/\(∃ n g,H[rd]? =some (.dict n g))/\Lf ((H++[MO.list []])[rd]?.bind MO.dct) λq=>q.1<1000000/\match q.2 v with
   |some v'=>chR v' (upd (upd (look (fB (some (.ref s)) (some (.ref rb)) (some (.ref rd)) o1 o2 o3)) "i" (.int p)) "elt" (.int v)) K (H++[MO.list []])
   |none=>chR (.ref H.length) (upd (upd (look (fB (some (.ref s)) (some (.ref rb)) (some (.ref rd)) o1 o2 o3)) "i" (.int p)) "elt" (.int v)) K ((H++[MO.list []]).set rd (.dict (q.1+1) (dput q.2 v (.ref H.length))))):=by rfl'
theorem upd3{o1 o2 o3:Option V}(u v w:V):upd (upd (upd (look (fB (some (.ref s)) (some (.ref rb)) (some (.ref rd)) o1 o2 o3)) "i" u) "elt" v) "indices" w=look (fB (some (.ref s)) (some (.ref rb)) (some (.ref rd)) (some u) (some v) (some w)):=by
 rw [aA,aA,aA];kernel_rfl
theorem aIo{Q:SK}(hp:p<1000000)(hs:B[s]? =none)(hr:B[rd]? =none)(sr:s≠rd)(I:CBI B s rb rd fs b p lo H)(G:GoK (CBI B s rb rd fs b (p+1)) Q K):chT (.tup [.int p,.int (av b p)]) lo H λlo1 H1=>chB lo1 H1 K:=by
 cases I with
 | @mk n f o1 o2 o3 el hx ho hd hn bk=>
 subst el
 have hx':Hx H (H++[MO.list []]):=.app _ _
 have hl:=aEp b (av b p) p
 refine kch ch_nf ⟨rfl,⟨_,_,hd⟩,Lf.mk (yL (hx' _ _ hd)) ⟨Nat.lt_of_le_of_lt hn hp,?_⟩⟩
 dsimp only
 rcases bk.g (av b p) with ⟨e,e2⟩ |⟨r,e,h1,h2,h3,h4⟩
 ·rw[e]
  have nr:=aR hd
  have ns:=aR ho
  refine chR_i (vs:=[]) (v:=.int p) ⋯ (aG (aY _ _) nr.symm) (by decide) (G.nx (.mk (n:=n+1) (upd3 _ _ _) ?_ ?_ ?_ (Nat.succ_le_succ hn) (bk.new hx e ho hd _)))
  ·exact((hx.trans hx').set hr).set hx.fresh
  ·exact aG (aG (hx' _ _ ho) sr.symm) ns
  ·exact aG (aJ (hx' _ _ hd) _) nr
 ·rw[e]
  refine chR_i (vs:=(js b (av b p) p).map V.int) (v:=.int p) ⋯ (hx' _ _ h1) (by rw[List.length_map];exact Nat.lt_of_le_of_lt hl hp) ?_
  rw [show (js b (av b p) p).map V.int++[V.int p]=(js b (av b p) p++[(p:Int)]).map V.int from by rw[List.map_append];rfl]
  refine G.nx (.mk (n:=n) (upd3 _ _ _) ?_ ?_ ?_ (Nat.le_succ_of_le hn) (bk.old hx' e ho))
  ·exact(hx.trans hx').set h2
  ·exact aG (hx' _ _ ho) h3
  ·exact aG (hx' _ _ hd) h4
theorem fB_0:upd (upd (upd lo0 "self" (.ref s)) "b" (.ref rb)) "b2j" (.ref rd)=look (fB (some (.ref s)) (some (.ref rb)) (some (.ref rd)) none none none):=by
 rw [<-c8 (fB none none none none none none) ⋯,aA,aA,aA]
 kernel_rfl
noncomputable def fs3(fs:Str->Option V)(rd rj rp:Nat):Str->Option V:=fput (fput (fput fs "b2j" (.ref rd)) "bjunk" (.ref rj)) "bpopular" (.ref rp)
theorem Bk.idx{f:Int->Option V}(h:Bk B s rd b b.length f H){H':MH}(k:∀ (r:Nat) (m:MO),H[r]? =some m->r≠s->H'[r]? =some m):B2J H' b f:=λv=>by
 have e:Idx b v 0 (js b v b.length):=by
  have:=aEq (b:=b) (v:=v) (rest:=[]) (Nat.le_refl b.length) (.nil λc h1 h2=>absurd h2 (Int.not_lt.mpr h1))
  rwa [List.append_nil]at this
 rcases h.g v with ⟨h1,h2⟩ |⟨r,h1,h2,h3,h4,h5⟩
 ·exact .inl ⟨h1,h2▸e⟩
 ·exact .inr ⟨r,_,h1,aF (k _ _ h2 h4),e⟩
noncomputable def aAk(X:XX C):SF:=aD (jM X) (aD (jL X) (aD (jK X) (aD (jJ X) (aD (jI X) (aD (jH X) (sK .next))))))
theorem aF6(X:XX C){Q:EK}{t:Bool}{n:Nat}{f:Int->Option V}{o1 o2 o3:Option V}(hs:B[s]? =none)(hx:Hx B H)(h:H[s]? =some (.inst fs))(hd:H[rd]? =some (.dict n f))(sr:s≠rd)(hb:LI B rb b)(bl:b.length<200)(ej:fs "isjunk" =some .none)(ea:fs "autojunk" =some (.bool t))(bk:Bk B s rd b b.length f H)
  (k:∀ {H' rj rp},Hx B H'->H'[s]? =some (MO.inst (fput (fput fs "bjunk" (.ref rj)) "bpopular" (.ref rp)))->H'[rd]? =some (.dict n f)->H'[rj]? =some .eset->B2J H' b f->Q .none H'):
  aAk X (look (fB (some (.ref s)) (some (.ref rb)) (some (.ref rd)) o1 o2 o3)) H (kD Q):=by
 refine kch (B:=(St s "bjunk" (.ref H.length) (H++[MO.eset]) λH3=>At s "isjunk" H3 λv=>Lf (tr v H3) λb=>bif b then False else St s "bpopular" (.ref H3.length) (H3++[MO.eset]) λH4=>
  Lp ((lst H4 (.ref rb)).bind λxs=>if xs.length<1000000 then some (.int xs.length,H4) else none) λn H5=>At s "autojunk" H5 λv=>Lf (tr v H5) λb=>bif b then(Lp (bW (λx y=>decide (x>=y)) n (.int 200) H5) λv H6=>Lf (tr v H6) λb=>bif b then False else Q .none H6) else Q .none H5)) ⋯ ?_
 have h1:=Hx.app H [MO.eset] _ _ h
 have s1:=aJ h1 (MO.inst (fput fs "bjunk" (.ref H.length)))
 have x1:=((hx.trans (.app H [MO.eset])).set (m:=.inst (fput fs "bjunk" (.ref H.length))) hs)
 refine St.mk h1 (At.mk s1 (v:=.none) ej (Lf.mk (p:=false) rfl (bL (St.mk (Hx.app _ [MO.eset] _ _ s1) ?_))))
 have s2:=aJ (Hx.app _ [MO.eset] _ _ s1) (MO.inst (fput (fput fs "bjunk" (.ref H.length)) "bpopular" (.ref ((H++[MO.eset]).set s (MO.inst (fput fs "bjunk" (.ref H.length)))).length)))
 have x2:=((x1.trans (.app _ [MO.eset])).set (m:=.inst (fput (fput fs "bjunk" (.ref H.length)) "bpopular" (.ref ((H++[MO.eset]).set s (MO.inst (fput fs "bjunk" (.ref H.length)))).length))) hs)
 have lb:=x2.li hb
 have key:∀ (r:Nat) (m:MO),(H++[MO.eset])[r]? =some m->r≠s->((((H++[MO.eset]).set s (MO.inst (fput fs "bjunk" (.ref H.length))))++[MO.eset]).set s (MO.inst (fput (fput fs "bjunk" (.ref H.length)) "bpopular" (.ref ((H++[MO.eset]).set s (MO.inst (fput fs "bjunk" (.ref H.length)))).length))))[r]? =some m:=λr m e n=>
  aG (Hx.app _ _ _ _ (aG e n.symm)) n.symm
 have fin:=k x2 s2 (key _ _ (Hx.app _ _ _ _ hd) sr.symm) (key _ _ (aY _ _) (aR h)) (bk.idx λr m e n=>key _ _ (Hx.app _ _ _ _ e) n)
 refine Lp.mk (v:=.int b.length) (by rw[lb];show(if (b.map V.int).length<1000000 then _ else _)=_;rw[List.length_map,if_pos (Nat.lt_trans bl (by decide))]) (At.mk s2 (v:=.bool t) ea (Lf.mk (p:=t) rfl ?_))
 cases t with
 |false=>exact fin
 |true=>
  refine bY (Lp.mk (v:=.bool (decide ((b.length:Int)>=200))) ⋯ (Lf.mk (p:=false) ?_ (bL fin)))
  rw [decide_eq_false (A182 bl)];rfl
theorem yR(X:XX C){Q:EK}{t:Bool}(h:H[s]? =some (.inst fs))(hx:Hx B H)(hs:B[s]? =none)(hb:LI B rb b)(bl:b.length<200)(eb:fs "b" =some (.ref rb))(ej:fs "isjunk" =some .none)(ea:fs "autojunk" =some (.bool t))
  (k:∀ {H' rd rj rp n f},Hx B H'->H'[s]? =some (MO.inst (fs3 fs rd rj rp))->H'[rd]? =some (.dict n f)->H'[rj]? =some .eset->B2J H' b f->Q .none H'):eY X [.ref s] H Q:=by
 refine kch (B:=(1=1/\At s "b" H λv=>St s "b2j" (.ref H.length) (H++[.dict 0 λ_=>none]) λH2=>Lf v.rf λi=>(∃ vs,lst H2 (.ref i)=some vs)/\
  ∃ n,cW (j4 C) chT chB n (i,0) (upd (upd (upd lo0 "self" (.ref s)) "b" v) "b2j" (.ref H.length)) H2 (bH (aAk X) (kD Q)))) ⋯ ?_
 have e1:=Hx.app H [.dict 0 λ_=>none]
 refine⟨rfl,At.mk h eb (St.mk (e1 _ _ h) (Lf.mk (p:=rb) rfl ?_))⟩
 have s1:=aJ (e1 _ _ h) (MO.inst (fput fs "b2j" (.ref H.length)))
 have x1:=(hx.trans e1).set (m:=.inst (fput fs "b2j" (.ref H.length))) hs
 have sr:s≠H.length:=(aR h).symm
 refine⟨⟨_,x1.li hb⟩,(b.map V.int).length+1,?_⟩
 rw [fB_0]
 refine wD (CBI B s rb H.length (fput fs "b2j" (.ref H.length)) b) (vs:=b.map V.int) (λI=>?_) (λI=>?_) (λ{p v lo H K} e I G=>?_) _ 0 (Nat.zero_add _) (.mk (n:=0) (f:=λ_=>none) rfl x1 s1 (aG (aY _ _) sr) (Nat.le_refl _) ⟨λv=>.inl ⟨rfl,rfl⟩,λv v' r h1 h2=>nomatch h1⟩)
 ·cases I with
  |mk el hx=>exact hx.li hb
 ·cases I with
  |mk el hx ho hd hn bk=>
   subst el
   rw [List.length_map]at bk
   exact aF6 X hs hx ho hd sr hb bl ej ea bk k
 ·rw[List.getElem?_map]at e
  obtain⟨x,h1,h2⟩:=Option.map_eq_some_iff.mp e
  subst h2
  have:av b p=x:=by
   show b.getD p 0=x
   rw [List.getD_eq_getElem?_getD,h1];rfl
  subst this
  exact aIo (Nat.lt_trans (List.getElem?_eq_some_iff.mp h1).1 (Nat.lt_trans bl (by decide))) hs hx.fresh sr I G
end
section
variable {C:Cx}{H:MH}{s ra rb:Nat}{a b:List Int}{Q:EK}
noncomputable def fs0:Str->Option V:=fput (fput (fput (fput (λ_=>none) "isjunk" .none) "a" .none) "b" .none) "autojunk" (.bool true)
noncomputable def fsN(ra rb rd rj rp:Nat):Str->Option V:=fs3 (fs2 (fs1 fs0 ra) rb) rd rj rp
theorem aG5(X:XX C){fs:Str->Option V}(h:H[s]? =some (.inst fs))(ha:fs "a" =some .none)(hb:fs "b" =some .none)(k:eY X [.ref s] (H.set s (.inst (fs2 (fs1 fs ra) rb))) λ_ H'=>Q .none H'):iO X [.ref s,.ref ra,.ref rb] H Q:=by
 refine kch (B:=(3=3/\(∃ ff,H[s]? =some (.inst ff))/\iQ X [.ref s,.ref ra] H λ_ H2=>(∃ ff,H2[s]? =some (.inst ff))/\iP X [.ref s,.ref rb] H2 λ_ H3=>Q .none H3)) ⋯ ⟨rfl,⟨_,h⟩,vC X h ha ⟨⟨_,aJ h _⟩,vB X (aJ h _) hb ?_⟩⟩
 rw [List.set_set];exact k
theorem aH8(X:XX C):yS X [.ref s,.none,.ref ra,.ref rb] H Q=(5=5/\St s "isjunk" .none H λH1=>St s "a" .none H1 λH2=>St s "b" .none H2 λH3=>St s "autojunk" (.bool true) H3 λH4=>(∃ ff,H4[s]? =some (.inst ff))/\iO X [.ref s,.ref ra,.ref rb] H4 λ_ H'=>Q .none H'):=by rfl'
theorem aGh(X:XX C)(ha:LI H ra a)(hb:LI H rb b)(al:a.length<200)(bl:b.length<200)
  (k:∀ {H' rd rj rp n f},Hx H H'->SM H' H.length ra rb rd rj n (fsN ra rb rd rj rp) f a b->Q (.ref H.length) H'):X.c_SM [.none,.ref ra,.ref rb] H Q:=by
 have h0:=aY H (.inst λ_=>none)
 have h1:=aJ h0 (.inst (fput (λ_=>none) "isjunk" .none))
 have h2:=aJ h1 (.inst (fput (fput (λ_=>none) "isjunk" .none) "a" .none))
 have h3:=aJ h2 (.inst (fput (fput (fput (λ_=>none) "isjunk" .none) "a" .none) "b" .none))
 have h4:=aJ h3 (.inst fs0)
 have x:=Hx.app H [.inst λ_=>none]
 refine kch (aH8 X) ⟨rfl,St.mk h0 (St.mk h1 (St.mk h2 (St.mk h3 ⟨⟨_,h4⟩,aG5 X h4 ⋯ ⋯ ?_⟩)))⟩
 have h5:=aJ h4 (.inst (fs2 (fs1 fs0 ra) rb))
 refine yR X (B:=H) (t:=true) h5 (((((x.set (aL H)).set (aL H)).set (aL H)).set (aL H)).set (aL H)) (aL H) hb bl ⋯ ⋯ ⋯ λ{H' rd rj rp n f} e1 e2 e3 e4 e5=>⟨rfl,k (rp:=rp) (rd:=rd) (rj:=rj) e1 ⟨e2,by rfl',by rfl',by rfl',by rfl',e1.li ha,e1.li hb,e3,e4,e5,Nat.lt_trans al (by decide),Nat.lt_trans bl (by decide)⟩⟩
end
section
variable {C:Cx}{H:MH}{K Q:SK}{lo:Lo}{a b:List Int}
noncomputable def Wd.v(w:Wd):V:=.tup [.int w.al,.int w.ah,.int w.bl,.int w.bh]
noncomputable def T3.v(t:T3):V:=.mat t.i t.j t.k
noncomputable def T3.t(t:T3):V:=.tup [.int t.i,.int t.j,.int t.k]
structure GC where
 s:Nat
 la:Int
 lb:Int
 q:Nat
 m:Nat
noncomputable def fG(s la lb q m al ah bl bh i j k x:Option V):Nv:=
 [("self",s),("la",la),("lb",lb),("queue",q),("matching_blocks",m),("alo",al),("ahi",ah),("blo",bl),("bhi",bh),("i",i),("j",j),("k",k),("x",x),("i1",none),("j1",none),("k1",none),("non_adjacent",none),("i2",none),("j2",none),("k2",none)]
noncomputable def gL(c:GC)(al ah bl bh i j k x:Option V):Lo:=look (fG (some (.ref c.s)) (some (.int c.la)) (some (.int c.lb)) (some (.ref c.q)) (some (.ref c.m)) al ah bl bh i j k x)
noncomputable def gL'(c:GC)(w:Wd)(i j k x:Option V):Lo:=gL c (some (.int w.al)) (some (.int w.ah)) (some (.int w.bl)) (some (.int w.bh)) i j k x
noncomputable def gI(X:XX C):SF:=aD (sIf (tE (eN "k")) (aD (bO (d7 (eN "matching_blocks") (eN "x"))) (aD (sIf (aU (tE (aB (bW λx y=>decide (x<y)) (eN "alo") (eN "i"))) (aU (tE (aB (bW λx y=>decide (x<y)) (eN "blo") (eN "j"))) (tK true))) (aD (bO (d7 (eN "queue") (bT (esC (eN "alo") (esC (eN "i") (esC (eN "blo") (esC (eN "j") esN))))))) (sK .next)) (sK .next)) (aD (sIf (aU (tE (aB (bW λx y=>decide (x<y)) (aB aH (eN "i") (eN "k")) (eN "ahi"))) (aU (tE (aB (bW λx y=>decide (x<y)) (aB aH (eN "j") (eN "k")) (eN "bhi"))) (tK true))) (aD (bO (d7 (eN "queue") (bT (esC (aB aH (eN "i") (eN "k")) (esC (eN "ahi") (esC (aB aH (eN "j") (eN "k")) (esC (eN "bhi") esN))))))) (sK .next)) (sK .next)) (sK .next)))) (sK .next)) (sK .next)
noncomputable def gF(X:XX C):SF:=aD (cY (jN (bV X) (eN "self") (esC (eN "alo") (esC (eN "ahi") (esC (eN "blo") (esC (eN "bhi") esN))))) (iZ (cU 3 (asC (aN "i") (asC (aN "j") (asC (aN "k") asN)))) (aN "x"))) (gI X)
noncomputable def gB(X:XX C):SF:=aD (cY (ePop (eN "queue")) (cU 4 (asC (aN "alo") (asC (aN "ahi") (asC (aN "blo") (asC (aN "bhi") asN)))))) (gF X)
theorem pop_i{x:Str}{r:Nat}{vs:List V}{v:V}{Q:EK}(hx:lo x=some (.ref r))(h:H[r]? =some (.list (vs++[v])))(hl:vs.length<999999)(k:Q v (H.set r (.list vs))):ePop (eN x) lo H Q:=by
 have e:(vs++[v]).length=vs.length+1:=by rw[List.length_append];rfl
 refine Lf.mk hx (Lf.mk (p:=r) rfl (Lf.mk (dE h) ⟨by rw[e];exact Nat.succ_lt_succ hl,Lf.mk (p:=v) ?_ ?_⟩))
 ·rw[e,Nat.add_sub_cancel,List.getElem?_append_right (Nat.le_refl _),Nat.sub_self];rfl
 ·rw[e,Nat.add_sub_cancel,List.eraseIdx_append_of_length_le (Nat.le_refl _),Nat.sub_self]
  show Q v (H.set r (.list (vs++[])))
  rw [List.append_nil];exact k
theorem iG{x:Str}{r:Nat}{vs:List V}{v:V}{g:EF}(hx:lo x=some (.ref r))(hg:∀ (H:MH) (Q:EK),Q v H->g lo H Q)(h:H[r]? =some (.list vs))(hl:vs.length<1000000)(k:K .next lo (H.set r (.list (vs++[v])))):bO (d7 (eN x) g) lo H K:=
 Lf.mk hx (Lf.mk (p:=r) rfl ⟨⟨_,h⟩,hg _ _ (Lf.mk (dE h) ⟨hl,k⟩)⟩)
inductive QI(a b:List Int)(c:GC)(G:MH)(n:Nat)(lo:Lo)(H:MH):Prop
 |mk {q:List Wd}{m:List T3}{al ah bl bh i j k x:Option V} (el:lo=gL c al ah bl bh i j k x) (hx:Hx G H) (hq:H[c.q]? =some (.list (q.reverse.map Wd.v))) (hm:H[c.m]? =some (.list (m.map T3.v)))
   (w:∀ v∈q,WOk a b v) (r:∀ r,Run a b q m r->Run a b [⟨0,c.la,0,c.lb⟩] [] r) (n1:mu q<=n) (n2:m.length+mu q<=1000):QI a b c G n lo H
theorem gB_pop{X:XX C}{c:GC}{w:Wd}{vs:List V}{al ah bl bh i j k x:Option V}(h:H[c.q]? =some (.list (vs++[w.v])))(hl:vs.length<999999)(q:gF X (gL' c w i j k x) (H.set c.q (.list vs)) K):gB X (gL c al ah bl bh i j k x) H K:=by
 refine aS (tH (pop_i ⋯ h hl ?_))
 refine kch (B:=(4=4/\gF X (upd (upd (upd (upd (gL c al ah bl bh i j k x) "alo" (.int w.al)) "ahi" (.int w.ah)) "blo" (.int w.bl)) "bhi" (.int w.bh)) (H.set c.q (.list vs)) K)) ⋯ ⟨rfl,?_⟩
 unfold gL
 rw [aA,aA,aA,aA]
 exact q
theorem gF_nf{X:XX C}{c:GC}{w:Wd}{i j k x:Option V}:gF X (gL' c w i j k x) H K=((∃ ff,H[c.s]? =some (.inst ff))/\bV X [.ref c.s,.int w.al,.int w.ah,.int w.bl,.int w.bh] H λv H2=>
  iZ (cU 3 (asC (aN "i") (asC (aN "j") (asC (aN "k") asN)))) (aN "x") v (gL' c w i j k x) H2 λlo' H3=>gI X lo' H3 K):=by rfl'
theorem gF_set{X:XX C}{c:GC}{w:Wd}{i j k x:Option V}{t:T3}(q:gI X (gL' c w (some (.int t.i)) (some (.int t.j)) (some (.int t.k)) (some t.v)) H K):
  iZ (cU 3 (asC (aN "i") (asC (aN "j") (asC (aN "k") asN)))) (aN "x") t.v (gL' c w i j k x) H λlo' H3=>gI X lo' H3 K:=by
 refine kch (B:=(3=3/\gI X (upd (upd (upd (upd (gL' c w i j k x) "i" (.int t.i)) "j" (.int t.j)) "k" (.int t.k)) "x" t.v) H K)) ⋯ ⟨rfl,?_⟩
 unfold gL' gL
 rw [aA,aA,aA,aA]
 exact q
noncomputable def gP1:SF:=aD (bO (d7 (eN "queue") (bT (esC (eN "alo") (esC (eN "i") (esC (eN "blo") (esC (eN "j") esN))))))) (sK .next)
noncomputable def gP2:SF:=aD (bO (d7 (eN "queue") (bT (esC (aB aH (eN "i") (eN "k")) (esC (eN "ahi") (esC (aB aH (eN "j") (eN "k")) (esC (eN "bhi") esN))))))) (sK .next)
noncomputable def gJ:SF:=aD (sIf (aU (tE (aB (bW λx y=>decide (x<y)) (aB aH (eN "i") (eN "k")) (eN "ahi"))) (aU (tE (aB (bW λx y=>decide (x<y)) (aB aH (eN "j") (eN "k")) (eN "bhi"))) (tK true))) gP2 (sK .next)) (sK .next)
noncomputable def gH:SF:=aD (sIf (aU (tE (aB (bW λx y=>decide (x<y)) (eN "alo") (eN "i"))) (aU (tE (aB (bW λx y=>decide (x<y)) (eN "blo") (eN "j"))) (tK true))) gP1 (sK .next)) gJ
noncomputable def gA:SF:=aD (bO (d7 (eN "matching_blocks") (eN "x"))) gH
section
variable {X:XX C}{c:GC}{w:Wd}{t:T3}
noncomputable def gT(c:GC)(w:Wd)(t:T3):Lo:=gL' c w (some (.int t.i)) (some (.int t.j)) (some (.int t.k)) (some t.v)
theorem gI_nf:gI X (gT c w t) H K=(bif t.k != 0 then gA (gT c w t) H K else K .next (gT c w t) H):=by rfl'
theorem gH_nf:gH (gT c w t) H K=(bif decide (w.al<t.i) then bif decide (w.bl<t.j) then gP1 (gT c w t) H (bH gJ K) else gJ (gT c w t) H K else gJ (gT c w t) H K):=by rfl'
theorem gJ_nf:gJ (gT c w t) H K=(bif decide (t.i+t.k<w.ah) then bif decide (t.j+t.k<w.bh) then gP2 (gT c w t) H K else K .next (gT c w t) H else K .next (gT c w t) H):=by rfl'
theorem gP1_i{vs:List V}(h:H[c.q]? =some (.list vs))(hl:vs.length<1000000)(k:K .next (gT c w t) (H.set c.q (.list (vs++[Wd.v ⟨w.al,t.i,w.bl,t.j⟩])))):gP1 (gT c w t) H K:=by
 unfold gP1
 exact aS (iG (K:=bH (sK .next) K) ⋯ (λH Q q=>kch (B:=(4<100/\Q (Wd.v ⟨w.al,t.i,w.bl,t.j⟩) H)) ⋯ ⟨by decide,q⟩) h hl k)
theorem gP2_i{vs:List V}(h:H[c.q]? =some (.list vs))(hl:vs.length<1000000)(k:K .next (gT c w t) (H.set c.q (.list (vs++[Wd.v ⟨t.i+t.k,w.ah,t.j+t.k,w.bh⟩])))):gP2 (gT c w t) H K:=by
 unfold gP2
 exact aS (iG (K:=bH (sK .next) K) ⋯ (λH Q q=>kch (B:=(4<100/\Q (Wd.v ⟨t.i+t.k,w.ah,t.j+t.k,w.bh⟩) H)) ⋯ ⟨by decide,q⟩) h hl k)
noncomputable def Ex(H H':MH)(i:Nat):Prop:=∀ (j:Nat) (m:MO),i≠j->H[j]? =some m->H'[j]? =some m
theorem Ex.set{H:MH}{i:Nat}{m:MO}:Ex H (H.set i m) i:=λj x n e=>aG e n
theorem Ex.trans{H H1 H2:MH}{i:Nat}(h:Ex H H1 i)(h':Ex H1 H2 i):Ex H H2 i:=λj m n e=>h' j m n (h j m n e)
theorem Ex.hx{G H H':MH}{i:Nat}(h:Ex H H' i)(x:Hx G H)(hi:G[i]? =none):Hx G H':=λj m e=>h j m (λz=>by rw[z,e]at hi;cases hi) (x j m e)
theorem pD(q:List Wd)(w:Wd):(w :: q).reverse.map Wd.v=q.reverse.map Wd.v++[w.v]:=by rw[List.reverse_cons,List.map_append];rfl
theorem qlen{q:List Wd}{n:Nat}(h:q.length<n):(q.reverse.map Wd.v).length<n:=by rw[List.length_map,List.length_reverse];exact h
theorem gJ_i{q:List Wd}(h:H[c.q]? =some (.list (q.reverse.map Wd.v)))(hl:q.length<1000000)(k:∀ {H'},H'[c.q]? =some (.list ((kC w t.i t.j t.k q).reverse.map Wd.v))->Ex H H' c.q->K .next (gT c w t) H'):gJ (gT c w t) H K:=by
 unfold kC at k
 refine kch gJ_nf ?_
 by_cases q1:t.i+t.k<w.ah
 ·by_cases q2:t.j+t.k<w.bh
  ·rw[if_pos ⟨q1,q2⟩,pD]at k
   rw [decide_eq_true q1,decide_eq_true q2]
   exact gP2_i h (qlen hl) (k (aJ h _) .set)
  ·rw[if_neg λz=>q2 z.2]at k
   rw [decide_eq_true q1,decide_eq_false q2]
   exact k h λ_ _ _ e=>e
 ·rw[if_neg λz=>q1 z.1]at k
  rw [decide_eq_false q1]
  exact k h λ_ _ _ e=>e
theorem gH_i{q:List Wd}(h:H[c.q]? =some (.list (q.reverse.map Wd.v)))(hl:q.length<999999)(k:∀ {H'},H'[c.q]? =some (.list ((kC w t.i t.j t.k (iX w t.i t.j q)).reverse.map Wd.v))->Ex H H' c.q->K .next (gT c w t) H'):gH (gT c w t) H K:=by
 unfold iX at k
 refine kch gH_nf ?_
 by_cases q1:w.al<t.i
 ·by_cases q2:w.bl<t.j
  ·rw[if_pos ⟨q1,q2⟩]at k
   rw [decide_eq_true q1,decide_eq_true q2]
   exact gP1_i h (qlen (Nat.lt_trans hl (by decide))) (gJ_i (K:=K) (q:=⟨w.al,t.i,w.bl,t.j⟩ :: q) (by rw[pD];exact aJ h _) (Nat.succ_lt_succ hl) λh1 e=>k h1 (Ex.set.trans e))
  ·rw[if_neg λz=>q2 z.2]at k
   rw [decide_eq_true q1,decide_eq_false q2]
   exact gJ_i h (Nat.lt_trans hl (by decide)) k
 ·rw[if_neg λz=>q1 z.1]at k
  rw [decide_eq_false q1]
  exact gJ_i h (Nat.lt_trans hl (by decide)) k
end
theorem sT{r:Nat}{vs:List V}(h:H[r]? =some (.list vs))(hl:vs.length<1000000):tr (.ref r) H=some (!vs.isEmpty):=by
 show(lst H (.ref r)).bind _=_
 rw [aF h]
 exact if_pos hl
theorem q_step(X:XX C){c:GC}{ra rb rd rj n N:Nat}{fs:Str->Option V}{f:Int->Option V}{G:MH}(S:SM G c.s ra rb rd rj n fs f a b)(gq:G[c.q]? =none)(gm:G[c.m]? =none)(qm:c.q≠c.m)(I:QI a b c G N lo H)
  (hQ:∀ {lo H},QI a b c G 0 lo H->Q .next lo H):tE (eN "queue") lo H λt H1=>bif t then ∀ K,GoK (λlo' H'=>∃ N',N'<N/\QI a b c G N' lo' H') Q K->gB X lo H1 K else Q .next lo H1:=by
 cases I with
 | @mk q m al ah bl bh i j k x el hx hq hm w r n1 n2=>
 subst el
 have ql:=yA q
 have ql2:q.length<1000000:=A184 n2 ql
 refine aV (x:="queue") (v:=.ref c.q) (Q:=λv H1=>Lf (tr v H1) λt=>bif t then ∀ K,GoK (λlo' H'=>∃ N',N'<N/\QI a b c G N' lo' H') Q K->gB X (gL c al ah bl bh i j k x) H1 K else Q .next (gL c al ah bl bh i j k x) H1) ⋯ (Lf.mk (sT hq (qlen ql2)) ?_)
 cases q with
 |nil=>exact hQ (.mk rfl hx hq hm w r (Nat.le_refl _) n2)
 |cons w0 q=>
  rw [pD]at hq ⊢
  rw [show (!(q.reverse.map Wd.v++[w0.v]).isEmpty)=true by simp]
  intro K go
  have ql3:q.length<999999:=Nat.lt_of_succ_lt_succ ql2
  refine gB_pop (w:=w0) hq (qlen ql3) (kch gF_nf ?_)
  have x1:Hx G (H.set c.q (.list (q.reverse.map Wd.v))):=hx.set gq
  have S1:=S.hx x1
  have w0k:=w w0 (.head _)
  refine⟨⟨_,S1.o⟩,flm_ok X S1 w0k λ{i j k H2} e2 B=>gF_set (t:=⟨i,j,k⟩) ?_⟩
  have hq2:=e2 _ _ (aJ hq (.list (q.reverse.map Wd.v)))
  have hm2:=e2 _ _ (aG (m':=.list (q.reverse.map Wd.v)) hm qm)
  have x2:=x1.trans e2
  have wsz1:1<=wsz w0:=Nat.le_add_left _ _
  refine kch gI_nf ?_
  by_cases k0:k=0
  ·subst k0
   refine go.nx ⟨mu q,?_,.mk rfl x2 hq2 hm2 (λv hv=>w v (.tail _ hv)) (λr' h=>r r' (.zero B h)) (Nat.le_refl _) ?_⟩
   ·have:mu (w0 :: q)=wsz w0+mu q:=rfl
    exact A185 n1 wsz1 this
   ·have:mu (w0 :: q)=wsz w0+mu q:=rfl
    exact A186 n2 this
  ·have kp:0<k:=by have:=B.n.k0;exact A187 k0 this
   rw [show (k != 0)=true from bne_iff_ne.mpr k0]
   have ms:=mu_sub (w:=w0) B kp q
   refine bY (aS (aDj (r:=c.m) (v:=T3.v ⟨i,j,k⟩) ⋯ ⋯ hm2 (by rw[List.length_map];exact A188 n2) ?_))
   refine gH_i (K:=K) (aG hq2 qm.symm) ql3 λ{H'} h1 e=>go.nx ⟨_,Nat.lt_of_lt_of_le ms n1,.mk (m:=m++[⟨i,j,k⟩]) rfl (e.hx (x2.set gm) gq) h1 ?_ (zA w0k B λv hv=>w v (.tail _ hv)) (λr' h=>r r' (.pos B kp h)) (Nat.le_refl _) ?_⟩
   ·rw[List.map_append]
    exact e _ _ qm (aJ hm2 _)
   ·show(m++[_]).length+mu (kC w0 i j k (iX w0 i j q))<=1000
    rw [List.length_append,List.length_singleton];exact A189 n2 ms
end
section
variable {C:Cx}{H:MH}{K Q:SK}{lo:Lo}{a b:List Int}
noncomputable def nL(c:GC)(o1 o2 o3 o4 o5 o6 o7 o8:Option V)(t:T3)(na:Nat)(u1 u2 u3:Option V):Lo:=
 look [("self",some (.ref c.s)),("la",some (.int c.la)),("lb",some (.int c.lb)),("queue",some (.ref c.q)),("matching_blocks",some (.ref c.m)),("alo",o1),("ahi",o2),("blo",o3),("bhi",o4),("i",o5),("j",o6),("k",o7),("x",o8),
  ("i1",some (.int t.i)),("j1",some (.int t.j)),("k1",some (.int t.k)),("non_adjacent",some (.ref na)),("i2",u1),("j2",u2),("k2",u3)]
noncomputable def nT:AF:=cU 3 (asC (aN "i2") (asC (aN "j2") (asC (aN "k2") asN)))
noncomputable def nS:SF:=aD (dZ ["i1","j1","k1"] (bT (esC (eN "i2") (esC (eN "j2") (esC (eN "k2") esN))))) (sK .next)
noncomputable def nP:SF:=aD (bO (d7 (eN "non_adjacent") (bT (esC (eN "i1") (esC (eN "j1") (esC (eN "k1") esN)))))) (sK .next)
noncomputable def nE:SF:=aD (sIf (tE (eN "k1")) nP (sK .next)) nS
noncomputable def nB:SF:=aD (sIf (aU (tE (aB (bB id) (aB aH (eN "i1") (eN "k1")) (eN "i2"))) (aU (tE (aB (bB id) (aB aH (eN "j1") (eN "k1")) (eN "j2"))) (tK true))) (aD (sAug "k1" oAdd (eN "k2")) (sK .next)) nE) (sK .next)
section
variable {c:GC}{o1 o2 o3 o4 o5 o6 o7 o8 u1 u2 u3:Option V}{t x:T3}{na:Nat}
noncomputable def nX(c:GC)(o1 o2 o3 o4 o5 o6 o7 o8:Option V)(t:T3)(na:Nat)(x:T3):Lo:=nL c o1 o2 o3 o4 o5 o6 o7 o8 t na (some (.int x.i)) (some (.int x.j)) (some (.int x.k))
theorem nT_i(q:nB (nX c o1 o2 o3 o4 o5 o6 o7 o8 t na x) H K):nT x.v (nL c o1 o2 o3 o4 o5 o6 o7 o8 t na u1 u2 u3) H λlo1 H1=>nB lo1 H1 K:=by
 refine kch (B:=(3=3/\nB (upd (upd (upd (nL c o1 o2 o3 o4 o5 o6 o7 o8 t na u1 u2 u3) "i2" (.int x.i)) "j2" (.int x.j)) "k2" (.int x.k)) H K)) ⋯ ⟨rfl,?_⟩
 unfold nL
 rw [aA,aA,aA]
 exact q
theorem nB_nf:nB (nX c o1 o2 o3 o4 o5 o6 o7 o8 t na x) H K=(bif decide (t.i+t.k=x.i) then bif decide (t.j+t.k=x.j) then K .next (upd (nX c o1 o2 o3 o4 o5 o6 o7 o8 t na x) "k1" (.int (t.k+x.k))) H
  else nE (nX c o1 o2 o3 o4 o5 o6 o7 o8 t na x) H (bH (sK .next) K) else nE (nX c o1 o2 o3 o4 o5 o6 o7 o8 t na x) H (bH (sK .next) K)):=by rfl'
theorem nE_nf:nE (nX c o1 o2 o3 o4 o5 o6 o7 o8 t na x) H K=(bif t.k != 0 then nP (nX c o1 o2 o3 o4 o5 o6 o7 o8 t na x) H (bH nS K) else nS (nX c o1 o2 o3 o4 o5 o6 o7 o8 t na x) H K):=by rfl'
theorem nP_i{vs:List V}(h:H[na]? =some (.list vs))(hl:vs.length<1000000)(k:K .next (nL c o1 o2 o3 o4 o5 o6 o7 o8 t na u1 u2 u3) (H.set na (.list (vs++[t.t])))):nP (nL c o1 o2 o3 o4 o5 o6 o7 o8 t na u1 u2 u3) H K:=by
 unfold nP
 exact aS (iG (K:=bH (sK .next) K) ⋯ (λH Q q=>kch (B:=(3<100/\Q t.t H)) ⋯ ⟨by decide,q⟩) h hl k)
theorem nS_i(q:K .next (nX c o1 o2 o3 o4 o5 o6 o7 o8 x na x) H):nS (nX c o1 o2 o3 o4 o5 o6 o7 o8 t na x) H K:=by
 refine kch (B:=(3<100/\3=3/\K .next (upd (upd (upd (nX c o1 o2 o3 o4 o5 o6 o7 o8 t na x) "k1" (.int x.k)) "j1" (.int x.j)) "i1" (.int x.i)) H)) ⋯ ⟨by decide,rfl,?_⟩
 unfold nX nL
 rw [aA,aA,aA]
 exact q
theorem nK_i{k:Int}(q:K .next (nX c o1 o2 o3 o4 o5 o6 o7 o8 ⟨t.i,t.j,k⟩ na x) H):K .next (upd (nX c o1 o2 o3 o4 o5 o6 o7 o8 t na x) "k1" (.int k)) H:=by
 unfold nX nL
 rw [aA]
 exact q
end
inductive NI(c:GC)(na:Nat)(G:MH)(all:List T3)(rest:List V)(lo:Lo)(H:MH):Prop
 |mk {o1 o2 o3 o4 o5 o6 o7 o8 u1 u2 u3:Option V}{t:T3}{acc l:List T3} (el:lo=nL c o1 o2 o3 o4 o5 o6 o7 o8 t na u1 u2 u3) (er:rest=l.map T3.v) (hx:Hx G H) (hn:H[na]? =some (.list (acc.map T3.t)))
   (e:acc++nad t l=all) (n:acc.length+l.length<=1000):NI c na G all rest lo H
theorem n_step{c:GC}{na:Nat}{G:MH}{all:List T3}{v:V}{rest:List V}(gn:G[na]? =none)(I:NI c na G all (v :: rest) lo H)(go:GoK (NI c na G all rest) Q K):nT v lo H λlo1 H1=>nB lo1 H1 K:=by
 cases I with
 | @mk o1 o2 o3 o4 o5 o6 o7 o8 u1 u2 u3 t acc l el er hx hn e n=>
 refine b8 (List.map_eq_cons_iff.mp er.symm) λx l' e1 e2 e3=>?_
 subst e1 e2 e3 el
 rw [List.length_cons]at n
 refine nT_i (kch nB_nf ?_)
 rw [zN]at e
 have other: ¬(t.i+t.k=x.i/\t.j+t.k=x.j)->nE (nX c o1 o2 o3 o4 o5 o6 o7 o8 t na x) H (bH (sK .next) K):=λz=>by
  rw [if_neg z]at e
  refine kch nE_nf ?_
  by_cases q:t.k=0
  ·rw[if_pos q]at e
   rw [show (t.k != 0)=false from by rw[q];rfl]
   exact bL (nS_i (K:=bH (sK .next) K) (go.nx (.mk rfl rfl hx hn e (A190 n))))
  ·rw[if_neg q]at e
   rw [show (t.k != 0)=true from bne_iff_ne.mpr q]
   refine bY (nP_i (K:=bH nS (bH (sK .next) K)) hn (by rw[List.length_map];exact A191 n) (nS_i (K:=bH (sK .next) K) (go.nx (.mk (acc:=acc++[t]) rfl rfl (hx.set gn) ?_ ?_ ?_))))
   ·rw[List.map_append];exact aJ hn _
   ·rw[List.append_assoc];exact e
   ·rw[List.length_append,List.length_singleton];exact A192 n
 by_cases q1:t.i+t.k=x.i
 ·by_cases q2:t.j+t.k=x.j
  ·rw[if_pos ⟨q1,q2⟩]at e
   rw [decide_eq_true q1,decide_eq_true q2]
   exact nK_i (K:=K) (go.nx (.mk rfl rfl hx hn e (A190 n)))
  ·rw[decide_eq_true q1,decide_eq_false q2]
   exact other λz=>q2 z.2
 ·rw[decide_eq_false q1]
  exact other λz=>q1 z.1
end
section
variable {C:Cx}{H:MH}{a b:List Int}
theorem aHn{P:Option (V×(Nat×Nat))->MH->Prop}{hm:qX C 2}{r p:Nat}{vs:List V}(hl:lst H (.ref r)=some vs)(e:vs[p]? =none)(h:P none H):(v0 C 2 hm).nx (r,p) H P:=
 Lf.mk hl (by show(match vs[p]? with |none=>P none H |some v=>_);rw[e];exact h)
theorem aHm{P:Option (V×(Nat×Nat))->MH->Prop}{hm:qX C 2}{r p:Nat}{vs:List V}{t:T3}(hl:lst H (.ref r)=some vs)(e:vs[p]? =some t.t)(h:P (some (t.v,(r,p+1))) H):(v0 C 2 hm).nx (r,p) H P:=
 Lf.mk hl (by show(match vs[p]? with |none=>P none H |some v=>Lf (t3 v) λq=>P (some (.mat q.1 q.2.1 q.2.2,(r,p+1))) H);rw[e];exact h)
theorem zS{hm:qX C 2}{G:MH}{na ai:Nat}{l:List T3}{P:MH->Prop}(hl:G[na]? =some (.list (l.map T3.t)))(ga:G[ai]? =none)(ll:l.length<1000000)(k:∀ {H'},Hx G H'->H'[ai]? =some (.list (l.map T3.v))->P H'):
  ∀ (rest done:List T3){H:MH},done++rest=l->Hx G H->H[ai]? =some (.list (done.map T3.v))->dV (v0 C 2 hm) ai (rest.length+1) (na,done.length) H P
 | [],done,H,e,hx,h=>by
  rw [List.append_nil]at e
  subst e
  exact aHn (aF (hx _ _ hl)) (List.getElem?_eq_none (by rw[List.length_map];exact Nat.le_refl _)) (k hx h)
 |t :: rest,done,H,e,hx,h=>by
  refine aHm (t:=t) (aF (hx _ _ hl)) ?_ (Lf.mk (dE h) ⟨?_,?_⟩)
  ·rw[List.getElem?_map,<-e,List.getElem?_append_right (Nat.le_refl _),Nat.sub_self];rfl
  ·rw[List.length_map]
   rw [<-e,List.length_append]at ll
   exact Nat.lt_of_le_of_lt (Nat.le_add_right _ _) ll
  ·have:=zS (hm:=hm) hl ga ll k rest (done++[t]) (H:=H.set ai (.list (done.map T3.v++[t.v]))) (by rw[List.append_assoc];exact e) (hx.set ga) (by rw[List.map_append];exact aJ h _)
   rw [List.length_append]at this
   exact this
theorem len_i{r:Nat}{l:List Int}{Q:EK}(h:LI H r l)(hl:l.length<1000000)(q:Q (.int l.length) H):cG [.ref r] H Q:=by
 refine Lp.mk (v:=.int l.length) (H:=H) ?_ q
 show(lst H (.ref r)).bind _=_
 rw [h]
 show(if (l.map V.int).length<1000000 then _ else _)=_
 rw [List.length_map,if_pos hl]
theorem zW(x:T3):∀ l:List T3,ins dN x.v (l.map T3.v)=(ins T3.i x l).map T3.v
 | []=>rfl
 |y :: r=>by
  show(if x.i<y.i then x.v :: y.v :: r.map T3.v else y.v :: ins dN x.v (r.map T3.v))=(if x.i<y.i then x :: y :: r else y :: ins T3.i x r).map T3.v
  rw [zW x r]
  split<;>rfl
theorem sE:∀ l:List T3,isort dN (l.map T3.v)=(isort T3.i l).map T3.v
 | []=>rfl
 |x :: r=>by
  show ins dN x.v (isort dN (r.map T3.v))=(ins T3.i x (isort T3.i r)).map T3.v
  rw [sE r,zW]
noncomputable def Blocks(a b:List Int)(bl:List T3):Prop:=∃ r,Run a b [⟨0,a.length,0,b.length⟩] [] r/\bl=nad ⟨0,0,0⟩ (isort T3.i r)++[⟨a.length,b.length,0⟩]
theorem Blocks.uniq{l l':List T3}(h:Blocks a b l)(h':Blocks a b l'):l=l':=by
 refine xEA h λr h1 h2=>?_
 refine xEA h' λr' h3 h4=>?_
 cases h1.uniq h3
 rw [h2,h4]
theorem fG_0{s:Nat}:loB ["self"] [.ref s] lo0=look (fG (some (.ref s)) none none none none none none none none none none none none):=by
 rw [<-c8 (fG none none none none none none none none none none none none none) ⋯]
 show upd _ "self" (.ref s)=_
 rw [aA];kernel_rfl
noncomputable def gR6(X:XX C):SF:=aD (cC X) (aD (cB X) (aD (cA X) (aD (bX X) (aD (bS X) (aD (bC X) (aD (bR X) (aD (bQ X) (sK .next))))))))
noncomputable def gR2(X:XX C):SF:=aD (cD X) (aD (bG X) (aD (bF X) (aD (bD X) (gR6 X))))
theorem aIb(X:XX C){s:Nat}{Q:EK}:bN X [.ref s] H Q=(1=1/\At s "matching_blocks" H λv=>Lp (oIs not v .none H) λv H1=>Lf (tr v H1) λb=>bif b then At s "matching_blocks" H1 λv=>Q v H1 else gR2 X (loB ["self"] [.ref s] lo0) H1 (kD Q)):=by rfl'
theorem g_2(X:XX C){s:Nat}{K:SK}:gR2 X (look (fG (some (.ref s)) none none none none none none none none none none none none)) H K=(At s "a" H λva=>cG [va] H λn H1=>At s "b" H1 λvb=>cG [vb] H1 λm H2=>2<100/\2=2/\
  aD (bG X) (aD (bF X) (aD (bD X) (gR6 X))) (upd (upd (look (fG (some (.ref s)) none none none none none none none none none none none none)) "lb" m) "la" n) H2 K):=by rfl'
theorem g_34(X:XX C){s:Nat}{la lb:Int}{K:SK}:aD (bG X) (aD (bF X) (aD (bD X) (gR6 X))) (look (fG (some (.ref s)) (some (.int la)) (some (.int lb)) none none none none none none none none none none)) H K=
  (4<100/\∃ n,runW (tE (eN "queue")) (gB X) n (upd (upd (look (fG (some (.ref s)) (some (.int la)) (some (.int lb)) none none none none none none none none none none)) "queue" (.ref H.length)) "matching_blocks" (.ref (H++[MO.list [Wd.v ⟨0,la,0,lb⟩]]).length))
   ((H++[.list [Wd.v ⟨0,la,0,lb⟩]])++[.list []]) (bH (gR6 X) K)):=by rfl'
theorem aGv{x:Str}{lo:Lo}{P P':Bool->MH->Prop}(h:tE (eN x) lo H P)(k:∀ c H',P c H'->P' c H'):tE (eN x) lo H P':=Lf.elim h λv e h=>Lf.mk e (Lf.elim h λc e h=>Lf.mk e (k _ _ h))
end
section
variable {C:Cx}{H:MH}{a b:List Int}
noncomputable def gR12(X:XX C):SF:=aD (bR X) (aD (bQ X) (sK .next))
noncomputable def gR11(X:XX C):SF:=aD (bC X) (gR12 X)
noncomputable def gR10(X:XX C):SF:=aD (bS X) (gR11 X)
noncomputable def gR9(X:XX C):SF:=aD (bX X) (gR10 X)
section
variable {c:GC}{o1 o2 o3 o4 o5 o6 o7 o8 u1 u2 u3:Option V}{t x:T3}{na:Nat}{K:SK}
theorem g_6(X:XX C):gR6 X (gL c o1 o2 o3 o4 o5 o6 o7 o8) H K=(Lf (H[c.m]?.bind MO.own) λvs=>okSort vs/\gR9 X (upd (upd (upd (upd (gL c o1 o2 o3 o4 o5 o6 o7 o8) "i1" (.int 0)) "j1" (.int 0)) "k1" (.int 0)) "non_adjacent" (.ref (H.set c.m (.list (isort dN vs))).length)) (H.set c.m (.list (isort dN vs))++[.list []]) K):=by rfl'
theorem g_6n:upd (upd (upd (upd (gL c o1 o2 o3 o4 o5 o6 o7 o8) "i1" (.int 0)) "j1" (.int 0)) "k1" (.int 0)) "non_adjacent" (.ref na)=nL c o1 o2 o3 o4 o5 o6 o7 o8 ⟨0,0,0⟩ na none none none:=by
 unfold gL nL
 rw [aA,aA,aA,aA];kernel_rfl
theorem g_9(X:XX C):gR9 X (nL c o1 o2 o3 o4 o5 o6 o7 o8 t na u1 u2 u3) H K=((∃ vs,lst H (.ref c.m)=some vs)/\∃ n,cW (aT C) nT nB n (c.m,0) (nL c o1 o2 o3 o4 o5 o6 o7 o8 t na u1 u2 u3) H (bH (gR10 X) K)):=by rfl'
theorem g_10(X:XX C):gR10 X (nL c o1 o2 o3 o4 o5 o6 o7 o8 t na u1 u2 u3) H K=(bif t.k != 0 then nP (nL c o1 o2 o3 o4 o5 o6 o7 o8 t na u1 u2 u3) H (bH (gR11 X) K) else gR11 X (nL c o1 o2 o3 o4 o5 o6 o7 o8 t na u1 u2 u3) H K):=by rfl'
theorem g_12(X:XX C){Q:EK}:gR12 X (nL c o1 o2 o3 o4 o5 o6 o7 o8 t na u1 u2 u3) H (kD Q)=((∃ vs,lst H (.ref na)=some vs)/\∃ n,dV (v0 C 2 X.makeM) H.length n (na,0) (H++[.list []]) λH2=>St c.s "matching_blocks" (.ref H.length) H2 λH3=>At c.s "matching_blocks" H3 λv=>Q v H3):=by rfl'
theorem g_11(X:XX C){vs:List V}(h:H[na]? =some (.list vs))(hl:vs.length<1000000)(k:gR12 X (nL c o1 o2 o3 o4 o5 o6 o7 o8 t na u1 u2 u3) (H.set na (.list (vs++[T3.t ⟨c.la,c.lb,0⟩]))) K):gR11 X (nL c o1 o2 o3 o4 o5 o6 o7 o8 t na u1 u2 u3) H K:=by
 unfold gR11 bC
 exact aS (iG (v:=T3.t ⟨c.la,c.lb,0⟩) (K:=bH (gR12 X) K) ⋯ (λH Q q=>kch (B:=(3<100/\Q (T3.t ⟨c.la,c.lb,0⟩) H)) ⋯ ⟨by decide,q⟩) h hl k)
theorem g_1011(X:XX C){acc all:List T3}(h:H[na]? =some (.list (acc.map T3.t)))(hl:acc.length<999999)(e:acc++nad t []=all)(k:∀ {H'},Ex H H' na->H'[na]? =some (.list ((all++[T3.mk c.la c.lb 0]).map T3.t))->gR12 X (nL c o1 o2 o3 o4 o5 o6 o7 o8 t na u1 u2 u3) H' K):
  gR10 X (nL c o1 o2 o3 o4 o5 o6 o7 o8 t na u1 u2 u3) H K:=by
 refine kch (g_10 X) ?_
 rw [zM]at e
 subst e
 by_cases q:t.k=0
 ·rw[if_pos q,List.append_nil]at k
  rw [show (t.k != 0)=false from by rw[q];rfl]
  refine bL (g_11 X h (by rw[List.length_map];exact Nat.lt_trans hl (by decide)) (k .set ?_))
  rw [List.map_append];exact aJ h _
 ·rw[if_neg q]at k
  rw [show (t.k != 0)=true from bne_iff_ne.mpr q]
  have h1:=aJ h (.list (acc.map T3.t++[t.t]))
  refine bY (nP_i (K:=bH (gR11 X) K) h (by rw[List.length_map];exact Nat.lt_trans hl (by decide)) (g_11 X h1 (by rw[List.length_append,List.length_map];exact Nat.succ_lt_succ hl) (k (Ex.set.trans .set) ?_)))
  rw [List.map_append,List.map_append];exact aJ h1 _
end
theorem gmb_ok(X:XX C){s ra rb rd rj n:Nat}{fs:Str->Option V}{f:Int->Option V}{Q:EK}(S:SM H s ra rb rd rj n fs f a b)(hm:fs "matching_blocks" =some .none)(al:a.length<64)(ok:∀ r,Run a b [⟨0,a.length,0,b.length⟩] [] r->okSort (r.map T3.v))
  (k:∀ {H' r bl},Ex H H' s->H[r]? =none->r≠s->H'[s]? =some (.inst (fput fs "matching_blocks" (.ref r)))->H'[r]? =some (.list (bl.map T3.v))->Blocks a b bl->Q (.ref r) H'):bN X [.ref s] H Q:=by
 refine kch (aIb X) ⟨rfl,At.mk S.o hm (Lp.mk (v:=.bool false) (H:=H) rfl (Lf.mk (p:=false) rfl (bL ?_)))⟩
 rw [fG_0]
 refine kch (g_2 X) (At.mk S.o S.fa (len_i S.ia S.al (At.mk S.o S.fb (len_i S.ib S.bl ⟨by decide,rfl,?_⟩))))
 rw [aA,aA]
 refine kch (g_34 X) ⟨by decide,2000,?_⟩
 rw [aA,aA]
 have x0:Hx H ((H++[MO.list [Wd.v ⟨0,a.length,0,b.length⟩]])++[MO.list []]):=(Hx.app _ _).trans (.app _ _)
 have el:(H++[MO.list [Wd.v ⟨0,a.length,0,b.length⟩]]).length=H.length+1:=List.length_append
 have gm:H[(H++[MO.list [Wd.v ⟨0,a.length,0,b.length⟩]]).length]? =none:=by rw[el];exact List.getElem?_eq_none (Nat.le_succ _)
 have qm:H.length≠(H++[MO.list [Wd.v ⟨0,a.length,0,b.length⟩]]).length:=by rw[el];exact(Nat.succ_ne_self _).symm
 refine while_ (QI a b ⟨s,a.length,b.length,H.length,(H++[MO.list [Wd.v ⟨0,a.length,0,b.length⟩]]).length⟩ H) (λI=>q_step X (c:=⟨s,a.length,b.length,H.length,(H++[MO.list [Wd.v ⟨0,a.length,0,b.length⟩]]).length⟩) S (aL H) gm qm I ?_) aGv 2000 1000 (by decide)
  (.mk (q:=[⟨0,a.length,0,b.length⟩]) (m:=[]) rfl x0 (Hx.app _ _ _ _ (aY _ _)) (aY _ _) (λv hv=>?_) (λr h=>h) ?_ ?_)
 ·intro lo H1 I
  cases I with
  | @mk q m o1 o2 o3 o4 o5 o6 o7 o8 el hx hq hm w r n1 n2=>
  subst el
  have q0:q= []:=List.eq_nil_of_length_eq_zero (Nat.le_zero.mp (Nat.le_trans (yA q) n1))
  subst q0
  have run:=r m .nil
  have ml:m.length<=1000:=n2
  refine kch (g_6 X) (Lf.mk (dE hm) ⟨ok m run,?_⟩)
  rw [g_6n,sE]
  have h2:=aJ hm (.list ((isort T3.i m).map T3.v))
  have x2:Hx H _:=hx.set (m:=.list ((isort T3.i m).map T3.v)) gm
  revert h2 x2
  generalize H1.set _ (.list ((isort T3.i m).map T3.v))=H2
  intro h2 x2
  have sl:(isort T3.i m).length<=1000:=by rw[(cJ T3.i m).length_eq];exact ml
  refine kch (g_9 X) ⟨⟨_,aF (Hx.app _ _ _ _ h2)⟩,_,eG (NI ⟨s,a.length,b.length,H.length,_⟩ H2.length H2 (nad ⟨0,0,0⟩ (isort T3.i m))) (λI=>?_) (λI=>?_) (λI go=>n_step (aL H2) I go) ((isort T3.i m).map T3.v) 0 rfl
   (.mk (acc:=[]) rfl rfl (.app _ _) (aY _ _) rfl (by rw[List.length_nil,Nat.zero_add];exact sl))⟩
  ·cases I with
   |mk el er hx=>exact aF (hx _ _ h2)
  ·cases I with
   | @mk p1 p2 p3 p4 p5 p6 p7 p8 u1 u2 u3 t acc l el er hx hn e n=>
   subst el
   cases List.map_eq_nil_iff.mp er.symm
   refine g_1011 X hn (by rw[List.length_nil]at n;exact A193 n) e λ{H6} x6 h6=>kch (g_12 X) ⟨⟨_,aF h6⟩,_,zS h6 (aL H6) ?_ (λ{H7} x7 h7=>?_) _ [] (List.nil_append _) (.app _ _) (aY _ _)⟩
   ·have:(nad t []).length<=1:=by
     rw [zM];split
     ·exact Nat.zero_le 1
     ·exact Nat.le_refl 1
    have e2:(nad ⟨0,0,0⟩ (isort T3.i m)).length=acc.length+(nad t []).length:=by rw[<-e,List.length_append]
    rw [List.length_append,List.length_singleton]
    exact A194 n this e2
   ·have e7:Hx H H7:=(x2.trans (x6.hx hx (aL H2))).trans x7
    have s7:=e7 _ _ S.o
    have sne:H6.length≠s:=λz=>by
     have:=(x2.trans (x6.hx hx (aL H2))) _ _ S.o
     rw [<-z,aL]at this;cases this
    refine St.mk s7 (At.mk (v:=.ref H6.length) (aJ s7 _) ⋯ (k (λj m n e=>aG (e7 _ _ e) n) ((x2.trans (x6.hx hx (aL H2))).fresh) sne (aJ s7 _) (aG h7 sne.symm) ⟨m,run,rfl⟩))
 ·cases List.mem_singleton.mp hv
  exact⟨Int.le_refl _,Int.natCast_nonneg _,Int.le_refl _,Int.le_refl _,Int.natCast_nonneg _,Int.le_refl _⟩
 ·show 2*((a.length:Int)-0).toNat+1+0<=1000
  exact A195 al
 ·show 0+(2*((a.length:Int)-0).toNat+1+0)<=1000
  exact A196 al
end
section
variable {C:Cx}{H:MH}{K Q:SK}{lo:Lo}{a b:List Int}
noncomputable def Tg.s:Tg->Str | .rep=> "replace" | .del=> "delete" | .ins=> "insert" | .eq=> "equal"
noncomputable def Op.v(o:Op):V:=.tup [.str o.tag.s,.int o.i1,.int o.i2,.int o.j1,.int o.j2]
noncomputable def oL(s ans:Nat)(i j:Int)(u1 u2 u3 u4:Option V):Lo:=look [("self",some (.ref s)),("i",some (.int i)),("j",some (.int j)),("answer",some (.ref ans)),("ai",u1),("bj",u2),("size",u3),("tag",u4)]
noncomputable def oX(s ans:Nat)(i j:Int)(t:T3)(u4:Option V):Lo:=oL s ans i j (some (.int t.i)) (some (.int t.j)) (some (.int t.k)) u4
noncomputable def oT:AF:=cU 3 (asC (aN "ai") (asC (aN "bj") (asC (aN "size") asN)))
noncomputable def oP1:SF:=aD (bO (d7 (eN "answer") (bT (esC (eN "tag") (esC (eN "i") (esC (eN "ai") (esC (eN "j") (esC (eN "bj") esN)))))))) (sK .next)
noncomputable def oP2:SF:=aD (bO (d7 (eN "answer") (bT (esC (eK (.str "equal")) (esC (eN "ai") (esC (eN "i") (esC (eN "bj") (esC (eN "j") esN)))))))) (sK .next)
noncomputable def oR3:SF:=aD (sIf (tE (eN "size")) oP2 (sK .next)) (sK .next)
noncomputable def oR2:SF:=aD (dZ ["i","j"] (bT (esC (aB aH (eN "ai") (eN "size")) (esC (aB aH (eN "bj") (eN "size")) esN)))) oR3
noncomputable def oR:SF:=aD (sIf (tE (eN "tag")) oP1 (sK .next)) oR2
noncomputable def oBR(R:SF):SF:=aD (aX "tag" (eK (.str ""))) (aD (sIf (aU (tE (aB (bW λx y=>decide (x<y)) (eN "i") (eN "ai"))) (aU (tE (aB (bW λx y=>decide (x<y)) (eN "j") (eN "bj"))) (tK true))) (aD (aX "tag" (eK (.str "replace"))) (sK .next)) (aD (sIf (tE (aB (bW λx y=>decide (x<y)) (eN "i") (eN "ai"))) (aD (aX "tag" (eK (.str "delete"))) (sK .next)) (aD (sIf (tE (aB (bW λx y=>decide (x<y)) (eN "j") (eN "bj"))) (aD (aX "tag" (eK (.str "insert"))) (sK .next)) (sK .next)) (sK .next))) (sK .next))) R)
noncomputable def oB:SF:=oBR oR
section
variable {s ans:Nat}{i j:Int}{u1 u2 u3 u4:Option V}{t:T3}
theorem oT_i(q:oB (oX s ans i j t u4) H K):oT t.v (oL s ans i j u1 u2 u3 u4) H λlo1 H1=>oB lo1 H1 K:=by
 refine kch (B:=(3=3/\oB (upd (upd (upd (oL s ans i j u1 u2 u3 u4) "ai" (.int t.i)) "bj" (.int t.j)) "size" (.int t.k)) H K)) ⋯ ⟨rfl,?_⟩
 unfold oL
 rw [aA,aA,aA]
 exact q
theorem aDw{x y:Str}(q:oR (oX s ans i j t (some (.str y))) H K):oR (upd (upd (oX s ans i j t u4) "tag" (.str x)) "tag" (.str y)) H K:=by
 unfold oX oL
 rw [aA,aA]
 exact q
theorem o_tag0{x:Str}(q:oR (oX s ans i j t (some (.str x))) H K):oR (upd (oX s ans i j t u4) "tag" (.str x)) H K:=by
 unfold oX oL
 rw [aA]
 exact q
theorem oB_nf(R:SF):oBR R (oX s ans i j t u4) H K=(bif decide (i<t.i) then bif decide (j<t.j) then R (upd (upd (oX s ans i j t u4) "tag" (.str "")) "tag" (.str "replace")) H K
   else(bif decide (i<t.i) then R (upd (upd (oX s ans i j t u4) "tag" (.str "")) "tag" (.str "delete")) H K else bif decide (j<t.j) then R (upd (upd (oX s ans i j t u4) "tag" (.str "")) "tag" (.str "insert")) H K else R (upd (oX s ans i j t u4) "tag" (.str "")) H K)
  else(bif decide (i<t.i) then R (upd (upd (oX s ans i j t u4) "tag" (.str "")) "tag" (.str "delete")) H K else bif decide (j<t.j) then R (upd (upd (oX s ans i j t u4) "tag" (.str "")) "tag" (.str "insert")) H K else R (upd (oX s ans i j t u4) "tag" (.str "")) H K)):=by rfl'
theorem t_rep:Str.ofString "replace" =Tg.s .rep:=rfl
theorem t_del:Str.ofString "delete" =Tg.s .del:=rfl
theorem t_ins:Str.ofString "insert" =Tg.s .ins:=rfl
theorem oR_0:oR (oX s ans i j t (some (.str ""))) H K=oR2 (oX s ans i j t (some (.str ""))) H K:=by rfl'
theorem oR_1(g:Tg):oR (oX s ans i j t (some (.str g.s))) H K=oP1 (oX s ans i j t (some (.str g.s))) H (bH oR2 K):=by cases g<;>kernel_rfl
theorem oP1_i{x:Str}{vs:List V}(h:H[ans]? =some (.list vs))(hl:vs.length<1000000)(k:K .next (oX s ans i j t (some (.str x))) (H.set ans (.list (vs++[.tup [.str x,.int i,.int t.i,.int j,.int t.j]])))):oP1 (oX s ans i j t (some (.str x))) H K:=by
 unfold oP1
 exact aS (iG (v:=.tup [.str x,.int i,.int t.i,.int j,.int t.j]) (K:=bH (sK .next) K) ⋯ (λH Q q=>kch (B:=(5<100/\Q (.tup [.str x,.int i,.int t.i,.int j,.int t.j]) H)) ⋯ ⟨by decide,q⟩) h hl k)
theorem oR2_i(q:oR3 (oX s ans (t.i+t.k) (t.j+t.k) t u4) H K):oR2 (oX s ans i j t u4) H K:=by
 refine kch (B:=(2<100/\2=2/\oR3 (upd (upd (oX s ans i j t u4) "j" (.int (t.j+t.k))) "i" (.int (t.i+t.k))) H K)) ⋯ ⟨by decide,rfl,?_⟩
 unfold oX oL
 rw [aA,aA]
 exact q
theorem oR3_nf:oR3 (oX s ans i j t u4) H K=(bif t.k != 0 then oP2 (oX s ans i j t u4) H (bH (sK .next) K) else K .next (oX s ans i j t u4) H):=by rfl'
theorem oP2_i{vs:List V}(h:H[ans]? =some (.list vs))(hl:vs.length<1000000)(k:K .next (oX s ans i j t u4) (H.set ans (.list (vs++[Op.v ⟨.eq,t.i,i,t.j,j⟩])))):oP2 (oX s ans i j t u4) H K:=by
 unfold oP2
 exact aS (iG (v:=Op.v ⟨.eq,t.i,i,t.j,j⟩) (K:=bH (sK .next) K) ⋯ (λH Q q=>kch (B:=(5<100/\Q (Op.v ⟨.eq,t.i,i,t.j,j⟩) H)) ⋯ ⟨by decide,q⟩) h hl k)
theorem oR2_k{acc:List Op}(h:H[ans]? =some (.list (acc.map Op.v)))(hl:acc.length<1000000)(k:∀ {H'},Ex H H' ans->H'[ans]? =some (.list ((acc++if t.k=0 then [] else [Op.mk .eq t.i (t.i+t.k) t.j (t.j+t.k)]).map Op.v))->K .next (oX s ans (t.i+t.k) (t.j+t.k) t u4) H'):
  oR2 (oX s ans i j t u4) H K:=by
 refine oR2_i (kch oR3_nf ?_)
 by_cases q:t.k=0
 ·rw[if_pos q,List.append_nil]at k
  rw [show (t.k != 0)=false from by rw[q];rfl]
  exact bL (k (λ_ _ _ e=>e) h)
 ·rw[if_neg q,List.map_append]at k
  rw [show (t.k != 0)=true from bne_iff_ne.mpr q]
  exact bY (oP2_i (K:=bH (sK .next) K) h (by rw[List.length_map];exact hl) (k .set (aJ h _)))
theorem oR_k(g:Tg){acc:List Op}(h:H[ans]? =some (.list (acc.map Op.v)))(hl:acc.length<999999)(k:∀ {H'},Ex H H' ans->H'[ans]? =some (.list (((acc++[Op.mk g i t.i j t.j])++if t.k=0 then [] else [Op.mk .eq t.i (t.i+t.k) t.j (t.j+t.k)]).map Op.v))->K .next (oX s ans (t.i+t.k) (t.j+t.k) t (some (.str g.s))) H'):
  oR (oX s ans i j t (some (.str g.s))) H K:=by
 refine kch (oR_1 g) (oP1_i (K:=bH oR2 K) h (by rw[List.length_map];exact Nat.lt_trans hl (by decide)) (oR2_k (K:=K) (acc:=acc++[Op.mk g i t.i j t.j]) ?_ ?_ λe h'=>k (Ex.set.trans e) h'))
 ·rw[List.map_append];exact aJ h _
 ·rw[List.length_append];exact Nat.succ_lt_succ hl
theorem oB_k{acc:List Op}(h:H[ans]? =some (.list (acc.map Op.v)))(hl:acc.length<999999)(k:∀ {H' u},Ex H H' ans->H'[ans]? =some (.list ((acc++(gap i j t.i t.j++if t.k=0 then [] else [Op.mk .eq t.i (t.i+t.k) t.j (t.j+t.k)])).map Op.v))->K .next (oX s ans (t.i+t.k) (t.j+t.k) t u) H'):
  oB (oX s ans i j t u4) H K:=by
 refine kch (oB_nf oR) ?_
 unfold gap at k
 by_cases q1:i<t.i
 ·by_cases q2:j<t.j
  ·rw[if_pos q1,if_pos q2,<-List.append_assoc]at k
   rw [decide_eq_true q1,decide_eq_true q2]
   rw [t_rep]
   exact bY (bY (aDw (oR_k .rep h hl k)))
  ·rw[if_pos q1,if_neg q2,<-List.append_assoc]at k
   rw [decide_eq_true q1,decide_eq_false q2]
   rw [t_del]
   exact bY (bL (bY (aDw (oR_k .del h hl k))))
 ·by_cases q2:j<t.j
  ·rw[if_neg q1,if_pos q2,<-List.append_assoc]at k
   rw [decide_eq_false q1,decide_eq_true q2]
   rw [t_ins]
   exact bL (bL (bY (aDw (oR_k .ins h hl k))))
  ·rw[if_neg q1,if_neg q2,List.nil_append]at k
   rw [decide_eq_false q1,decide_eq_false q2]
   exact bL (bL (bL (o_tag0 (kch oR_0 (oR2_k h (Nat.lt_trans hl (by decide)) k)))))
end
inductive OI(s ans:Nat)(G:MH)(all:List Op)(rest:List V)(lo:Lo)(H:MH):Prop
 |mk {u1 u2 u3 u4:Option V}{i j:Int}{acc:List Op}{l:List T3} (el:lo=oL s ans i j u1 u2 u3 u4) (er:rest=l.map T3.v) (hx:Ex G H ans) (hn:H[ans]? =some (.list (acc.map Op.v)))
   (e:acc++ops i j l=all) (n:acc.length+2*l.length<=100000):OI s ans G all rest lo H
theorem o_step{s ans:Nat}{G:MH}{all:List Op}{v:V}{rest:List V}(I:OI s ans G all (v :: rest) lo H)(go:GoK (OI s ans G all rest) Q K):oT v lo H λlo1 H1=>oB lo1 H1 K:=by
 cases I with
 | @mk u1 u2 u3 u4 i j acc l el er hx hn e n=>
 refine b8 (List.map_eq_cons_iff.mp er.symm) λx l' e1 e2 e3=>?_
 subst e1 e2 e3 el
 rw [List.length_cons]at n
 rw [aDt]at e
 refine oT_i (oB_k hn (A197 n) λ{H' u} e' h'=>go.nx (.mk rfl rfl (hx.trans e') h' ?_ ?_))
 ·rw[List.append_assoc,List.append_assoc];exact e
 ·have g1:(gap i j x.i x.j).length<=1:=by
   unfold gap
   split<;>split<;>first |exact Nat.le_refl 1 |exact Nat.zero_le 1
  have g2:(if x.k=0 then [] else [(⟨.eq,x.i,x.i+x.k,x.j,x.j+x.k⟩:Op)]).length<=1:=by
   split
   ·exact Nat.zero_le 1
   ·exact Nat.le_refl 1
  rw [List.length_append,List.length_append]
  exact A198 n g1 g2
end
section
variable {C:Cx}{H:MH}{a b:List Int}
theorem aDy{s r:Nat}{m m':MO}(h:H[s]? =some m)(h':H[r]? =some m')(n:m≠m'):s≠r:=λz=>by
 subst z
 exact n (Option.some.inj (h.symm.trans h'))
theorem Ex.li{H':MH}{s r:Nat}{fs:Str->Option V}{l:List Int}(e:Ex H H' s)(h:H[s]? =some (.inst fs))(q:LI H r l):LI H' r l:=by
 refine xEA (Option.bind_eq_some_iff.mp q) λi hi q=>?_
 refine xEA (Option.bind_eq_some_iff.mp q) λm hm q=>?_
 refine Option.bind_eq_some_iff.mpr ⟨i,hi,Option.bind_eq_some_iff.mpr ⟨m,e _ _ (aDy h hm λz=>?_) hm,q⟩⟩
 subst z
 cases q
theorem SM.ex{H':MH}{s ra rb rd rj n:Nat}{fs fs':Str->Option V}{f:Int->Option V}(S:SM H s ra rb rd rj n fs f a b)(e:Ex H H' s)(o:H'[s]? =some (.inst fs'))(ea:fs' "a" =fs "a")(eb:fs' "b" =fs "b")(ed:fs' "b2j" =fs "b2j")(ej:fs' "bjunk" =fs "bjunk"):
  SM H' s ra rb rd rj n fs' f a b:=
 ⟨o,ea.trans S.fa,eb.trans S.fb,ed.trans S.fd,ej.trans S.fj,e.li S.o S.ia,e.li S.o S.ib,e _ _ (aDy S.o S.d nofun) S.d,e _ _ (aDy S.o S.j nofun) S.j,λv=>(S.bj v).imp_right fun⟨r,js,h1,h2,h3⟩=>⟨r,js,h1,e.li S.o h2,h3⟩,S.al,S.bl⟩
noncomputable def oN(s i j ans:Option V):Nv:=[("self",s),("i",i),("j",j),("answer",ans),("ai",none),("bj",none),("size",none),("tag",none)]
theorem oN_0{s:Nat}:loB ["self"] [.ref s] lo0=look (oN (some (.ref s)) none none none):=by
 rw [<-c8 (oN none none none none) ⋯]
 show upd _ "self" (.ref s)=_
 rw [aA];kernel_rfl
noncomputable def oR5(X:XX C):SF:=aD (eL X) (sK .next)
noncomputable def oR4(X:XX C):SF:=aD (eM X) (oR5 X)
noncomputable def oRA(X:XX C)(R:SF):SF:=aD (eP X) (aD (eO X) R)
theorem aHj(X:XX C){s:Nat}{Q:EK}:bU X [.ref s] H Q=(1=1/\At s "opcodes" H λv=>Lp (oIs not v .none H) λv H1=>Lf (tr v H1) λb=>bif b then At s "opcodes" H1 λv=>Q v H1 else oRA X (oR4 X) (loB ["self"] [.ref s] lo0) H1 (kD Q)):=by rfl'
theorem o_23(X:XX C)(R:SF){s:Nat}{K:SK}:oRA X R (look (oN (some (.ref s)) none none none)) H K=(St s "opcodes" (.ref H.length) (H++[.list []]) λH2=>R (upd (upd (upd (look (oN (some (.ref s)) none none none)) "i" (.int 0)) "j" (.int 0)) "answer" (.ref H.length)) H2 K):=by rfl'
theorem o_4(X:XX C){s ans:Nat}{K:SK}:oR4 X (oL s ans 0 0 none none none none) H K=((∃ ff,H[s]? =some (.inst ff))/\bN X [.ref s] H λv H2=>Lf v.rf λi=>(∃ vs,lst H2 (.ref i)=some vs)/\∃ n,cW (aT C) oT oB n (i,0) (oL s ans 0 0 none none none none) H2 (bH (oR5 X) K)):=by rfl'
theorem o_5(X:XX C){s ans:Nat}{i j:Int}{u1 u2 u3 u4:Option V}{Q:EK}:oR5 X (oL s ans i j u1 u2 u3 u4) H (kD Q)=Q (.ref ans) H:=by rfl'
noncomputable def fsO(fs:Str->Option V)(ans r:Nat):Str->Option V:=fput (fput fs "opcodes" (.ref ans)) "matching_blocks" (.ref r)
theorem zK:∀ (l:List T3) (i j:Int),(ops i j l).length<=2*l.length
 | [],_,_=>Nat.le_refl _
 |t :: l,i,j=>by
  have ih:=zK l (t.i+t.k) (t.j+t.k)
  have g1:(gap i j t.i t.j).length<=1:=by
   unfold gap
   split<;>split<;>first |exact Nat.le_refl 1 |exact Nat.zero_le 1
  have g2:(if t.k=0 then [] else [Op.mk .eq t.i (t.i+t.k) t.j (t.j+t.k)]).length<=1:=by
   split
   ·exact Nat.zero_le 1
   ·exact Nat.le_refl 1
  rw [aDt,List.length_append,List.length_append,List.length_cons]
  exact A199 ih g1 g2
theorem go_ok(X:XX C){s ra rb rd rj n:Nat}{fs:Str->Option V}{f:Int->Option V}{Q:EK}(S:SM H s ra rb rd rj n fs f a b)(hm:fs "matching_blocks" =some .none)(ho:fs "opcodes" =some .none)(al:a.length<64)(ok:∀ r,Run a b [⟨0,a.length,0,b.length⟩] [] r->okSort (r.map T3.v))
  (len:∀ bl,Blocks a b bl->bl.length<=1000)
  (k:∀ {H' r bl},Ex H H' s->H.length≠s->H'[s]? =some (.inst (fsO fs H.length r))->H'[H.length]? =some (.list ((ops 0 0 bl).map Op.v))->Blocks a b bl->Q (.ref H.length) H'):bU X [.ref s] H Q:=by
 refine kch (aHj X) ⟨rfl,At.mk S.o ho (Lp.mk (v:=.bool false) (H:=H) rfl (Lf.mk (p:=false) rfl (bL ?_)))⟩
 rw [oN_0]
 have x1:=Hx.app H [MO.list []]
 have ns:H.length≠s:=aR S.o
 refine kch (o_23 X (oR4 X)) (St.mk (x1 _ _ S.o) ?_)
 rw [aA,aA,aA]
 have s2:=aJ (x1 _ _ S.o) (.inst (fput fs "opcodes" (.ref H.length)))
 have a2:((H++[MO.list []]).set s (.inst (fput fs "opcodes" (.ref H.length))))[H.length]? =some (.list []):=aG (aY _ _) ns.symm
 have e2:Ex H ((H++[MO.list []]).set s (.inst (fput fs "opcodes" (.ref H.length)))) s:=λj m n e=>aG (x1 _ _ e) n
 have S2:=S.ex e2 s2 ⋯ ⋯ ⋯ ⋯
 refine kch (o_4 X) ⟨⟨_,s2⟩,gmb_ok X S2 (kch (B:=fs "matching_blocks" =some .none) ⋯ hm) al ok λ{H3 r bl} e3 hr rs s3 h3 B=>Lf.mk (p:=r) rfl ⟨⟨_,aF h3⟩,_,eG (OI s H.length H3 (ops 0 0 bl)) (λI=>?_) (λI=>?_) (λI go=>o_step I go) (bl.map T3.v) 0 rfl
  (.mk (acc:=[]) rfl rfl (λ_ _ _ e=>e) (e3 _ _ ns.symm a2) rfl (by have:=len bl B;rw[List.length_nil];exact A200 this))⟩⟩
 ·cases I with
  |mk el er hx=>exact aF (hx _ _ (λz=>by rw[<-z,a2]at hr;cases hr) h3)
 ·cases I with
  | @mk u1 u2 u3 u4 i j acc l el er hx hn e n=>
  subst el
  cases List.map_eq_nil_iff.mp er.symm
  rw [ops_n,List.append_nil]at e
  subst e
  exact kch (o_5 X) (k (λj m q h=>hx _ _ (λz=>by rw[<-z,aL]at h;cases h) (e3 _ _ q (e2 _ _ q h))) ns (hx _ _ ns s3) hn B)
end
section
variable {C:Cx}{H:MH}{a b:List Int}
theorem Run.okSort{r:List T3}(h:Run a b [⟨0,a.length,0,b.length⟩] [] r)(al:a.length<64):okSort (r.map T3.v):=by
 refine⟨λv hv=>?_,List.pairwise_map.mpr h.sorted.1,by rw[List.length_map];exact Nat.lt_of_le_of_lt h.len al⟩
 refine xEA (List.mem_map.mp hv) λt _ e=>?_
 exact e▸rfl
theorem Blocks.len{l:List T3}(h:Blocks a b l)(al:a.length<64):l.length<=1000:=by
 refine xEA h λr h1 h2=>?_
 have:=n6 (isort T3.i r) ⟨0,0,0⟩
 rw [(cJ T3.i r).length_eq]at this
 have:=h1.len
 rw [h2,List.length_append,List.length_singleton]
 omega
noncomputable def Ops(a b:List Int)(l:List Op):Prop:=∃ bl,Blocks a b bl/\l=ops 0 0 bl
theorem Ops.uniq{l l':List Op}(h:Ops a b l)(h':Ops a b l'):l=l':=by
 refine xEA h λr h1 h2=>?_
 refine xEA h' λr' h3 h4=>?_
 rw [h2,h4,h1.uniq h3]
theorem Ops.cod{l:List Op}(h:Ops a b l):Cod a b none 0 0 l:=by
 refine xEA h λbl z184 z185=>?_;clear h;obtain⟨r,h1,rfl⟩:=z184;subst z185
 exact(nad_0 h1.sorted.2).cod (Int.natCast_nonneg _) (Int.natCast_nonneg _)
theorem pQ(X:XX C){s ra rb rd rj n:Nat}{fs:Str->Option V}{f:Int->Option V}{Q:EK}(S:SM H s ra rb rd rj n fs f a b)(hm:fs "matching_blocks" =some .none)(ho:fs "opcodes" =some .none)(al:a.length<64)
  (k:∀ {H' r l},Ex H H' s->H.length≠s->H'[s]? =some (.inst (fsO fs H.length r))->H'[H.length]? =some (.list (l.map Op.v))->Ops a b l->Q (.ref H.length) H'):bU X [.ref s] H Q:=
 go_ok X S hm ho al (λr h=>h.okSort al) (λbl h=>h.len al) λe1 e2 e3 e4 B=>k e1 e2 e3 e4 ⟨_,B,rfl⟩
end
section
variable {C:Cx}{H:MH}{K Q:SK}{a b:List Int}
noncomputable def Tg.isEq:Tg->Bool | .eq=>true |_=>false
noncomputable def Op.hd(o:Op)(n:Int):Op:=⟨o.tag,o.i1,min o.i2 (o.i1+n),o.j1,min o.j2 (o.j1+n)⟩
noncomputable def Op.tl(o:Op)(n:Int):Op:=⟨o.tag,max o.i1 (o.i2-n),o.i2,max o.j1 (o.j2-n),o.j2⟩
noncomputable def rZ(n:Int)(o:Op):Bool:=o.tag.isEq && decide (o.i2-o.i1>n+n)
noncomputable def j3(cur:List Op):Bool:=match cur with | []=>false | [o]=> !o.tag.isEq |_=>true
noncomputable def grps(n:Int)(cur:List Op):List Op->List (List Op)
 | []=>bif j3 cur then [cur] else []
 |o :: l=>bif rZ n o then(cur++[o.hd n]) :: grps n [o.tl n] l else grps n (cur++[o]) l
theorem aE8(n:Int)(cur:List Op):grps n cur []=bif j3 cur then [cur] else []:=rfl
theorem jE(n:Int)(cur:List Op)(o:Op)(l:List Op):grps n cur (o :: l)=bif rZ n o then(cur++[o.hd n]) :: grps n [o.tl n] l else grps n (cur++[o]) l:=rfl
noncomputable def t7(n:Int):List Op->List Op
 | []=>[]
 |o :: l=>(bif o.tag.isEq then o.tl n else o) :: l
noncomputable def gR(n:Int):List Op->List Op
 | []=>[]
 | [o]=>[bif o.tag.isEq then o.hd n else o]
 |o :: l=>o :: gR n l
noncomputable def gV:List Op->List Op
 | []=>[⟨.eq,0,1,0,1⟩]
 |l=>l
noncomputable def groups(n:Int)(l:List Op):List (List Op):=grps n [] (gR n (t7 n (gV l)))
noncomputable def kL(s:Nat)(n:Int)(cd:Nat)(gr:Nat)(u1 u2 u3 u4 u5:Option V):Lo:=
 look [("self",some (.ref s)),("n",some (.int n)),("codes",some (.ref cd)),("nn",some (.int (n+n))),("group",some (.ref gr)),("tag",u1),("i1",u2),("i2",u3),("j1",u4),("j2",u5)]
noncomputable def kX(s:Nat)(n:Int)(cd gr:Nat)(o:Op):Lo:=kL s n cd gr (some (.str o.tag.s)) (some (.int o.i1)) (some (.int o.i2)) (some (.int o.j1)) (some (.int o.j2))
section
variable {s cd gr:Nat}{n:Int}{u1 u2 u3 u4 u5:Option V}{o:Op}
theorem gtgt_i(X:XX C){R:Lo->MH->Prop}(q:R (kX s n cd gr o) H):aFc X o.v (kL s n cd gr u1 u2 u3 u4 u5) H R:=by
 refine kch (B:=(5=5/\R (upd (upd (upd (upd (upd (kL s n cd gr u1 u2 u3 u4 u5) "tag" (.str o.tag.s)) "i1" (.int o.i1)) "i2" (.int o.i2)) "j1" (.int o.j1)) "j2" (.int o.j2)) H)) ⋯ ⟨rfl,?_⟩
 unfold kL
 rw [aA,aA,aA,aA,aA]
 exact q
theorem oF(H:MH)(g:Tg):eqv H (.str g.s) (.str "equal")=some g.isEq:=by cases g<;>kernel_rfl
theorem gfc_i(X:XX C){P:Bool->MH->Prop}(q:P (rZ n o) H):g_fc X (kX s n cd gr o) H P:=by
 refine kch (B:=(Lp (bB id (.str o.tag.s) (.str "equal") H) λv H1=>Lf (tr v H1) λt=>bif t then(bif decide (o.i2-o.i1>n+n) then P true H1 else P false H1) else P false H1)) ⋯
  (Lp.mk (v:=.bool o.tag.isEq) (H:=H) (by unfold bB;rw[oF];rfl) (Lf.mk (p:=o.tag.isEq) rfl ?_))
 unfold rZ at q
 cases e:o.tag.isEq with
 |false=>rw [e]at q;exact q
 |true=>
  rw [e,Bool.true_and]at q
  cases e2:decide (o.i2-o.i1>n+n) with
  |false=>rw [e2]at q;exact q
  |true=>rw [e2]at q;exact q
theorem gf1_i(X:XX C){vs:List V}(h:H[gr]? =some (.list vs))(hl:vs.length<1000000)(k:K .next (kX s n cd gr o) (H.set gr (.list (vs++[(o.hd n).v])))):g_f1 X (kX s n cd gr o) H K:=
 iG (v:=(o.hd n).v) (K:=K) ⋯ (λH Q q=>kch (B:=(5<100/\Q (o.hd n).v H)) ⋯ ⟨by decide,q⟩) h hl k
theorem gf3_i(X:XX C){vs:List V}(h:H[gr]? =some (.list vs))(hl:vs.length<1000000)(k:K .next (kX s n cd gr o) (H.set gr (.list (vs++[o.v])))):g_f3 X (kX s n cd gr o) H K:=
 iG (v:=o.v) (K:=K) ⋯ (λH Q q=>kch (B:=(5<100/\Q o.v H)) ⋯ ⟨by decide,q⟩) h hl k
theorem gf2_i(X:XX C)(k:K .next (kX s n cd H.length (o.tl n)) (H++[.list []])):g_f2 X (kX s n cd gr o) H K:=by
 refine kch (B:=(2<100/\2=2/\K .next (upd (upd (upd (kX s n cd gr o) "group" (.ref H.length)) "j1" (.int (max o.j1 (o.j2-n)))) "i1" (.int (max o.i1 (o.i2-n)))) (H++[.list []]))) ⋯ ⟨by decide,rfl,?_⟩
 unfold kX kL
 rw [aA,aA,aA]
 exact k
end
end
section
variable {C:Cx}{H:MH}{a b:List Int}
section
variable {s cd gr:Nat}{n:Int}{u1 u2 u3 u4 u5:Option V}
theorem aIa(X:XX C){P:Bool->MH->Prop}:zZ X (kL s n cd gr u1 u2 u3 u4 u5) H P=(Lf (tr (.ref gr) H) λt=>bif t then
  Lp ((lst H (.ref gr)).bind λxs=>if xs.length<1000000 then some (.int xs.length,H) else none) λm H1=>Lp (bB id m (.int 1) H1) λv H2=>Lf (tr v H2) λt=>bif t then
   (Lp (aI (.ref gr) (.int 0) H2) λv H3=>Lp (aI v (.int 0) H3) λv H4=>Lp (bB id v (.str "equal") H4) λv H5=>Lf (tr v H5) λt=>bif t then(bif !true then P true H5 else P false H5) else(bif !false then P true H5 else P false H5))
   else(bif !false then P true H2 else P false H2)
  else P false H):=by rfl'
theorem gfc2_i(X:XX C){P:Bool->MH->Prop}{cur:List Op}(h:H[gr]? =some (.list (cur.map Op.v)))(hl:cur.length<1000000)(q:P (j3 cur) H):zZ X (kL s n cd gr u1 u2 u3 u4 u5) H P:=by
 have hl':(cur.map Op.v).length<1000000:=by rw[List.length_map];exact hl
 refine kch (aIa X) (Lf.mk (sT h hl') ?_)
 have len:((lst H (.ref gr)).bind λxs=>if xs.length<1000000 then some (V.int xs.length,H) else none)=some (.int (cur.map Op.v).length,H):=by
  rw [aF h]
  exact if_pos hl'
 match cur,h,len,q with
 | [],h,len,q=>exact q
 | [o],h,len,q=>
  refine bY (Lp.mk len (Lp.mk (v:=.bool true) (H:=H) ⋯ (Lf.mk (p:=true) rfl (bY (Lp.mk (v:=o.v) (H:=H) ?_ (Lp.mk (v:=.str o.tag.s) (H:=H) rfl (Lp.mk (v:=.bool o.tag.isEq) (H:=H) ?_ (Lf.mk (p:=o.tag.isEq) rfl ?_))))))))
  ·show((lst H (.ref gr)).bind (at_ 0)).map _=_
   rw [aF h];rfl
  ·unfold bB;rw[oF];rfl
  ·have q:P (!o.tag.isEq) H:=q
   cases e:o.tag.isEq with
   |false=>rw [e]at q;exact q
   |true=>rw [e]at q;exact q
 |o :: o2 :: l,h,len,q=>
  refine bY (Lp.mk len (Lp.mk (v:=.bool false) (H:=H) ?_ (Lf.mk (p:=false) rfl (bL (bY q)))))
  have e:(((o :: o2 :: l).map Op.v).length:Int)≠1:=by rw[List.length_map,List.length_cons,List.length_cons];exact A204
  unfold bB
  rw [aIj,decide_eq_false e];rfl
end
noncomputable def Ex2(H H':MH)(i i':Nat):Prop:=∀ (j:Nat) (m:MO),i≠j->i'≠j->H[j]? =some m->H'[j]? =some m
theorem Ex2.trans{H H1 H2:MH}{i i':Nat}(h:Ex2 H H1 i i')(h':Ex2 H1 H2 i i'):Ex2 H H2 i i':=λj m n n' e=>h' j m n n' (h j m n n' e)
theorem Ex2.set{H:MH}{i i':Nat}{m m':MO}:Ex2 H ((H.set i m).set i' m') i i':=λj x n n' e=>aG (aG e n) n'
theorem Ex2.set1{H:MH}{i i':Nat}{m:MO}:Ex2 H (H.set i m) i i':=λj x n n' e=>aG e n
theorem iv_of{i:Nat}{p:Nat×Nat}(h:H[i]? =some (.itr (some p))):H[i]?.bind MO.iv=some p:=by rw[h];rfl
structure OutK(s:Nat)(n:Int)(cd it gr:Nat)(all:List Op)(p0:Nat)(H:MH)(gs:List (List Op))(Q:mA->MH->Prop):Prop where
 yl:∀ {H' o p g},Ex2 H H' it gr->H'[it]? =some (.itr (some (cd,p)))->H'[gr]? =some (.list (g.map Op.v))->gs=g :: grps n [o.tl n] (all.drop p)->p0<p->p<=all.length->Q (.yl it (kX s n cd gr o) (.ref gr)) H'
 yr:∀ {H' lo g},Ex2 H H' it gr->H'[gr]? =some (.list (g.map Op.v))->gs= [g]->Q (.yr lo (.ref gr)) H'
 dn:∀ {H'},Ex2 H H' it gr->gs= []->Q .done H'
theorem tT(X:XX C){s cd it gr:Nat}{n:Int}{all:List Op}{Q:mA->MH->Prop}{p0:Nat}(ci:it≠cd)(gi:it≠gr)(cg:gr≠cd):∀ (rest:List Op){cur:List Op}{p:Nat}{H:MH}{u1 u2 u3 u4 u5:Option V},
  p0<=p->all.drop p=rest->H[cd]? =some (.list (all.map Op.v))->H[it]? =some (.itr (some (cd,p)))->H[gr]? =some (.list (cur.map Op.v))->cur.length+rest.length<=1000->OutK s n cd it gr all p0 H (grps n cur rest) Q->
  (gfn X).loopN (rest.length+1) it (kL s n cd gr u1 u2 u3 u4 u5) H Q
 | [],cur,p,H,u1,u2,u3,u4,u5,h0,hd,hc,hi,hg,hl,K=>by
  refine Lf.mk (iv_of hi) (Lf.mk (aF hc) ?_)
  show(match (all.map Op.v)[p]? with |some v=>_ |none=>(gfn X).tail _ (H.set it (.itr none)) Q)
  rw [List.getElem?_eq_none (by rw[List.length_map];exact List.drop_eq_nil_iff.mp hd)]
  have hg':=aG (m':=.itr none) hg gi
  refine gfc2_i X hg' (by rw[List.length_nil]at hl;exact A205 hl) ?_
  cases e:j3 cur with
  |false=>exact bL (K.dn .set1 (by rw[aE8,e];rfl))
  |true=>exact bY (kch (B:=Q (.yr (kL s n cd gr u1 u2 u3 u4 u5) (.ref gr)) (H.set it (.itr none))) ⋯ (K.yr .set1 hg' (by rw[aE8,e];rfl)))
 |o :: rest,cur,p,H,u1,u2,u3,u4,u5,h0,hd,hc,hi,hg,hl,K=>by
  have hp:all[p]? =some o:=by rw[<-List.head?_drop,hd];rfl
  have hpl:p+1<=all.length:=(List.getElem?_eq_some_iff.mp hp).1
  have hd':all.drop (p+1)=rest:=by rw[<-List.drop_drop,hd];rfl
  rw [List.length_cons]at hl
  have cl:(cur.map Op.v).length<1000000:=by rw[List.length_map];exact A191 hl
  refine Lf.mk (iv_of hi) (Lf.mk (aF hc) ?_)
  show(match (all.map Op.v)[p]? with |some v=>_ |none=>_)
  rw [List.getElem?_map,hp]
  have hg':=aG (m':=.itr (some (cd,p+1))) hg gi
  have hi':=aJ hi (.itr (some (cd,p+1)))
  refine gtgt_i X (gfc_i X ?_)
  cases e:rZ n o with
  |true=>
   refine bY (gf1_i X hg' cl (kch (B:=Q (.yl it (kX s n cd gr o) (.ref gr)) ((H.set it (.itr (some (cd,p+1)))).set gr (.list (cur.map Op.v++[(o.hd n).v])))) ⋯ (K.yl (g:=cur++[o.hd n]) .set (aG hi' gi.symm) ?_ ?_ (Nat.lt_succ_of_le h0) hpl)))
   ·rw[List.map_append];exact aJ hg' _
   ·rw[jE,e,hd'];rfl
  |false=>
   refine bL (gf3_i X hg' cl ?_)
   refine tT X ci gi cg rest (cur:=cur++[o]) (p:=p+1) (Nat.le_succ_of_le h0) hd' (aG (aG hc ci) cg) (aG hi' gi.symm) ?_ ?_ ?_
   ·rw[List.map_append];exact aJ hg' _
   ·rw[List.length_append,List.length_singleton];exact A192 hl
   ·have eg:grps n (cur++[o]) rest=grps n cur (o :: rest):=by rw[jE,e];rfl
    rw [eg]
    exact⟨λe1=>K.yl (Ex2.set.trans e1),λe1=>K.yr (Ex2.set.trans e1),λe1=>K.dn (Ex2.set.trans e1)⟩
end
section
variable {C:Cx}{H:MH}{a b:List Int}
theorem zX{i:Nat}{g:Gn}(h:H[i]? =some (.gen g)):H[i]?.bind MO.gn=some g:=by rw[h];rfl
inductive GsA(H:MH)(it gi ai:Nat):List Nat->List (List Op)->Prop
 |nil:GsA H it gi ai [] []
 |cons {r:Nat}{g:List Op}{rs:List Nat}{gs:List (List Op)} (h:H[r]? =some (.list (g.map Op.v))) (n1:it≠r) (n2:gi≠r) (n3:ai≠r) (t:GsA H it gi ai rs gs):GsA H it gi ai (r :: rs) (g :: gs)
theorem GsA.to{H':MH}{it gi ai:Nat}{rs:List Nat}{gs:List (List Op)}(h:GsA H it gi ai rs gs)(k:∀ (r:Nat) (m:MO),it≠r->gi≠r->ai≠r->H[r]? =some m->H'[r]? =some m):GsA H' it gi ai rs gs:=by
 induction h with
 |nil=>exact .nil
 |cons h n1 n2 n3 _ ih=>exact .cons (k _ _ n1 n2 n3 h) n1 n2 n3 ih
theorem GsA.snoc{it gi ai r:Nat}{g:List Op}{rs:List Nat}{gs:List (List Op)}(h:GsA H it gi ai rs gs)(h1:H[r]? =some (.list (g.map Op.v)))(n1:it≠r)(n2:gi≠r)(n3:ai≠r):GsA H it gi ai (rs++[r]) (gs++[g]):=by
 induction h with
 |nil=>exact .cons h1 n1 n2 n3 .nil
 |cons h m1 m2 m3 _ ih=>exact .cons h m1 m2 m3 ih
structure GW(B:MH)(s:Nat)(n:Int)(cd it gi ai gr:Nat)(all:List Op)(total:List (List Op))(o:Op)(p:Nat)(rs:List Nat)(H:MH):Prop where
 hx:Hx B H
 g:H[gi]? =some (.gen (.loop it (kX s n cd gr o)))
 c:H[cd]? =some (.list (all.map Op.v))
 i:H[it]? =some (.itr (some (cd,p)))
 a:H[ai]? =some (.list (rs.map V.ref))
 l:rs.length<=p
 pl:p<=all.length
 e:∃ gs,GsA H it gi ai rs gs/\gs++grps n [o.tl n] (all.drop p)=total
structure GO(B:MH)(cd it gi ai:Nat)(all:List Op):Prop where
 bi:B[it]? =none
 bg:B[gi]? =none
 ba:B[ai]? =none
 ic:it≠cd
 ig:it≠gi
 ia:it≠ai
 gc:gi≠cd
 ga:gi≠ai
 ac:ai≠cd
 al:all.length<=900
theorem Ex2.hx{G H H':MH}{i i':Nat}(h:Ex2 H H' i i')(x:Hx G H)(hi:G[i]? =none)(hi':G[i']? =none):Hx G H':=λj m e=>
 h j m (λz=>by rw[z,e]at hi;cases hi) (λz=>by rw[z,e]at hi';cases hi') (x j m e)
noncomputable def exK(X:XX C)(ai gi N:Nat)(P:MH->Prop):Option V->MH->Prop:=λo H'=>match o with
 |none=>P H'
 |some v=>Lf (H'[ai]?.bind MO.own) λvs=>vs.length<1000000/\dV (lF X.gc 6 λL=>X.gv L) ai N gi (H'.set ai (.list (vs++[v]))) P
theorem aFl(X:XX C){ai gi N:Nat}{P:MH->Prop}(h:(gfn X).nx gi H (exK X ai gi N P)):dV (lF X.gc 6 λL=>X.gv L) ai (N+1) gi H P:=by
 refine kch (congrArg ((gfn X).nx gi H) (?_:_=exK X ai gi N P)) h
 funext o H'
 cases o<;>rfl
theorem wR(X:XX C){ai gi N:Nat}{P:MH->Prop}{lo:Lo}(h:H[gi]? =some (.gen (.last lo)))(q:P (H.set gi (.gen .fin))):dV (lF X.gc 6 λL=>X.gv L) ai (N+1) gi H P:=
 aFl X (Lf.mk (zX h) q)
theorem zY(X:XX C){B:MH}{s cd it gi ai:Nat}{n:Int}{all:List Op}{total:List (List Op)}{P:MH->Prop}(O:GO B cd it gi ai all)(k:∀ {H' rs},Hx B H'->H'[ai]? =some (.list (rs.map V.ref))->GsA H' it gi ai rs total->P H'):
  ∀ (N:Nat){gr p:Nat}{o:Op}{rs:List Nat}{H:MH},all.length-p<N->GW B s n cd it gi ai gr all total o p rs H->dV (lF X.gc 6 λL=>X.gv L) ai (N+1) gi H P
 |0,_,_,_,_,_,hN,_=>absurd hN (Nat.not_lt_zero _)
 |N+1,gr,p,o,rs,H,hN,W=>by
  refine aFl X (Lf.mk (zX W.g) ?_)
  show g_f2 X (kX s n cd gr o) (H.set gi (.gen .run)) _
  refine gf2_i X ?_
  have rn:=aJ W.g (.gen .run)
  have keep:∀ (r:Nat) (m:MO),gi≠r->H[r]? =some m->(H.set gi (.gen .run))[r]? =some m:=λr m q e=>aG e q
  have x1:Hx B (H.set gi (.gen .run)):=W.hx.set O.bg
  have c1:=keep _ _ O.gc W.c
  have i1:=keep _ _ O.ig.symm W.i
  have a1:=keep _ _ O.ga W.a
  have gkeep:=λr m (q:gi≠r) e=>keep r m q e
  refine xEA W.e λgs hgs etot=>?_
  have gs1:GsA (H.set gi (.gen .run)) it gi ai rs gs:=hgs.to λr m _ q _ e=>keep r m q e
  have rl:=W.l
  have pl:=W.pl
  have al:=O.al
  revert rn x1 c1 i1 a1 gs1
  generalize H.set gi (.gen .run)=H1
  intro rn x1 c1 i1 a1 gs1
  show g_f3 X (kX s n cd H1.length (o.tl n)) (H1++[.list []]) _
  refine gf3_i X (vs:=[]) (aY _ _) (by decide) ⟨_,tT X (p0:=p) O.ic (aR i1).symm (aR c1) (all.drop p) (cur:=[o.tl n]) (Nat.le_refl _) rfl (aG (Hx.app _ _ _ _ c1) (aR c1)) (aG (Hx.app _ _ _ _ i1) (aR i1)) (aJ (aY _ _) _) ?_ ?_⟩
  ·rw[List.length_drop,List.length_singleton];exact A206 al
  have k3:∀ (r:Nat) (m:MO),H1[r]? =some m->((H1++[MO.list []]).set H1.length (.list ([]++[(o.tl n).v])))[r]? =some m:=λr m e=>aG (Hx.app _ _ _ _ e) (aR e)
  have x3:Hx B ((H1++[MO.list []]).set H1.length (.list ([]++[(o.tl n).v]))):=λr m e=>k3 r m (x1 r m e)
  have fr:B[H1.length]? =none:=x1.fresh
  refine⟨λ{H' o' p' g} e hi hg et h0 hpl=>?_,λ{H' lo g} e hg et=>?_,λ{H'} e et=>?_⟩
  ·have a':=e _ _ O.ia (aR a1) (k3 _ _ a1)
   refine⟨e _ _ O.ig (aR rn) (k3 _ _ rn),Lf.mk (dE (aG a' O.ga)) ⟨by rw[List.length_map];exact A207 rl al h0 hpl,zY (s:=s) (n:=n) X O k N (p:=p') (o:=o') (gr:=H1.length) (rs:=rs++[H1.length]) (A208 hN h0 hpl) ?_⟩⟩
   have r':=e _ _ O.ig (aR rn) (k3 _ _ rn)
   refine⟨((e.hx x3 O.bi fr).set O.bg).set O.ba,aG (aJ r' _) O.ga.symm,aG (aG (e _ _ O.ic (aR c1) (k3 _ _ c1)) O.gc) O.ac,aG (aG hi O.ig.symm) O.ia.symm,?_,?_,hpl,gs++[g],?_,?_⟩
   ·rw[List.map_append];exact aJ (aG a' O.ga) _
   ·rw[List.length_append,List.length_singleton];exact A209 rl h0
   ·exact GsA.snoc (gs1.to λr m n1 n2 n3 q=>aG (aG (e _ _ n1 (aR q) (k3 _ _ q)) n2) n3) (aG (aG hg (aR rn).symm) (aR a1).symm) (aR i1).symm (aR rn).symm (aR a1).symm
   ·rw[List.append_assoc,<-etot,et];rfl
  ·have a':=e _ _ O.ia (aR a1) (k3 _ _ a1)
   have r':=e _ _ O.ig (aR rn) (k3 _ _ rn)
   refine⟨r',Lf.mk (dE (aG a' O.ga)) ⟨by rw[List.length_map];exact A210 rl pl al,?_⟩⟩
   refine wR X (aG (aJ r' _) O.ga.symm) (k (rs:=rs++[H1.length]) ((((e.hx x3 O.bi fr).set O.bg).set O.ba).set O.bg) ?_ ?_)
   ·rw[List.map_append];exact aG (aJ (aG a' O.ga) _) O.ga
   ·rw[<-etot,et]
    exact GsA.snoc (gs1.to λr m n1 n2 n3 q=>aG (aG (aG (e _ _ n1 (aR q) (k3 _ _ q)) n2) n3) n2) (aG (aG (aG hg (aR rn).symm) (aR a1).symm) (aR rn).symm) (aR i1).symm (aR rn).symm (aR a1).symm
  ·have a':=e _ _ O.ia (aR a1) (k3 _ _ a1)
   refine⟨e _ _ O.ig (aR rn) (k3 _ _ rn),k (rs:=rs) ((e.hx x3 O.bi fr).set O.bg) (aG a' O.ga) ?_⟩
   rw [<-etot,et,List.append_nil]
   exact gs1.to λr m n1 n2 n3 q=>aG (e _ _ n1 (aR q) (k3 _ _ q)) n2
end
section
variable {C:Cx}{H:MH}{a b:List Int}
noncomputable def kP(s:Nat)(n:Int)(cd nn gr u1 u2 u3 u4 u5:Option V):Lo:=
 look [("self",some (.ref s)),("n",some (.int n)),("codes",cd),("nn",nn),("group",gr),("tag",u1),("i1",u2),("i2",u3),("j1",u4),("j2",u5)]
theorem kP_0{s:Nat}{n:Int}:loB ["self","n"] [.ref s,.int n] lo0=kP s n none none none none none none none none:=by
 rw [<-c8 [("self",none),("n",none),("codes",none),("nn",none),("group",none),("tag",none),("i1",none),("i2",none),("j1",none),("j2",none)] ⋯]
 show upd (upd (look _) "self" (.ref s)) "n" (.int n)=_
 rw [aA,aA];kernel_rfl
noncomputable def pT:AF:=cU 5 (asC (aN "tag") (asC (aN "i1") (asC (aN "i2") (asC (aN "j1") (asC (aN "j2") asN)))))
section
variable {s cd:Nat}{n:Int}{c1 u1 u2 u3 u4 u5:Option V}{o:Op}{K:SK}
theorem gp_1(X:XX C)(R:SF):aD (t6 X) (aD (t5 X) R) (kP s n none none none u1 u2 u3 u4 u5) H K=((∃ ff,H[s]? =some (.inst ff))/\bU X [.ref s] H λv H1=>R (upd (kP s n none none none u1 u2 u3 u4 u5) "codes" v) H1 K):=by rfl'
theorem gp_2(X:XX C)(R:SF):aD (lM X) R (kP s n (some (.ref cd)) none none u1 u2 u3 u4 u5) H K=(Lf (tr (.ref cd) H) λt=>bif !t then(5<100/\R (upd (kP s n (some (.ref cd)) none none u1 u2 u3 u4 u5) "codes" (.ref H.length)) (H++[.list [Op.v ⟨.eq,0,1,0,1⟩]]) K) else R (kP s n (some (.ref cd)) none none u1 u2 u3 u4 u5) H K):=by rfl'
noncomputable def pA(R:SF):SF:=aD (cY (bT (esC (eN "tag") (esC (aM uQ (esC (eN "i1") (esC (aB cI (eN "i2") (eN "n")) esN))) (esC (eN "i2") (esC (aM uQ (esC (eN "j1") (esC (aB cI (eN "j2") (eN "n")) esN))) (esC (eN "j2") esN)))))) (qV (eN "codes") (eK (.int 0)))) R
noncomputable def pZ(R:SF):SF:=aD (cY (bT (esC (eN "tag") (esC (eN "i1") (esC (aM uP (esC (eN "i2") (esC (aB aH (eN "i1") (eN "n")) esN))) (esC (eN "j1") (esC (aM uP (esC (eN "j2") (esC (aB aH (eN "j1") (eN "n")) esN))) esN)))))) (qV (eN "codes") (jV (eK (.int 1))))) R
theorem gp_3(X:XX C)(R:SF):aD (lL X) R (kP s n (some (.ref cd)) none none u1 u2 u3 u4 u5) H K=(Lp (aI (.ref cd) (.int 0) H) λv H1=>Lp (aI v (.int 0) H1) λw H2=>Lp (bB id w (.str "equal") H2) λe H3=>Lf (tr e H3) λt=>
  bif t then(Lp (aI (.ref cd) (.int 0) H3) λv H4=>pT v (kP s n (some (.ref cd)) none none u1 u2 u3 u4 u5) H4 λlo1 H5=>pA (sK .next) lo1 H5 (bH R K)) else R (kP s n (some (.ref cd)) none none u1 u2 u3 u4 u5) H3 K):=by rfl'
theorem gp_4(X:XX C)(R:SF):aD (lK X) R (kP s n (some (.ref cd)) none none u1 u2 u3 u4 u5) H K=(Lp (aI (.ref cd) (.int (-1)) H) λv H1=>Lp (aI v (.int 0) H1) λw H2=>Lp (bB id w (.str "equal") H2) λe H3=>Lf (tr e H3) λt=>
  bif t then(Lp (aI (.ref cd) (.int (-1)) H3) λv H4=>pT v (kP s n (some (.ref cd)) none none u1 u2 u3 u4 u5) H4 λlo1 H5=>pZ (sK .next) lo1 H5 (bH R K)) else R (kP s n (some (.ref cd)) none none u1 u2 u3 u4 u5) H3 K):=by rfl'
noncomputable def kPX(s:Nat)(n:Int)(cd:Nat)(o:Op):Lo:=kP s n (some (.ref cd)) none none (some (.str o.tag.s)) (some (.int o.i1)) (some (.int o.i2)) (some (.int o.j1)) (some (.int o.j2))
theorem pT_i{R:Lo->MH->Prop}(q:R (kPX s n cd o) H):pT o.v (kP s n (some (.ref cd)) none none u1 u2 u3 u4 u5) H R:=by
 refine kch (B:=(5=5/\R (upd (upd (upd (upd (upd (kP s n (some (.ref cd)) none none u1 u2 u3 u4 u5) "tag" (.str o.tag.s)) "i1" (.int o.i1)) "i2" (.int o.i2)) "j1" (.int o.j1)) "j2" (.int o.j2)) H)) ⋯ ⟨rfl,?_⟩
 unfold kP
 rw [aA,aA,aA,aA,aA]
 exact q
theorem pA_nf(R:SF):pA R (kPX s n cd o) H K=(5<100/\Lf (oSet (.ref cd) (.int 0) (o.tl n).v H) λH'=>R (kPX s n cd o) H' K):=by rfl'
theorem pZ_nf(R:SF):pZ R (kPX s n cd o) H K=(5<100/\Lf (oSet (.ref cd) (.int (-1)) (o.hd n).v H) λH'=>R (kPX s n cd o) H' K):=by rfl'
theorem gp_56(X:XX C):aD (oC X) (aD (oA X) (sK .next)) (kP s n (some (.ref cd)) none none u1 u2 u3 u4 u5) H K=K .next (upd (upd (kP s n (some (.ref cd)) none none u1 u2 u3 u4 u5) "nn" (.int (n+n))) "group" (.ref H.length)) (H++[.list []]):=by rfl'
theorem gp_56n{gr:Nat}:upd (upd (kP s n (some (.ref cd)) none none u1 u2 u3 u4 u5) "nn" (.int (n+n))) "group" (.ref gr)=kL s n cd gr u1 u2 u3 u4 u5:=by
 unfold kP kL
 rw [aA,aA];kernel_rfl
end
theorem o9(n:Nat):seqIndex? (-1) (n+1)=some n:=by
 unfold seqIndex?
 rw [if_pos (by decide:(-1:Int)<0)]
 have e: -1+((n+1:Nat):Int)=n:=A211
 rw [e]
 exact if_pos (by rw[decide_eq_true (Int.natCast_nonneg n),decide_eq_true (by exact A212:(n:Int)<((n+1:Nat):Int))];rfl)
theorem seq_0(n:Nat):seqIndex? 0 (n+1)=some 0:=eR (Int.le_refl 0) A213
theorem mU{cd j:Nat}{i:Int}{vs:List V}{v:V}(h:H[cd]? =some (.list vs))(b: -1000000<i/\i<1000000)(e:seqIndex? i vs.length=some j)(hv:vs[j]? =some v):aI (.ref cd) (.int i) H=some (v,H):=by
 show((lst H (.ref cd)).bind (at_ i)).map _=_
 rw [aF h]
 show(at_ i vs).map _=_
 unfold at_
 rw [if_pos b,e]
 show(vs[j]?).map _=_
 rw [hv];rfl
theorem xG{cd j:Nat}{i:Int}{vs:List V}{v:V}(h:H[cd]? =some (.list vs))(b: -1000000<i/\i<1000000)(e:seqIndex? i vs.length=some j):oSet (.ref cd) (.int i) v H=some (H.set cd (.list (vs.set j v))):=by
 show H[cd]?.bind (setO H cd i v)=_
 rw [h]
 show(if-1000000<i/\i<1000000 then(seqIndex? i vs.length).map λj=>H.set cd (.list (vs.set j v)) else none)=_
 rw [if_pos b,e];rfl
theorem xD{o:Op}{Q:EK}(q:Q (.str o.tag.s) H):Lp (aI o.v (.int 0) H) Q:=Lp.mk (v:=.str o.tag.s) (H:=H) rfl q
theorem n8{g:Tg}{Q:Bool->MH->Prop}(q:Q g.isEq H):Lp (bB id (.str g.s) (.str "equal") H) λe H3=>Lf (tr e H3) λt=>Q t H3:=
 Lp.mk (v:=.bool g.isEq) (H:=H) (by unfold bB;rw[oF];rfl) (Lf.mk (p:=g.isEq) rfl q)
section
variable {s cd:Nat}{n:Int}{u1 u2 u3 u4 u5:Option V}{o:Op}{K:SK}{R:SF}
theorem sH(l:List Op):t7 n (o :: l)=(bif o.tag.isEq then o.tl n else o) :: l:=rfl
theorem gp3_i(X:XX C){l:List Op}(h:H[cd]? =some (.list ((o :: l).map Op.v)))(k:∀ {H' u1 u2 u3 u4 u5},Ex H H' cd->H'[cd]? =some (.list ((t7 n (o :: l)).map Op.v))->R (kP s n (some (.ref cd)) none none u1 u2 u3 u4 u5) H' K):
  aD (lL X) R (kP s n (some (.ref cd)) none none u1 u2 u3 u4 u5) H K:=by
 have b0: -1000000<(0:Int)/\(0:Int)<1000000:=by decide
 have ix:=seq_0 (l.map Op.v).length
 have e1:=mU h b0 ix (v:=o.v) rfl
 refine kch (gp_3 X R) (Lp.mk e1 (xD (n8 (Q:=λt H3=>bif t then _ else _) ?_)))
 rw [sH]at k
 cases e:o.tag.isEq with
 |false=>rw [e]at k;exact bL (k (λ_ _ _ q=>q) h)
 |true=>
  rw [e]at k
  exact bY (Lp.mk e1 (pT_i (kch (pA_nf (sK .next)) ⟨by decide,Lf.mk (xG h b0 ix) (k .set (aJ h _))⟩)))
theorem sG:∀ l:List Op,gR n (l++[o])=l++[bif o.tag.isEq then o.hd n else o]
 | []=>rfl
 | [x]=>rfl
 |x :: y :: l=>by
  show x :: gR n (y :: l++[o])=_
  rw [sG (y :: l)];rfl
theorem gp4_i(X:XX C){l:List Op}(h:H[cd]? =some (.list ((l++[o]).map Op.v)))(k:∀ {H' u1 u2 u3 u4 u5},Ex H H' cd->H'[cd]? =some (.list ((gR n (l++[o])).map Op.v))->R (kP s n (some (.ref cd)) none none u1 u2 u3 u4 u5) H' K):
  aD (lK X) R (kP s n (some (.ref cd)) none none u1 u2 u3 u4 u5) H K:=by
 have b0: -1000000<(-1:Int)/\(-1:Int)<1000000:=by decide
 rw [List.map_append]at h
 have ix:seqIndex? (-1) (l.map Op.v++[o].map Op.v).length=some (l.map Op.v).length:=by rw[List.length_append];exact o9 _
 have e1:=mU h b0 ix (v:=o.v) (by rw[List.getElem?_append_right (Nat.le_refl _),Nat.sub_self];rfl)
 refine kch (gp_4 X R) (Lp.mk e1 (xD (n8 (Q:=λt H3=>bif t then _ else _) ?_)))
 rw [sG]at k
 cases e:o.tag.isEq with
 |false=>rw [e,List.map_append]at k;exact bL (k (λ_ _ _ q=>q) h)
 |true=>
  rw [e,List.map_append]at k
  refine bY (Lp.mk e1 (pT_i (kch (pZ_nf (sK .next)) ⟨by decide,Lf.mk (xG h b0 ix) (k .set ?_)⟩)))
  have:=aJ h (.list ((l.map Op.v++[o].map Op.v).set (l.map Op.v).length (o.hd n).v))
  rw [List.set_append_right _ _ (Nat.le_refl _),Nat.sub_self]at this ⊢
  exact this
end
end
section
variable {C:Cx}{H:MH}{a b:List Int}
section
variable {s cd:Nat}{n:Int}{u1 u2 u3 u4 u5:Option V}{K:SK}{R:SF}
theorem gp2_i(X:XX C){l:List Op}(h:H[cd]? =some (.list (l.map Op.v)))(hl:l.length<1000000)(k:∀ {H' cd'},Hx H H'->H'[cd']? =some (.list ((gV l).map Op.v))->cd'=cd∨cd'=H.length->R (kP s n (some (.ref cd')) none none u1 u2 u3 u4 u5) H' K):
  aD (lM X) R (kP s n (some (.ref cd)) none none u1 u2 u3 u4 u5) H K:=by
 refine kch (gp_2 X R) (Lf.mk (sT h (by rw[List.length_map];exact hl)) ?_)
 cases l with
 |nil=>
  refine bY ⟨by decide,?_⟩
  unfold kP at k ⊢
  rw [aA]
  exact k (.app _ _) (aY _ _) (.inr rfl)
 |cons o l=>exact bL (k (.refl _) h (.inl rfl))
end
noncomputable def gR3(X:XX C):SF:=aD (lL X) (aD (lK X) (aD (oC X) (aD (oA X) (sK .next))))
theorem nJ(l:List Op):∃ o l',gV l=o :: l':=by
 cases l with
 |nil=>exact⟨_,_,rfl⟩
 |cons o l=>exact⟨o,l,rfl⟩
theorem yO(l:List Op):(gV l).length<=l.length+1:=by
 cases l with
 |nil=>exact Nat.le_refl 1
 |cons o l=>exact Nat.le_succ _
theorem aFh(n:Int)(l:List Op):∃ L o,t7 n (gV l)=L++[o]:=by
 refine xEE (nJ l) λo l' e=>?_
 rw [e,sH]
 rcases List.eq_nil_or_concat ((bif o.tag.isEq then o.tl n else o) :: l') with h |⟨L,x,h⟩
 ·cases h
 ·exact⟨L,x,by rw[h,List.concat_eq_append]⟩
theorem gp34_i(X:XX C){s cd:Nat}{n:Int}{u1 u2 u3 u4 u5:Option V}{K:SK}{l:List Op}(h:H[cd]? =some (.list ((gV l).map Op.v)))
  (k:∀ {H' u1 u2 u3 u4 u5},Ex H H' cd->H'[cd]? =some (.list ((gR n (t7 n (gV l))).map Op.v))->K .next (kL s n cd H'.length u1 u2 u3 u4 u5) (H'++[.list []])):gR3 X (kP s n (some (.ref cd)) none none u1 u2 u3 u4 u5) H K:=by
 refine xEE (nJ l) λo l' e=>?_
 refine xEE (aFh n l) λL x e2=>?_
 rw [e]at h
 refine gp3_i X h λ{H1 u1 u2 u3 u4 u5} x1 h1=>?_
 rw [<-e,e2]at h1
 refine gp4_i X h1 λ{H2 u1 u2 u3 u4 u5} x2 h2=>kch (gp_56 X) ?_
 rw [gp_56n]
 rw [<-e2]at h2
 exact k (x1.trans x2) h2
end
section
variable {C:Cx}{H:MH}{a b:List Int}
theorem Ops.len{l:List Op}(h:Ops a b l)(al:a.length<64):l.length<=200:=by
 refine xEA h λbl z196 h3=>?_;obtain⟨r,h1,h2⟩:=z196
 have e1:=n6 (isort T3.i r) ⟨0,0,0⟩
 rw [(cJ T3.i r).length_eq]at e1
 have e2:=h1.len
 have e3:=zK bl 0 0
 rw [h2,List.length_append,List.length_singleton,<-h2]at e3
 rw [h3]
 exact A309 al e1 e2 e3
theorem aFi(n:Int)(l:List Op):(t7 n l).length=l.length:=by cases l<;>rfl
theorem wG(n:Int):∀ l:List Op,(gR n l).length=l.length
 | []=>rfl
 | [x]=>rfl
 |x :: y :: l=>by
  show(x :: gR n (y :: l)).length=_
  rw [List.length_cons,wG n (y :: l)];rfl
theorem aBy(X:XX C){B:MH}{s ra rb rd rj m:Nat}{n:Int}{fs:Str->Option V}{f:Int->Option V}{P:MH->Prop}(S:SM H s ra rb rd rj m fs f a b)(hm:fs "matching_blocks" =some .none)(ho:fs "opcodes" =some .none)(al:a.length<64)(hx:Hx B H)(bs:B[s]? =none)
  (k:∀ {H' rs l it},Hx B H'->H'[(H++[MO.gen (.fresh (loB ["self","n"] [.ref s,.int n] lo0))]).length]? =some (.list (rs.map V.ref))->GsA H' it H.length (H++[MO.gen (.fresh (loB ["self","n"] [.ref s,.int n] lo0))]).length rs (groups n l)->Ops a b l->P H'):
  dV (lF X.gc 6 λL=>X.gv L) (H++[MO.gen (.fresh (loB ["self","n"] [.ref s,.int n] lo0))]).length 2001 H.length ((H++[MO.gen (.fresh (loB ["self","n"] [.ref s,.int n] lo0))])++[.list []]) P:=by
 refine aFl X (Lf.mk (zX (Hx.app _ _ _ _ (aY H (.gen (.fresh (loB ["self","n"] [.ref s,.int n] lo0)))))) ?_)
 show aFd X (loB ["self","n"] [.ref s,.int n] lo0) _ _
 rw [kP_0]
 have el:(H++[MO.gen (.fresh (kP s n none none none none none none none none))]).length=H.length+1:=List.length_append
 have ga:H.length≠(H++[MO.gen (.fresh (kP s n none none none none none none none none))]).length:=by rw[el];exact(Nat.succ_ne_self _).symm
 have ba:B[(H++[MO.gen (.fresh (kP s n none none none none none none none none))]).length]? =none:=(hx.trans (.app H [MO.gen (.fresh (kP s n none none none none none none none none))])).fresh
 rw [kP_0]at k
 have bg:=hx.fresh
 have xr:Hx H (((H++[MO.gen (.fresh (kP s n none none none none none none none none))])++[MO.list []]).set H.length (.gen .run)):=((Hx.app _ _).trans (.app _ _)).set (aL H)
 have rr:(((H++[MO.gen (.fresh (kP s n none none none none none none none none))])++[MO.list []]).set H.length (.gen .run))[H.length]? =some (.gen .run):=aJ (Hx.app _ _ _ _ (aY _ _)) _
 have ra:(((H++[MO.gen (.fresh (kP s n none none none none none none none none))])++[MO.list []]).set H.length (.gen .run))[(H++[MO.gen (.fresh (kP s n none none none none none none none none))]).length]? =some (.list []):=aG (aY _ _) ga
 have gs:H.length≠s:=aR S.o
 have as:(H++[MO.gen (.fresh (kP s n none none none none none none none none))]).length≠s:=aR (Hx.app _ _ _ _ S.o)
 revert ga ba xr rr ra as k
 generalize (H++[MO.gen (.fresh (kP s n none none none none none none none none))]).length=ai
 generalize ((H++[MO.gen (.fresh (kP s n none none none none none none none none))])++[MO.list []]).set H.length (.gen .run)=Hr
 intro k ga ba xr rr ra as
 have Sr:=S.hx xr
 refine kch (gp_1 X _) ⟨⟨_,Sr.o⟩,pQ X Sr hm ho al λ{H2 r l} e2 cs s2 h2 O=>?_⟩
 have ll:=O.len al
 have x2:Hx B H2:=e2.hx (hx.trans xr) bs
 have r2:=e2 _ _ gs.symm rr
 have a2:=e2 _ _ as.symm ra
 unfold kP
 rw [aA]
 show aD (lM X) (gR3 X) (kP s n (some (.ref Hr.length)) none none none none none none none) H2 _
 have ng:∀ {cd:Nat},cd=Hr.length∨cd=H2.length->B[cd]? =none/\H.length≠cd/\ai≠cd:=λ{cd} h=>by
  refine Or.elim h (λh=>?_) λh=>?_
  ·exact h▸⟨(hx.trans xr).fresh,(aR rr).symm,(aR ra).symm⟩
  ·exact h▸⟨x2.fresh,(aR r2).symm,(aR a2).symm⟩
 refine gp2_i X h2 (A310 ll) λ{H3 cd} x3 h3 hcd=>gp34_i X h3 λ{H4 u1 u2 u3 u4 u5} e4 h4=>?_
 refine xAA (ng hcd) λbc gc ac=>?_
 have x4:Hx B H4:=e4.hx (x2.trans x3) bc
 have r4:=e4 _ _ gc.symm (x3 _ _ r2)
 have a4:=e4 _ _ ac.symm (x3 _ _ a2)
 have alen:(gR n (t7 n (gV l))).length<=201:=by rw[wG,aFi];exact Nat.le_trans (yO l) (Nat.succ_le_succ ll)
 have c5:=Hx.app H4 [MO.list []] _ _ h4
 have g5:=aY H4 (.list [])
 have r5:=Hx.app H4 [MO.list []] _ _ r4
 have a5:=Hx.app H4 [MO.list []] _ _ a4
 have x5:Hx B (H4++[MO.list []]):=x4.trans (.app _ _)
 have gb:=x4.fresh
 have cg:=aR h4
 have rg:=aR r4
 have ag:=aR a4
 refine kch (B:=((∃ vs,lst (H4++[MO.list []]) (.ref cd)=some vs)/\(gfn X).loop (H4++[MO.list []]).length (kL s n cd H4.length u1 u2 u3 u4 u5) ((H4++[MO.list []])++[.itr (some (cd,0))]) (GFn.finK H.length (exK X ai H.length 2000 P)))) ⋯ ⟨⟨_,aF c5⟩,?_⟩
 revert c5 g5 r5 a5 x5 gb cg rg ag
 generalize H4.length=gr
 generalize H4++[MO.list []]=H5
 intro c5 g5 r5 a5 x5 gb cg rg ag
 have O':GO B cd H5.length H.length ai (gR n (t7 n (gV l))):=⟨x5.fresh,bg,ba,aR c5,aR r5,aR a5,gc,ga,ac,Nat.le_trans alen (by decide)⟩
 have k6:Hx H5 (H5++[MO.itr (some (cd,0))]):=.app _ _
 have x6:Hx B (H5++[MO.itr (some (cd,0))]):=x5.trans k6
 refine⟨_,tT X (p0:=0) O'.ic (aR g5) cg (gR n (t7 n (gV l))) (cur:=[]) (Nat.le_refl _) rfl (k6 _ _ c5) (aY _ _) (k6 _ _ g5) (by rw[List.length_nil];exact A311 alen) ⟨λ{H' o' p' g} e hi hg et h0 hpl=>?_,λ{H' lo g} e hg et=>?_,λ{H'} e et=>?_⟩⟩
 ·have a':=e _ _ O'.ia ag (k6 _ _ a5)
  have r':=e _ _ O'.ig rg (k6 _ _ r5)
  refine⟨r',Lf.mk (dE (aG a' ga)) ⟨by decide,zY (s:=s) (n:=n) X O' (total:=groups n l) (λq1 q2 q3=>k q1 q2 q3 O) 1999 (p:=p') (o:=o') (gr:=gr) (rs:=[gr]) (A312 alen) ?_⟩⟩
  refine⟨((e.hx x6 O'.bi gb).set bg).set ba,aG (aJ r' _) ga.symm,aG (aG (e _ _ O'.ic cg (k6 _ _ c5)) gc) ac,aG (aG hi O'.ig.symm) O'.ia.symm,aJ (aG a' ga) _,h0,hpl,[g],?_,et.symm⟩
  exact .cons (aG (aG hg rg.symm) ag.symm) (aR g5) rg.symm ag.symm .nil
 ·have a':=e _ _ O'.ia ag (k6 _ _ a5)
  have r':=e _ _ O'.ig rg (k6 _ _ r5)
  refine⟨r',Lf.mk (dE (aG a' ga)) ⟨by decide,wR X (aG (aJ r' _) ga.symm) (k (rs:=[gr]) (l:=l) (it:=H5.length) ((((e.hx x6 O'.bi gb).set bg).set ba).set bg) (aG (aJ (aG a' ga) _) ga) ?_ O)⟩⟩
  rw [show groups n l= [g] from et]
  exact .cons (aG (aG (aG hg rg.symm) ag.symm) rg.symm) (aR g5) rg.symm ag.symm .nil
 ·have a':=e _ _ O'.ia ag (k6 _ _ a5)
  have r':=e _ _ O'.ig rg (k6 _ _ r5)
  refine⟨r',k (rs:=[]) (l:=l) (it:=H5.length) ((e.hx x6 O'.bi gb).set bg) (aG a' ga) ?_ O⟩
  rw [show groups n l= [] from et]
  exact .nil
end
section
variable {C:Cx}{H:MH}{ra rb:Nat}{a b:List Int}{Q:EK}
theorem vR(X:XX C)(ha:LI H ra a)(hb:LI H rb b)(al:a.length<64)(bl:b.length<64)
  (k:∀ {H' r l},Hx H H'->H'[r]? =some (.list (l.map Op.v))->H[r]? =none->Ops a b l->Q (.ref r) H'):
  X.c_SM [.none,.ref ra,.ref rb] H λv H1=>Lf v.rf λi=>(∃ ff,H1[i]? =some (.inst ff))/\bU X [.ref i] H1 Q:=
 aGh X ha hb (Nat.lt_trans al (by decide)) (Nat.lt_trans bl (by decide)) λ{H1 rd rj rp n f} e1 S=>Lf.mk (p:=H.length) rfl ⟨⟨_,S.o⟩,pQ X S ⋯ ⋯ al λ{H2 r l} e2 ns s2 h2 O=>
  k (e2.hx e1 (aL H)) h2 e1.fresh O⟩
theorem xY(X:XX C){n:Int}(ha:LI H ra a)(hb:LI H rb b)(al:a.length<64)(bl:b.length<64)
  (k:∀ {H' r rs l it gi},Hx H H'->H'[r]? =some (.list (rs.map V.ref))->H[r]? =none->GsA H' it gi r rs (groups n l)->Ops a b l->Q (.ref r) H'):
  X.c_SM [.none,.ref ra,.ref rb] H λv H1=>Lf v.rf λi=>(∃ ff,H1[i]? =some (.inst ff))/\b7 X [.ref i,.int n] H1 λg H2=>d9 (lF X.gc 6 λL=>X.gv L) (λi=>i) [g] H2 Q:=
 aGh X ha hb (Nat.lt_trans al (by decide)) (Nat.lt_trans bl (by decide)) λ{H1 rd rj rp m f} e1 S=>Lf.mk (p:=H.length) rfl ⟨⟨_,S.o⟩,rfl,by
  have g:=zX (aY H1 (.gen (.fresh (loB ["self","n"] [.ref H.length,.int n] lo0))))
  have e:isG (H1++[MO.gen (.fresh (loB ["self","n"] [.ref H.length,.int n] lo0))]) [.ref H1.length]=some H1.length:=by
   show((H1++[MO.gen (.fresh (loB ["self","n"] [.ref H.length,.int n] lo0))])[H1.length]?.bind MO.gn).map _=_
   rw [g];rfl
  have go:=aBy X (n:=n) (P:=λH'=>Q (.ref (H1++[MO.gen (.fresh (loB ["self","n"] [.ref H.length,.int n] lo0))]).length) H') S ⋯ ⋯ al e1 (aL H) λq1 q2 q3 q4=>
   k q1 q2 (e1.trans (.app _ _)).fresh q3 q4
  show d9 (lF X.gc 6 λL=>X.gv L) (λi=>i) [.ref H1.length] (H1++[MO.gen (.fresh (loB ["self","n"] [.ref H.length,.int n] lo0))]) Q
  unfold d9
  rw [e]
  exact⟨_,go⟩⟩
end
section
variable {C:Cx}(X:XX C)(P:Params)(L:Addr)
noncomputable def j6(X:XX C):SF:=(aX "reach" (gU esN))
theorem oS:Sx C 10 (vO P) L 253 (stA 7) 0 (j6 X):=(SV.assign (EV.list EVs.nil))
noncomputable def j5(X:XX C):SF:=(mP (aT C) (iL (eN "changes")) (cU 2 (asC (aN "low") (asC (aN "high") asN))) (aD (dZ ["low","high"] (bT (esC (aM uQ (esC (eK (.int 0)) (esC (aB cI (eN "low") (eN "n")) esN))) (esC (aM uP (esC (eN "size") (esC (aB aH (eN "high") (eN "n")) esN))) esN)))) (aD (sIf (aU (tE (aB (bB not) (eN "reach") (gU esN))) (aU (tE (aB (bW λx y=>decide (x<=y)) (eN "low") (aB aI (aB aI (eN "reach") (jV (eK (.int 1)))) (eK (.int 1))))) (tK true))) (aD (aX "low" (aB aI (ePop (eN "reach")) (eK (.int 0)))) (sK .next)) (sK .next)) (aD (bO (d7 (eN "reach") (bT (esC (eN "low") (esC (eN "high") esN))))) (sK .next)))))
theorem oQ:Sx C 10 (vO P) L 253 (stA 7) 1 (j5 X):=(SV.for_ (K:=(aT C)) (IV.list EV.nm) (AV.tupleM X.km (AVs.cons AV.name (AVs.cons AV.name AVs.nil))) (SVs.cons (SV.swap (EV.tuple (EVs.cons (EV.call CV.max X.g_max (EVs.cons EV.int (EVs.cons (EV.binOp EV.nm EV.nm OpR.sub) EVs.nil))) (EVs.cons (EV.call CV.min X.g_min (EVs.cons EV.nm (EVs.cons (EV.binOp EV.nm EV.nm OpR.add) EVs.nil))) EVs.nil))) rfl ⋯ (gQ ⋯)) (SVs.cons (SV.ite (TV.boolOp (bK.and_cons (TV.cmp1 EV.nm (EV.list EVs.nil) OpR.ne) (bK.and_cons (TV.cmp1 EV.nm (EV.idx (EV.idx EV.nm (EV.neg EV.int)) EV.int) OpR.le) bK.and_nil))) (SVs.cons (SV.assign (EV.idx (EV.pop EV.nm ⟨rfl,⋯,⋯⟩) EV.int)) SVs.nil) SVs.nil) (SVs.cons (SV.expr (EV.append EV.nm (EV.tuple (EVs.cons EV.nm (EVs.cons EV.nm EVs.nil))))) SVs.nil))) ⟨trivial,Nat.le_of_ble_eq_true rfl⟩ (λ_=>rfl))
noncomputable def gS(X:XX C):SF:=(fM (eN "reach"))
theorem oP:Sx C 10 (vO P) L 253 (stA 7) 2 (gS X):=(SV.ret EV.nm)
noncomputable def jF(X:XX C):SF:=(aD (j6 X) (aD (j5 X) (aD (gS X) (sK .next))))
theorem sV:SVs C 10 (callEnvC (b5 (vO P)) L 253) (b9 (stA 7)) (jF X):=(SVs.cons (oS X P L) (SVs.cons (oQ X P L) (SVs.cons (oP X P L) SVs.nil)))
noncomputable def eI(X:XX C):CF:=l8 ["changes","n","size"] [] (jF X)
theorem l6(X:XX C):CV C 11 (.ref 253) (eI X):=CV.def_ X.d__law_reach ⋯ X.b__law_reach (λ_ _=>.nil) (dT ⋯) (λL=>sV X X.w.params L)
noncomputable def l3(X:XX C):SF:=(aX "made" (gU esN))
theorem rR:Sx C 10 (vN P) L 260 (stA 8) 0 (l3 X):=(SV.assign (EV.list EVs.nil))
noncomputable def l0(X:XX C):SF:=(mP (aT C) (iL (eN "group")) (cU 5 (asC (aN "tag") (asC (aN "i1") (asC (aN "i2") (asC (aN "j1") (asC (aN "j2") asN)))))) (aD (bO (eExt (eN "made") (eIf (tE (aB (bB id) (eN "tag") (eK (.str "equal")))) (eV (eN "one") (eN "i1") (eN "i2") (eK .none)) (eV (eN "two") (eN "j1") (eN "j2") (eK .none))))) (sK .next)))
theorem rQ:Sx C 10 (vN P) L 260 (stA 8) 1 (l0 X):=(SV.for_ (K:=(aT C)) (IV.list EV.nm) (AV.tupleM X.km (AVs.cons AV.name (AVs.cons AV.name (AVs.cons AV.name (AVs.cons AV.name (AVs.cons AV.name AVs.nil)))))) (SVs.cons (SV.expr (EV.extend EV.nm (EV.ifExp (TV.cmp1 EV.nm EV.str OpR.eq) (EV.slice EV.nm (PV.some EV.nm) (PV.some EV.nm)) (EV.slice EV.nm (PV.some EV.nm) (PV.some EV.nm))) ⟨rfl,⋯,⋯⟩ rfl)) SVs.nil) ⟨trivial,Nat.le_of_ble_eq_true rfl⟩ (λ_=>rfl))
noncomputable def eU(X:XX C):SF:=(fM (aB aH (aB aH (eV (eN "work") (eK .none) (eN "place") (eK .none)) (eN "made")) (eV (eN "work") (aB cI (aB aH (eN "place") (aB aI (aB aI (eN "group") (jV (eK (.int 1)))) (eK (.int 2)))) (aB aI (aB aI (eN "group") (eK (.int 0))) (eK (.int 1)))) (eK .none) (eK .none))))
theorem rO:Sx C 10 (vN P) L 260 (stA 8) 2 (eU X):=(SV.ret (EV.binOp (EV.binOp (EV.slice EV.nm PV.none (PV.some EV.nm)) EV.nm OpR.add) (EV.slice EV.nm (PV.some (EV.binOp (EV.binOp EV.nm (EV.idx (EV.idx EV.nm (EV.neg EV.int)) EV.int) OpR.add) (EV.idx (EV.idx EV.nm EV.int) EV.int) OpR.sub)) PV.none) OpR.add))
noncomputable def kN(X:XX C):SF:=(aD (l3 X) (aD (l0 X) (aD (eU X) (sK .next))))
theorem u9:SVs C 10 (callEnvC (b5 (vN P)) L 260) (b9 (stA 8)) (kN X):=(SVs.cons (rR X P L) (SVs.cons (rQ X P L) (SVs.cons (rO X P L) SVs.nil)))
noncomputable def d8(X:XX C):CF:=l8 ["work","place","group","one","two"] [] (kN X)
theorem nH(X:XX C):CV C 11 (.ref 260) (d8 X):=CV.def_ X.d__law_turn ⋯ X.b__law_turn (λ_ _=>.nil) (dT ⋯) (λL=>u9 X X.w.params L)
noncomputable def j8(X:XX C):SF:=(dZ ["mixed","seen"] (bT (esC (gU esN) (esC (eK (.int 0)) esN))))
theorem oW:Sx C 10 (vM P) L 265 (stA 9) 0 (j8 X):=(SV.swap (EV.tuple (EVs.cons (EV.list EVs.nil) (EVs.cons EV.int EVs.nil))) rfl ⋯ (gQ ⋯))
noncomputable def j7(X:XX C):SF:=(mP (aT C) (iL (eN "changes")) (cU 5 (asC (aN "tag") (asC (aN "i1") (asC (aN "i2") (asC (aN "j1") (asC (aN "j2") asN)))))) (aD (aX "at" (b6 (kK C) [".0","k"] (iR (aM gX (esC (aM cG (esC (eN "reach") esN)) esN))) (aN "k") (aU (aU (tE (aB (bW λx y=>decide (x<=y)) (aB aI (aB aI (eN "reach") (eN "k")) (eK (.int 0))) (eN "i1"))) (aU (tE (aB (bW λx y=>decide (x<=y)) (eN "i2") (aB aI (aB aI (eN "reach") (eN "k")) (eK (.int 1))))) (tK true))) (tK true)) (bA (eN "k")))) (aD (bO (eExt (eN "mixed") (aB aH (eV (eN "first") (eN "seen") (eN "i1") (eK .none)) (eIf (tE (aB aI (eN "on") (aB aI (eN "at") (eK (.int 0))))) (eV (eN "second") (eN "j1") (eN "j2") (eK .none)) (eV (eN "first") (eN "i1") (eN "i2") (eK .none)))))) (aD (aX "seen" (eN "i2")) (sK .next)))))
theorem oV:Sx C 10 (vM P) L 265 (stA 9) 1 (j7 X):=(SV.for_ (K:=(aT C)) (IV.list EV.nm) (AV.tupleM X.km (AVs.cons AV.name (AVs.cons (AV.name (.inr ⋯)) (AVs.cons (AV.name (.inr ⋯)) (AVs.cons AV.name (AVs.cons AV.name AVs.nil)))))) (SVs.cons (SV.assignC ⋯ ⋯ ⟨rfl,⋯,⋯,⋯⟩ ⋯ dF.range (IV.range (EV.call CV.range X.g_range (EVs.cons (EV.call (CV.lenM X.km) X.g_len (EVs.cons EV.nm EVs.nil)) EVs.nil))) (λ_=>(ALV.name ⋯)) (λ_=>(CnV.cons (TV.boolOp (bK.and_cons (TV.cmp1 (EV.idx (EV.idx EV.nm EV.nm) EV.int) EV.nm OpR.le) (bK.and_cons (TV.cmp1 EV.nm (EV.idx (EV.idx EV.nm EV.nm) EV.int) OpR.le) bK.and_nil))) CnV.nil)) (λ_=>(BV.last EV.nm rfl)) ⟨trivial,Nat.le_of_ble_eq_true rfl⟩ (λ_=>rfl)) (SVs.cons (SV.expr (EV.extend EV.nm (EV.binOp (EV.slice EV.nm (PV.some EV.nm) (PV.some EV.nm)) (EV.ifExp (TV.val (EV.idx EV.nm (EV.idx EV.nm EV.int))) (EV.slice EV.nm (PV.some EV.nm) (PV.some EV.nm)) (EV.slice EV.nm (PV.some EV.nm) (PV.some EV.nm))) OpR.add) ⟨rfl,⋯,⋯⟩ rfl)) (SVs.cons (SV.assign EV.nm) SVs.nil))) ⟨trivial,Nat.le_of_ble_eq_true rfl⟩ (λ_=>rfl))
noncomputable def eD(X:XX C):SF:=(fM (aB aH (eN "mixed") (eV (eN "first") (eN "seen") (eK .none) (eK .none))))
theorem oU:Sx C 10 (vM P) L 265 (stA 9) 2 (eD X):=(SV.ret (EV.binOp EV.nm (EV.slice EV.nm (PV.some EV.nm) PV.none) OpR.add))
noncomputable def jG(X:XX C):SF:=(aD (j8 X) (aD (j7 X) (aD (eD X) (sK .next))))
theorem sW:SVs C 10 (callEnvC (b5 (vM P)) L 265) (b9 (stA 9)) (jG X):=(SVs.cons (oW X P L) (SVs.cons (oV X P L) (SVs.cons (oU X P L) SVs.nil)))
noncomputable def fU(X:XX C):CF:=l8 ["first","second","changes","reach","on"] [] (jG X)
theorem uM(X:XX C):CV C 11 (.ref 265) (fU X):=CV.def_ X.d__law_mixed ⋯ X.b__law_mixed (λ_ _=>.nil) (dT ⋯) (λL=>sW X X.w.params L)
end
section
variable {C:Cx}(X:XX C)(P:Params)(L:Addr)
noncomputable def uH(X:XX C):SF:=(aX "numbers" (b6 (kK C) [".0","k"] (iR (aM gX (esC (eK (.int 24)) esN))) (aN "k") (tK true) (bA (aB aH (aB k7 (aB oMul (eN "k") (aB aH (eN "k") (eK (.int 1)))) (eK (.int 2))) (aM yT (esC (eV (eN "script") (eN "k") (eK .none) (eK (.int 24))) esN))))))
theorem aC4:Sx C 12 (eF P) L 270 (stA 10) 0 (uH X):=(SV.assignC ⋯ ⋯ ⟨rfl,⋯,⋯,⋯⟩ ⋯ dF.range (IV.range (EV.call CV.range X.g_range (EVs.cons EV.int EVs.nil))) (λ_=>(ALV.name ⋯)) (λ_=>CnV.nil) (λ_=>(BV.last (EV.binOp (EV.binOp (EV.binOp EV.nm (EV.binOp EV.nm EV.int OpR.add) OpR.mul) EV.int OpR.div) (EV.call CV.sum X.g_sum (EVs.cons (EV.slice3 EV.nm (PV.some EV.nm) PV.none EV.int (λ_ _=>rfl)) EVs.nil)) OpR.add) rfl)) ⟨trivial,Nat.le_of_ble_eq_true rfl⟩ (λ_=>rfl))
noncomputable def uG(X:XX C):SF:=(aX "n" (aB i9 (aB aH (eK (.int 1)) (aM yT (esC (eN "script") esN))) (eK (.int 4))))
theorem aC3:Sx C 12 (eF P) L 270 (stA 10) 1 (uG X):=(SV.assign (EV.binOp (EV.binOp EV.int (EV.call CV.sum X.g_sum (EVs.cons EV.nm EVs.nil)) OpR.add) EV.int OpR.mod))
noncomputable def uF(X:XX C):SF:=(aX "first" (b6 (aT C) [".0","x"] (iL (eN "numbers")) (aN "x") (aU (tE (aB (oIn not) (aB i9 (eN "x") (eK (.int 8))) (bT (esC (eK (.int 5)) (esC (eK (.int 7)) esN))))) (tK true)) (bA (aB i9 (aB k7 (eN "x") (eK (.int 8))) (eK (.int 3))))))
theorem aC2:Sx C 12 (eF P) L 270 (stA 10) 2 (uF X):=(SV.assignC ⋯ ⋯ ⟨rfl,⋯,⋯,⋯⟩ ⋯ dF.list (IV.list EV.nm) (λ_=>(ALV.name ⋯)) (λ_=>(CnV.cons (TV.cmp1 (EV.binOp EV.nm EV.int OpR.mod) (EV.tuple (EVs.cons EV.int (EVs.cons EV.int EVs.nil))) OpR.notIn) CnV.nil)) (λ_=>(BV.last (EV.binOp (EV.binOp EV.nm EV.int OpR.div) EV.int OpR.mod) rfl)) ⟨trivial,Nat.le_of_ble_eq_true rfl⟩ (λ_=>rfl))
noncomputable def uE(X:XX C):SF:=(aX "second" (b6 (aT C) [".0","x"] (iL (eN "numbers")) (aN "x") (aU (tE (aB (oIn not) (aB i9 (eN "x") (eK (.int 8))) (bT (esC (eK (.int 4)) (esC (eK (.int 7)) esN))))) (tK true)) (bA (aB i9 (aB aH (aB k7 (eN "x") (eK (.int 8))) (aB k7 (aB i9 (eN "x") (eK (.int 8))) (eK (.int 6)))) (eK (.int 3))))))
theorem aC1:Sx C 12 (eF P) L 270 (stA 10) 3 (uE X):=(SV.assignC ⋯ ⋯ ⟨rfl,⋯,⋯,⋯⟩ ⋯ dF.list (IV.list EV.nm) (λ_=>(ALV.name ⋯)) (λ_=>(CnV.cons (TV.cmp1 (EV.binOp EV.nm EV.int OpR.mod) (EV.tuple (EVs.cons EV.int (EVs.cons EV.int EVs.nil))) OpR.notIn) CnV.nil)) (λ_=>(BV.last (EV.binOp (EV.binOp (EV.binOp EV.nm EV.int OpR.div) (EV.binOp (EV.binOp EV.nm EV.int OpR.mod) EV.int OpR.div) OpR.add) EV.int OpR.mod) rfl)) ⟨trivial,Nat.le_of_ble_eq_true rfl⟩ (λ_=>rfl))
noncomputable def uD(X:XX C):SF:=(aX "codes" (jN (bU X) (aM X.c_SM (esC (eK .none) (esC (eN "first") (esC (eN "second") esN)))) esN))
theorem aC0:Sx C 12 (eF P) L 270 (stA 10) 4 (uD X):=(SV.assign (EV.meth X.smc (by decide+kernel) ((jO X).lift rfl) (EV.call (X.cv_SM.lift rfl) X.g_SequenceMatcher (EVs.cons EV.none (EVs.cons EV.nm (EVs.cons EV.nm EVs.nil)))) EVs.nil ⟨.inl rfl,λ_=>rfl⟩ ⟨rfl,⋯,⋯⟩))
noncomputable def uC(X:XX C):SF:=(aX "changes" (b6 (aT C) [".0","code"] (iL (eN "codes")) (aN "code") (aU (tE (aB (bB not) (aB aI (eN "code") (eK (.int 0))) (eK (.str "equal")))) (tK true)) (bA (eN "code"))))
theorem aCz:Sx C 12 (eF P) L 270 (stA 10) 5 (uC X):=(SV.assignC ⋯ ⋯ ⟨rfl,⋯,⋯,⋯⟩ ⋯ dF.list (IV.list EV.nm) (λ_=>(ALV.name ⋯)) (λ_=>(CnV.cons (TV.cmp1 (EV.idx EV.nm EV.int) EV.str OpR.ne) CnV.nil)) (λ_=>(BV.last EV.nm rfl)) ⟨trivial,Nat.le_of_ble_eq_true rfl⟩ (λ_=>rfl))
noncomputable def uB(X:XX C):SF:=(aX "groups" (aM (d9 (lF X.gc 6 X.gv) (λi=>i)) (esC (jN (b7 X) (aM X.c_SM (esC (eK .none) (esC (eN "first") (esC (eN "second") esN)))) (esC (eN "n") esN)) esN)))
theorem aCy:Sx C 12 (eF P) L 270 (stA 10) 6 (uB X):=(SV.assign (EV.call (CV.listG X.gc X.gv (Nat.le_of_ble_eq_true rfl)) X.g_list (EVs.cons (EV.meth X.smc (by decide+kernel) ((iK X).lift rfl) (EV.call (X.cv_SM.lift rfl) X.g_SequenceMatcher (EVs.cons EV.none (EVs.cons EV.nm (EVs.cons EV.nm EVs.nil)))) (EVs.cons EV.nm EVs.nil) ⟨.inr ⟨_,_,rfl,rfl⟩,λ_=>rfl⟩ ⟨rfl,⋯,⋯⟩) EVs.nil)) (.inr ⋯))
noncomputable def uA(X:XX C):SF:=(sIf (tE (aB (bB not) (b6 (aT C) [".0","group","code"] (iL (eN "groups")) (aN "group") (tK true) (w4 (aT C) (iL (eN "group")) (aN "code") (aU (tE (aB (bB not) (aB aI (eN "code") (eK (.int 0))) (eK (.str "equal")))) (tK true)) (bA (eN "code")))) (eN "changes"))) (aD (fM (eK (.bool false))) (sK .next)) (sK .next))
theorem aCx:Sx C 12 (eF P) L 270 (stA 10) 7 (uA X):=(SV.ite (TV.cmp1 (EV.comp ⟨rfl,⋯,⋯,⋯⟩ ⋯ dF.list (IV.list EV.nm) (λ_=>(ALV.name ⋯)) (λ_=>CnV.nil) (λ_=>(BV.more (K:=(aT C)) rfl dF.list (IV.list EV.nm) (ALV.name ⋯) (CnV.cons (TV.cmp1 (EV.idx EV.nm EV.int) EV.str OpR.ne) CnV.nil) (BV.last EV.nm rfl) ⟨trivial,Nat.le_of_ble_eq_true rfl⟩ (λ_=>rfl))) ⟨trivial,Nat.le_of_ble_eq_true rfl⟩ (λ_=>rfl)) EV.nm OpR.ne) (SVs.cons (SV.ret EV.bool) SVs.nil) SVs.nil)
noncomputable def t9(X:XX C):SF:=(aX "reach" (aM (eI X) (esC (b6 (aT C) [".0","code"] (iL (eN "changes")) (aN "code") (tK true) (bA (eV (eN "code") (eK (.int 1)) (eK (.int 3)) (eK .none)))) (esC (eN "n") (esC (aM cG (esC (eN "first") esN)) esN)))))
theorem aCw:Sx C 12 (eF P) L 270 (stA 10) 8 (t9 X):=(SV.assign (EV.call ((l6 X).lift rfl) X.g__law_reach (EVs.cons (EV.comp ⟨rfl,⋯,⋯,⋯⟩ ⋯ dF.list (IV.list EV.nm) (λ_=>(ALV.name ⋯)) (λ_=>CnV.nil) (λ_=>(BV.last (EV.slice EV.nm (PV.some EV.int) (PV.some EV.int)) rfl)) ⟨trivial,Nat.le_of_ble_eq_true rfl⟩ (λ_=>rfl)) (EVs.cons EV.nm (EVs.cons (EV.call (CV.lenM X.km) X.g_len (EVs.cons EV.nm EVs.nil)) EVs.nil)))))
noncomputable def t8(X:XX C):SF:=(sIf (tE (aB (bB not) (b6 (aT C) [".0","group"] (iL (eN "groups")) (aN "group") (tK true) (bA (bT (esC (aB aI (aB aI (eN "group") (eK (.int 0))) (eK (.int 1))) (esC (aB aI (aB aI (eN "group") (jV (eK (.int 1)))) (eK (.int 2))) esN))))) (eN "reach"))) (aD (fM (eK (.bool false))) (sK .next)) (sK .next))
theorem aCv:Sx C 12 (eF P) L 270 (stA 10) 9 (t8 X):=(SV.ite (TV.cmp1 (EV.comp ⟨rfl,⋯,⋯,⋯⟩ ⋯ dF.list (IV.list EV.nm) (λ_=>(ALV.name ⋯)) (λ_=>CnV.nil) (λ_=>(BV.last (EV.tuple (EVs.cons (EV.idx (EV.idx EV.nm EV.int) EV.int) (EVs.cons (EV.idx (EV.idx EV.nm (EV.neg EV.int)) EV.int) EVs.nil))) rfl)) ⟨trivial,Nat.le_of_ble_eq_true rfl⟩ (λ_=>rfl)) EV.nm OpR.ne) (SVs.cons (SV.ret EV.bool) SVs.nil) SVs.nil)
noncomputable def qP(X:XX C):SF:=(sIf (tE (aB (bB not) (b6 (aT C) [".0","group"] (iL (eN "groups")) (aN "group") (tK true) (bA (bT (esC (aB aI (aB aI (eN "group") (eK (.int 0))) (eK (.int 3))) (esC (aB aI (aB aI (eN "group") (jV (eK (.int 1)))) (eK (.int 4))) esN))))) (aM (eI X) (esC (b6 (aT C) [".0","code"] (iL (eN "changes")) (aN "code") (tK true) (bA (eV (eN "code") (eK (.int 3)) (eK .none) (eK .none)))) (esC (eN "n") (esC (aM cG (esC (eN "second") esN)) esN)))))) (aD (fM (eK (.bool false))) (sK .next)) (sK .next))
theorem aA8:Sx C 12 (eF P) L 270 (stA 10) 10 (qP X):=(SV.ite (TV.cmp1 (EV.comp ⟨rfl,⋯,⋯,⋯⟩ ⋯ dF.list (IV.list EV.nm) (λ_=>(ALV.name ⋯)) (λ_=>CnV.nil) (λ_=>(BV.last (EV.tuple (EVs.cons (EV.idx (EV.idx EV.nm EV.int) EV.int) (EVs.cons (EV.idx (EV.idx EV.nm (EV.neg EV.int)) EV.int) EVs.nil))) rfl)) ⟨trivial,Nat.le_of_ble_eq_true rfl⟩ (λ_=>rfl)) (EV.call ((l6 X).lift rfl) X.g__law_reach (EVs.cons (EV.comp ⟨rfl,⋯,⋯,⋯⟩ ⋯ dF.list (IV.list EV.nm) (λ_=>(ALV.name ⋯)) (λ_=>CnV.nil) (λ_=>(BV.last (EV.slice EV.nm (PV.some EV.int) PV.none) rfl)) ⟨trivial,Nat.le_of_ble_eq_true rfl⟩ (λ_=>rfl)) (EVs.cons EV.nm (EVs.cons (EV.call (CV.lenM X.km) X.g_len (EVs.cons EV.nm EVs.nil)) EVs.nil)))) OpR.ne) (SVs.cons (SV.ret EV.bool) SVs.nil) SVs.nil)
noncomputable def qO(X:XX C):SF:=(aX "bare" (b6 (aT C) [".0","code"] (iL (aB aH (eV (eN "codes") (eK .none) (eK (.int 1)) (eK .none)) (eV (eN "codes") (jV (eK (.int 1))) (eK .none) (eK .none)))) (aN "code") (aU (tE (aB (bB not) (aB aI (eN "code") (eK (.int 0))) (eK (.str "equal")))) (tK true)) (bA (eN "code"))))
theorem aA7:Sx C 12 (eF P) L 270 (stA 10) 11 (qO X):=(SV.assignC ⋯ ⋯ ⟨rfl,⋯,⋯,⋯⟩ ⋯ dF.list (IV.list (EV.binOp (EV.slice EV.nm PV.none (PV.some EV.int)) (EV.slice EV.nm (PV.some (EV.neg EV.int)) PV.none) OpR.add)) (λ_=>(ALV.name ⋯)) (λ_=>(CnV.cons (TV.cmp1 (EV.idx EV.nm EV.int) EV.str OpR.ne) CnV.nil)) (λ_=>(BV.last EV.nm rfl)) ⟨trivial,Nat.le_of_ble_eq_true rfl⟩ (λ_=>rfl))
noncomputable def qN(X:XX C):SF:=(sIf (tE (aB (bB not) (aM cG (esC (b6 (aT C) [".0","group","code"] (iL (eN "groups")) (aN "group") (tK true) (w4 (aT C) (iL (eN "group")) (aN "code") (tK true) (bA (eN "code")))) esN)) (aB cI (aB aH (aB oMul (eK (.int 2)) (aM cG (esC (eN "changes") esN))) (aM cG (esC (eN "reach") esN))) (aM cG (esC (eN "bare") esN))))) (aD (fM (eK (.bool false))) (sK .next)) (sK .next))
theorem aA6:Sx C 12 (eF P) L 270 (stA 10) 12 (qN X):=(SV.ite (TV.cmp1 (EV.call (CV.lenM X.km) X.g_len (EVs.cons (EV.comp ⟨rfl,⋯,⋯,⋯⟩ ⋯ dF.list (IV.list EV.nm) (λ_=>(ALV.name ⋯)) (λ_=>CnV.nil) (λ_=>(BV.more (K:=(aT C)) rfl dF.list (IV.list EV.nm) (ALV.name ⋯) CnV.nil (BV.last EV.nm rfl) ⟨trivial,Nat.le_of_ble_eq_true rfl⟩ (λ_=>rfl))) ⟨trivial,Nat.le_of_ble_eq_true rfl⟩ (λ_=>rfl)) EVs.nil)) (EV.binOp (EV.binOp (EV.binOp EV.int (EV.call (CV.lenM X.km) X.g_len (EVs.cons EV.nm EVs.nil)) OpR.mul) (EV.call (CV.lenM X.km) X.g_len (EVs.cons EV.nm EVs.nil)) OpR.add) (EV.call (CV.lenM X.km) X.g_len (EVs.cons EV.nm EVs.nil)) OpR.sub) OpR.ne) (SVs.cons (SV.ret EV.bool) SVs.nil) SVs.nil)
noncomputable def qM(X:XX C):SF:=(aX "back" (b6 (aT C) [".0","group"] (iL (eN "groups")) (aN "group") (tK true) (bA (b6 (aT C) [".0","tag","i1","i2","j1","j2"] (iL (eN "group")) (yZ 5 (asC (aN "tag") (asC (aN "i1") (asC (aN "i2") (asC (aN "j1") (asC (aN "j2") asN)))))) (tK true) (bA (bT (esC (eN "tag") (esC (eN "j1") (esC (eN "j2") (esC (eN "i1") (esC (eN "i2") esN)))))))))))
theorem aA5:Sx C 12 (eF P) L 270 (stA 10) 13 (qM X):=(SV.assignC ⋯ ⋯ ⟨rfl,⋯,⋯,⋯⟩ ⋯ dF.list (IV.list EV.nm) (λ_=>(ALV.name ⋯)) (λ_=>CnV.nil) (λ_=>(BV.last (EV.comp ⟨rfl,⋯,⋯,⋯⟩ ⋯ dF.list (IV.list EV.nm) (λ_=>(ALV.tuple (kV.cons (ALV.name ⋯) (kV.cons (ALV.name ⋯) (kV.cons (ALV.name ⋯) (kV.cons (ALV.name ⋯) (kV.cons (ALV.name ⋯) kV.nil rfl) rfl) rfl) rfl) rfl) rfl ⋯)) (λ_=>CnV.nil) (λ_=>(BV.last (EV.tuple (EVs.cons EV.nm (EVs.cons EV.nm (EVs.cons EV.nm (EVs.cons EV.nm (EVs.cons EV.nm EVs.nil)))))) rfl)) ⟨trivial,Nat.le_of_ble_eq_true rfl⟩ (λ_=>rfl)) rfl)) ⟨trivial,Nat.le_of_ble_eq_true rfl⟩ (λ_=>rfl))
noncomputable def qL(X:XX C):SF:=(aX "more" (b6 (aT C) [".0","group"] (iL (eN "groups")) (aN "group") (tK true) (bA (aB aH (aB cI (aB cI (aB aI (aB aI (eN "group") (jV (eK (.int 1)))) (eK (.int 4))) (aB aI (aB aI (eN "group") (eK (.int 0))) (eK (.int 3)))) (aB aI (aB aI (eN "group") (jV (eK (.int 1)))) (eK (.int 2)))) (aB aI (aB aI (eN "group") (eK (.int 0))) (eK (.int 1)))))))
theorem aA4:Sx C 12 (eF P) L 270 (stA 10) 14 (qL X):=(SV.assign (EV.comp ⟨rfl,⋯,⋯,⋯⟩ ⋯ dF.list (IV.list EV.nm) (λ_=>(ALV.name ⋯)) (λ_=>CnV.nil) (λ_=>(BV.last (EV.binOp (EV.binOp (EV.binOp (EV.idx (EV.idx EV.nm (EV.neg EV.int)) EV.int) (EV.idx (EV.idx EV.nm EV.int) EV.int) OpR.sub) (EV.idx (EV.idx EV.nm (EV.neg EV.int)) EV.int) OpR.sub) (EV.idx (EV.idx EV.nm EV.int) EV.int) OpR.add) rfl)) ⟨trivial,Nat.le_of_ble_eq_true rfl⟩ (λ_=>rfl)) (.inr ⋯) ⋯)
noncomputable def qK(X:XX C):SF:=(aX "order" (b6 (j4 C) [".0","k","x"] (iL (eN "numbers")) (yZ 2 (asC (aN "k") (asC (aN "x") asN))) (aU (tE (aB (bB not) (eN "groups") (gU esN))) (tK true)) (bA (aB i9 (aB aH (aB k7 (eN "x") (eK (.int 8))) (eN "k")) (aM cG (esC (eN "groups") esN))))))
theorem aA3:Sx C 12 (eF P) L 270 (stA 10) 15 (qK X):=(SV.assign (EV.comp ⟨rfl,⋯,⋯,⋯⟩ ⋯ dF.enum (IV.enum EV.nm X.g_enumerate ⋯ ⟨.inr ⟨_,_,rfl,rfl⟩,λ_=>rfl⟩ rfl) (λ_=>(ALV.tuple (kV.cons (ALV.name ⋯) (kV.cons (ALV.name ⋯) kV.nil rfl) rfl) rfl ⋯)) (λ_=>(CnV.cons (TV.cmp1 EV.nm (EV.list EVs.nil) OpR.ne) CnV.nil)) (λ_=>(BV.last (EV.binOp (EV.binOp (EV.binOp EV.nm EV.int OpR.div) EV.nm OpR.add) (EV.call (CV.lenM X.km) X.g_len (EVs.cons EV.nm EVs.nil)) OpR.mod) rfl)) ⟨⟨_,_,_,rfl⟩,Nat.le_of_ble_eq_true rfl⟩ (λ_=>rfl)) (.inr ⋯) ⋯)
noncomputable def qJ(X:XX C):SF:=(aX "off" (b6 (kK C) [".0","k"] (iR (aM gX (esC (aM cG (esC (eN "groups") esN)) esN))) (aN "k") (aU (tE (aB (bB id) (aB i9 (uK (eN "order") (eN "k")) (eK (.int 2))) (eK (.int 0)))) (tK true)) (bA (eN "k"))))
theorem aA2:Sx C 12 (eF P) L 270 (stA 10) 16 (qJ X):=(SV.assignC ⋯ ⋯ ⟨rfl,⋯,⋯,⋯⟩ ⋯ dF.range (IV.range (EV.call CV.range X.g_range (EVs.cons (EV.call (CV.lenM X.km) X.g_len (EVs.cons EV.nm EVs.nil)) EVs.nil))) (λ_=>(ALV.name ⋯)) (λ_=>(CnV.cons (TV.cmp1 (EV.binOp (EV.count EV.nm EV.nm ⟨rfl,⋯,⋯⟩ rfl) EV.int OpR.mod) EV.int OpR.eq) CnV.nil)) (λ_=>(BV.last EV.nm rfl)) ⟨trivial,Nat.le_of_ble_eq_true rfl⟩ (λ_=>rfl))
noncomputable def qI(X:XX C):SF:=(cY (bT (esC (aM (d9 (lF X.gc 6 X.gv) (λi=>i)) (esC (eN "first") esN)) (esC (b6 (aT C) [".0","group"] (iL (eN "groups")) (aN "group") (tK true) (bA (eK (.bool false)))) esN))) (cU 2 (asC (aN "work") (asC (aN "on") asN))))
theorem aA1:Sx C 12 (eF P) L 270 (stA 10) 17 (qI X):=(SV.assigns (EV.tuple (EVs.cons (EV.call (CV.listG X.gc X.gv (Nat.le_of_ble_eq_true rfl)) X.g_list (EVs.cons EV.nm EVs.nil)) (EVs.cons (EV.comp ⟨rfl,⋯,⋯,⋯⟩ ⋯ dF.list (IV.list EV.nm) (λ_=>(ALV.name ⋯)) (λ_=>CnV.nil) (λ_=>(BV.last EV.bool rfl)) ⟨trivial,Nat.le_of_ble_eq_true rfl⟩ (λ_=>rfl)) EVs.nil))) (ALs.one (AV.tupleM X.km (AVs.cons AV.name (AVs.cons (AV.name (.inr ⋯)) AVs.nil)))))
noncomputable def qH(X:XX C):SF:=(mP (aT C) (iL (aB aH (aB aH (eN "order") (eV (eN "off") (eK .none) (eK .none) (jV (eK (.int 1))))) (aM (d9 (lF X.gc 6 X.gv) (λi=>i)) (esC (aM gX (esC (aM cG (esC (eN "groups") esN)) esN)) esN)))) (aN "k") (aD (aX "place" (aB aH (aB aI (aB aI (aB aI (eN "groups") (eN "k")) (eK (.int 0))) (eK (.int 1))) (aM yT (esC (b6 (kK C) [".0","g"] (iR (aM gX (esC (eN "k") esN))) (aN "g") (aU (tE (aB aI (eN "on") (eN "g"))) (tK true)) (bA (aB aI (eN "more") (eN "g")))) esN)))) (aD (sIf (tE (aB aI (eN "on") (eN "k"))) (aD (aX "work" (aM (d8 X) (esC (eN "work") (esC (eN "place") (esC (aB aI (eN "back") (eN "k")) (esC (eN "second") (esC (eN "first") esN))))))) (sK .next)) (aD (aX "work" (aM (d8 X) (esC (eN "work") (esC (eN "place") (esC (aB aI (eN "groups") (eN "k")) (esC (eN "first") (esC (eN "second") esN))))))) (sK .next))) (aD (cY (eT (sU (tE (aB aI (eN "on") (eN "k"))))) (qV (eN "on") (eN "k"))) (aD (sIf (tE (aB (bB not) (eN "work") (aM (fU X) (esC (eN "first") (esC (eN "second") (esC (eN "changes") (esC (eN "reach") (esC (eN "on") esN)))))))) (aD (fM (eK (.bool false))) (sK .next)) (sK .next)) (aD (sIf (aU (tE (aB (oIn not) (eK (.bool false)) (eN "on"))) (aU (tE (aB (bB not) (eN "work") (eN "second"))) (tK true))) (aD (fM (eK (.bool false))) (sK .next)) (sK .next)) (sK .next)))))))
theorem aA0:Sx C 12 (eF P) L 270 (stA 10) 18 (qH X):=(SV.for_ (K:=(aT C)) (IV.list (EV.binOp (EV.binOp EV.nm (EV.slice3 EV.nm PV.none PV.none (EV.neg EV.int) (λ_ _=>rfl)) OpR.add) (EV.call (CV.listG X.gc X.gv (Nat.le_of_ble_eq_true rfl)) X.g_list (EVs.cons (EV.call CV.range X.g_range (EVs.cons (EV.call (CV.lenM X.km) X.g_len (EVs.cons EV.nm EVs.nil)) EVs.nil)) EVs.nil)) OpR.add)) AV.name (SVs.cons (SV.assign (EV.binOp (EV.idx (EV.idx (EV.idx EV.nm EV.nm) EV.int) EV.int) (EV.call CV.sum X.g_sum (EVs.cons (EV.comp ⟨rfl,⋯,⋯,⋯⟩ ⋯ dF.range (IV.range (EV.call CV.range X.g_range (EVs.cons EV.nm EVs.nil))) (λ_=>(ALV.name ⋯)) (λ_=>(CnV.cons (TV.val (EV.idx EV.nm EV.nm)) CnV.nil)) (λ_=>(BV.last (EV.idx EV.nm EV.nm) rfl)) ⟨trivial,Nat.le_of_ble_eq_true rfl⟩ (λ_=>rfl)) EVs.nil)) OpR.add)) (SVs.cons (SV.ite (TV.val (EV.idx EV.nm EV.nm)) (SVs.cons (SV.assign (EV.call ((nH X).lift rfl) X.g__law_turn (EVs.cons EV.nm (EVs.cons EV.nm (EVs.cons (EV.idx EV.nm EV.nm) (EVs.cons EV.nm (EVs.cons EV.nm EVs.nil))))))) SVs.nil) (SVs.cons (SV.assign (EV.call ((nH X).lift rfl) X.g__law_turn (EVs.cons EV.nm (EVs.cons EV.nm (EVs.cons (EV.idx EV.nm EV.nm) (EVs.cons EV.nm (EVs.cons EV.nm EVs.nil))))))) SVs.nil)) (SVs.cons (SV.assigns (EV.not (EV.idx EV.nm EV.nm)) (ALs.one (AV.sub EV.nm EV.nm))) (SVs.cons (SV.ite (TV.cmp1 EV.nm (EV.call ((uM X).lift rfl) X.g__law_mixed (EVs.cons EV.nm (EVs.cons EV.nm (EVs.cons EV.nm (EVs.cons EV.nm (EVs.cons EV.nm EVs.nil)))))) OpR.ne) (SVs.cons (SV.ret EV.bool) SVs.nil) SVs.nil) (SVs.cons (SV.ite (TV.boolOp (bK.and_cons (TV.cmp1 EV.bool EV.nm OpR.notIn) (bK.and_cons (TV.cmp1 EV.nm EV.nm OpR.ne) bK.and_nil))) (SVs.cons (SV.ret EV.bool) SVs.nil) SVs.nil) SVs.nil))))) ⟨trivial,Nat.le_of_ble_eq_true rfl⟩ (λ_=>rfl))
noncomputable def qG(X:XX C):SF:=(fM (eOr (aB (bB not) (eN "groups") (gU esN)) (aB (bB id) (eN "first") (eN "second"))))
theorem aAz:Sx C 12 (eF P) L 270 (stA 10) 19 (qG X):=(SV.ret (EV.or2 (EV.cmp1 EV.nm (EV.list EVs.nil) OpR.ne) (EV.cmp1 EV.nm EV.nm OpR.eq)))
noncomputable def aAc(X:XX C):SF:=(aD (uH X) (aD (uG X) (aD (uF X) (aD (uE X) (aD (uD X) (aD (uC X) (aD (uB X) (aD (uA X) (aD (t9 X) (aD (t8 X) (aD (qP X) (aD (qO X) (aD (qN X) (aD (qM X) (aD (qL X) (aD (qK X) (aD (qJ X) (aD (qI X) (aD (qH X) (aD (qG X) (sK .next)))))))))))))))))))))
theorem sv_law:SVs C 12 (callEnvC (b5 (eF P)) L 270) (b9 (stA 10)) (aAc X):=(SVs.cons (aC4 X P L) (SVs.cons (aC3 X P L) (SVs.cons (aC2 X P L) (SVs.cons (aC1 X P L) (SVs.cons (aC0 X P L) (SVs.cons (aCz X P L) (SVs.cons (aCy X P L) (SVs.cons (aCx X P L) (SVs.cons (aCw X P L) (SVs.cons (aCv X P L) (SVs.cons (aA8 X P L) (SVs.cons (aA7 X P L) (SVs.cons (aA6 X P L) (SVs.cons (aA5 X P L) (SVs.cons (aA4 X P L) (SVs.cons (aA3 X P L) (SVs.cons (aA2 X P L) (SVs.cons (aA1 X P L) (SVs.cons (aA0 X P L) (SVs.cons (aAz X P L) SVs.nil))))))))))))))))))))
noncomputable def c_law(X:XX C):CF:=l8 ["script"] [] (aAc X)
theorem cv_law(X:XX C):CV C 13 (.ref 270) (c_law X):=CV.def_ X.d_law ⋯ X.b_law (λ_ _=>.nil) (dT ⋯) (λL=>sv_law X X.w.params L)
end
section
variable {a b:List Int}{n:Int}
noncomputable def eqO(i j k:Int):Op:=⟨.eq,i,i+k,j,j+k⟩
noncomputable def chO(g:Tg)(i j i' j':Int):Op:=⟨g,i,i',j,j'⟩
inductive Gk(n:Int)(a b:List Int):List Op->Int->Int->List Op->List (List Op)->Prop
 |e0 {cur:List Op}:Gk n a b cur a.length b.length [] [cur]
 |e1 {cur:List Op}{i j k:Int} (p:0<k) (m:Mt a b i j k) (ei:i+k=a.length) (ej:j+k=b.length):Gk n a b cur i j [eqO i j k] [cur++[(eqO i j k).hd n]]
 |join {cur:List Op}{i j k i' j':Int}{g:Tg}{rest:List Op}{gs:List (List Op)} (p:0<k) (hk:k<=n+n) (m:Mt a b i j k) (hg:g.isEq=false) (hi:i+k<=i') (hj:j+k<=j')
   (h:Gk n a b (cur++[eqO i j k,chO g (i+k) (j+k) i' j']) i' j' rest gs):Gk n a b cur i j (eqO i j k :: chO g (i+k) (j+k) i' j' :: rest) gs
 |cut {cur:List Op}{i j k i' j':Int}{g:Tg}{rest:List Op}{gs:List (List Op)} (p:0<k) (hk:n+n<k) (m:Mt a b i j k) (hg:g.isEq=false) (hi:i+k<=i') (hj:j+k<=j')
   (h:Gk n a b [(eqO i j k).tl n,chO g (i+k) (j+k) i' j'] i' j' rest gs):Gk n a b cur i j (eqO i j k :: chO g (i+k) (j+k) i' j' :: rest) ((cur++[(eqO i j k).hd n]) :: gs)
theorem aHq{g:Tg}(h:g≠ .eq):g.isEq=false:=by
 cases g with
 |eq=>exact absurd rfl h
 |_=>rfl
theorem oE{o:Op}(h:o.tag.isEq=false):∀ l:List Op,gR n (o :: l)=o :: gR n l
 | []=>by
  show [bif o.tag.isEq then o.hd n else o]= [o]
  rw [h];rfl
 |x :: l=>rfl
theorem lI{o:Op}(h:o.tag.isEq=false)(cur l:List Op):grps n cur (o :: l)=grps n (cur++[o]) l:=by
 have:rZ n o=false:=by unfold rZ;rw[h];rfl
 rw [jE,this];rfl
theorem aH5(cur:List Op)(x y:Op)(l:List Op):j3 (cur++(x :: y :: l))=true:=by
 cases cur with
 |nil=>rfl
 |cons z t=>cases t<;>rfl
theorem yF{cur:List Op}(h:j3 cur=true)(x:Op):j3 (cur++[x])=true:=by
 cases cur with
 |nil=>cases h
 |cons z t=>cases t<;>rfl
theorem big_eq{i j k:Int}:rZ n (eqO i j k)=decide (n+n<k):=by
 show decide (i+k-i>n+n)=_
 rw [show i+k-i=k from A214]
theorem yW{o:Op}(n0:0<=n):rZ n (o.hd n)=false:=by
 have: ¬(min o.i2 (o.i1+n)-o.i1>n+n):=by
  have:=Int.min_le_right o.i2 (o.i1+n)
  exact A215 n0
 show(o.tag.isEq && decide (min o.i2 (o.i1+n)-o.i1>n+n))=false
 rw [decide_eq_false this,Bool.and_false]
theorem Cod.end{f:Option Bool}{i j:Int}{l:List Op}(h:Cod a b f i j l)(e:l= []):i=a.length/\j=b.length:=by
 cases h with
 |nil=>exact⟨rfl,rfl⟩
 |eq=>cases e
 |ch=>cases e
inductive CoI(a b:List Int)(f:Option Bool)(i j:Int):Op->List Op->Prop
 |eq {k:Int}{l:List Op} (hf:f≠some true) (p:0<k) (m:Mt a b i j k) (h:Cod a b (some true) (i+k) (j+k) l):CoI a b f i j (eqO i j k) l
 |ch {i' j':Int}{g:Tg}{l:List Op} (hf:f≠some false) (hg:g.isEq=false) (hi:i<=i') (hj:j<=j') (h:Cod a b (some false) i' j' l):CoI a b f i j (chO g i j i' j') l
theorem Cod.inv{f:Option Bool}{i j:Int}{o:Op}{l:List Op}(h:Cod a b f i j (o :: l)):CoI a b f i j o l:=by
 generalize e:o :: l=L at h
 cases h with
 |nil=>cases e
 |eq hf p m h=>cases e;exact .eq hf p m h
 |ch hf hg hi hj lt h=>cases e;exact .ch hf (aHq hg) hi hj h
theorem Gk.of(n0:0<=n):∀ {rest:List Op}{cur:List Op}{i j:Int},Cod a b (some false) i j rest->j3 cur=true->Gk n a b cur i j rest (grps n cur (gR n rest))
 | [],cur,i,j,h,hc=>by
  refine xA (h.end rfl) λz186 z187=>?_;subst z186;subst z187
  show Gk n a b cur _ _ [] (bif j3 cur then [cur] else [])
  rw [hc];exact .e0
 | [o],cur,i,j,h,hc=>by
  cases h.inv with
  |ch hf=>exact absurd rfl hf
  | @eq k _ hf p m h=>
   show Gk n a b cur i j [eqO i j k] (grps n cur [(eqO i j k).hd n])
   rw [jE,yW n0]
   show Gk n a b cur i j [eqO i j k] (bif j3 (cur++[(eqO i j k).hd n]) then [cur++[(eqO i j k).hd n]] else [])
   rw [yF hc]
   exact .e1 p m (h.end rfl).1 (h.end rfl).2
 |o :: c :: rest,cur,i,j,h,hc=>by
  cases h.inv with
  |ch hf=>exact absurd rfl hf
  | @eq k _ hf p m h=>
   cases h.inv with
   |eq hf=>exact absurd rfl hf
   | @ch i' j' g _ hf hg hi hj h=>
   show Gk n a b cur i j (eqO i j k :: chO g (i+k) (j+k) i' j' :: rest) (grps n cur (eqO i j k :: gR n (chO g (i+k) (j+k) i' j' :: rest)))
   rw [jE,big_eq,oE (o:=chO g (i+k) (j+k) i' j') hg,lI (o:=chO g (i+k) (j+k) i' j') hg,lI (o:=chO g (i+k) (j+k) i' j') hg]
   by_cases q:n+n<k
   ·rw[decide_eq_true q]
    exact .cut p q m hg hi hj (Gk.of n0 h rfl)
   ·rw[decide_eq_false q]
    refine .join p (Int.not_lt.mp q) m hg hi hj ?_
    rw [cond_false,List.append_assoc]
    exact Gk.of n0 h (aH5 _ _ _ _)
inductive Gp(n:Int)(a b:List Int):List Op->List (List Op)->Prop
 |no {l:List Op} (h:l= []∨∃ k,l= [eqO 0 0 k]) (e:a=b):Gp n a b l []
 |ch {g:Tg}{i j:Int}{rest:List Op}{gs:List (List Op)} (hg:g.isEq=false) (hi:0<=i) (hj:0<=j) (h:Gk n a b [chO g 0 0 i j] i j rest gs):Gp n a b (chO g 0 0 i j :: rest) gs
 |eq {g:Tg}{k i j:Int}{rest:List Op}{gs:List (List Op)} (p:0<k) (m:Mt a b 0 0 k) (hg:g.isEq=false) (hi:k<=i) (hj:k<=j) (h:Gk n a b [(eqO 0 0 k).tl n,chO g k k i j] i j rest gs):Gp n a b (eqO 0 0 k :: chO g k k i j :: rest) gs
theorem len0{l:List Int}{z:Int}(h:z=0)(e:z=l.length):l= []:=List.eq_nil_of_length_eq_zero (A216 h e)
theorem mt_all{k:Int}(m:Mt a b 0 0 k)(ea:k=a.length)(eb:k=b.length):a=b:=by
 refine List.ext_getElem (A217 ea eb) λt h1 h2=>?_
 have:=m t (Int.natCast_nonneg t) (A218 eb h2)
 unfold av at this
 rw [Int.zero_add,Int.toNat_natCast,List.getD_eq_getElem?_getD,List.getD_eq_getElem?_getD,List.getElem?_eq_getElem h1,List.getElem?_eq_getElem h2]at this
 exact this
theorem big_tl{o:Op}(n0:0<=n):rZ n (o.tl n)=false:=by
 have: ¬(o.i2-max o.i1 (o.i2-n)>n+n):=by
  have:=Int.le_max_right o.i1 (o.i2-n)
  exact A219 n0
 show(o.tag.isEq && decide (o.i2-max o.i1 (o.i2-n)>n+n))=false
 rw [decide_eq_false this,Bool.and_false]
theorem Gp.of(n0:0<=n):∀ {l:List Op},Cod a b none 0 0 l->Gp n a b l (groups n l)
 | [],h=>by
  have e:groups n []= []:=by
   show grps n [] [((eqO 0 0 1).tl n).hd n]= []
   rw [jE,yW n0];rfl
  rw [e]
  refine xA (h.end rfl) λh1 h2=>?_
  exact .no (.inl rfl) ((len0 rfl h1).trans (len0 rfl h2).symm)
 | [o],h=>by
  cases h.inv with
  | @ch i' j' g _ hf hg hi hj h=>
   have e:groups n [chO g 0 0 i' j']=grps n [chO g 0 0 i' j'] (gR n []):=by
    show grps n [] (gR n ((bif g.isEq then _ else chO g 0 0 i' j') :: []))=_
    rw [hg,cond_false,oE (o:=chO g 0 0 i' j') hg,lI (o:=chO g 0 0 i' j') hg];rfl
   rw [e]
   exact .ch hg hi hj (Gk.of n0 h (by show(!g.isEq)=true;rw[hg];rfl))
  | @eq k _ hf p m h=>
   have e:groups n [eqO 0 0 k]= []:=by
    show grps n [] [((eqO 0 0 k).tl n).hd n]= []
    rw [jE,yW n0];rfl
   rw [e]
   refine xA (h.end rfl) λh1 h2=>?_
   rw [Int.zero_add]at h1 h2
   exact .no (.inr ⟨k,rfl⟩) (mt_all m h1 h2)
 |o :: c :: rest,h=>by
  cases h.inv with
  | @ch i' j' g _ hf hg hi hj h=>
   have e:groups n (chO g 0 0 i' j' :: c :: rest)=grps n [chO g 0 0 i' j'] (gR n (c :: rest)):=by
    show grps n [] (gR n ((bif g.isEq then _ else chO g 0 0 i' j') :: c :: rest))=_
    rw [hg,cond_false,oE (o:=chO g 0 0 i' j') hg,lI (o:=chO g 0 0 i' j') hg];rfl
   rw [e]
   exact .ch hg hi hj (Gk.of n0 h (by show(!g.isEq)=true;rw[hg];rfl))
  | @eq k _ hf p m h=>
   rw [Int.zero_add]at h
   cases h.inv with
   |eq hf=>exact absurd rfl hf
   | @ch i' j' g _ hf hg hi hj h=>
   have e:groups n (eqO 0 0 k :: chO g k k i' j' :: rest)=grps n [(eqO 0 0 k).tl n,chO g k k i' j'] (gR n rest):=by
    show grps n [] ((eqO 0 0 k).tl n :: gR n (chO g k k i' j' :: rest))=_
    rw [jE,big_tl n0,oE (o:=chO g k k i' j') hg,cond_false,lI (o:=chO g k k i' j') hg];rfl
   rw [e]
   exact .eq p m hg hi hj (Gk.of n0 h rfl)
end
section
variable {a b:List Int}{n:Int}
noncomputable def chg(l:List Op):List Op:=l.filter λo=> !o.tag.isEq
theorem fT(l m:List Op):chg (l++m)=chg l++chg m:=List.filter_append ..
theorem m4{o:Op}(h:o.tag.isEq=false)(l:List Op):chg (o :: l)=o :: chg l:=List.filter_cons_of_pos (by rw[h];rfl)
theorem iM{o:Op}(h:o.tag.isEq=true)(l:List Op):chg (o :: l)=chg l:=List.filter_cons_of_neg (by rw[h];nofun)
theorem aF5{i j i' j':Int}{g:Tg}(o:Op)(ho:o.tag.isEq=true)(hg:g.isEq=false)(l:List Op):chg [o,chO g i j i' j']++chg l=chO g i j i' j' :: chg l:=by
 rw [iM ho,m4 (o:=chO g i j i' j') hg];rfl
theorem kT{i j i' j':Int}{g:Tg}(hg:g.isEq=false)(l:List Op):chg (chO g i j i' j' :: l)=chO g i j i' j' :: chg l:=m4 (o:=chO g i j i' j') hg l
theorem iN{i j k x y i' j':Int}{g:Tg}(hg:g.isEq=false)(l:List Op):chg (eqO i j k :: chO g x y i' j' :: l)=chO g x y i' j' :: chg l:=(iM (o:=eqO i j k) rfl _).trans (kT hg l)
theorem Gk.flat{cur rest:List Op}{i j:Int}{gs:List (List Op)}(h:Gk n a b cur i j rest gs):chg gs.flatten=chg cur++chg rest:=by
 induction h with
 |e0=>rw [List.flatten_singleton];exact(List.append_nil _).symm
 |e1=>rw [List.flatten_singleton,fT];rfl
 |join p hk m hg hi hj h ih=>rw [ih,fT,List.append_assoc,aF5 (eqO _ _ _) rfl hg,iN hg]
 | @cut cur i j k i' j' g rest gs p hk m hg hi hj h ih=>
  rw [List.flatten_cons,fT,ih,fT,List.append_assoc,aF5 ((eqO _ _ _).tl n) rfl hg,iN hg];rfl
theorem Gp.flat{l:List Op}{gs:List (List Op)}(h:Gp n a b l gs):chg gs.flatten=chg l:=by
 cases h with
 |no h e=>rcases h with rfl |⟨k,rfl⟩<;>rfl
 |ch hg hi hj h=>rw [h.flat,<-fT];rfl
 |eq p m hg hi hj h=>rw [h.flat,aF5 ((eqO _ _ _).tl n) rfl hg,iN hg]
noncomputable def zz:List Op->Nat
 | []=>0
 | [o]=>bif o.tag.isEq then 1 else 0
 |_ :: l=>zz l
theorem Gk.cnt{cur rest:List Op}{i j:Int}{gs:List (List Op)}(h:Gk n a b cur i j rest gs):gs.flatten.length+1=cur.length+2*(chg rest).length+gs.length+zz rest:=by
 have z2:∀ {x y:Op}{l:List Op},y.tag.isEq=false->zz (x :: y :: l)=zz l:=λ{x y l} h=>by
  cases l with
  |nil=>show(bif y.tag.isEq then 1 else 0)=0;rw[h];rfl
  |cons=>rfl
 induction h with
 |e0=>rw [List.flatten_singleton];rfl
 |e1=>rw [List.flatten_singleton,List.length_append];rfl
 | @join cur i j k i' j' g rest gs p hk m hg hi hj h ih=>
  rw [ih,z2 hg,iN hg,List.length_append,List.length_cons,List.length_cons,List.length_cons,List.length_nil,Nat.mul_add]
  exact A220
 | @cut cur i j k i' j' g rest gs p hk m hg hi hj h ih=>
  rw [z2 hg,iN hg,List.flatten_cons,List.length_append,List.length_append,List.length_cons,List.length_cons,List.length_cons,List.length_nil]
  rw [List.length_cons,List.length_singleton]at ih
  exact A221 ih
noncomputable def bare(l:List Op):List Op:=chg (l.take 1++l.drop (l.length-1))
theorem m7:∀ (l:List Op),l≠ []->(chg (l.drop (l.length-1))).length+zz l=1
 | [],h=>absurd rfl h
 | [o],_=>by
  show(chg [o]).length+(bif o.tag.isEq then 1 else 0)=1
  cases e:o.tag.isEq with
  |true=>rw [iM e];rfl
  |false=>rw [m4 e];rfl
 |o :: p :: l,_=>m7 (p :: l) nofun
theorem Gp.cnt{l:List Op}{gs:List (List Op)}(h:Gp n a b l gs):gs.flatten.length+(bare l).length=2*(chg l).length+gs.length:=by
 cases h with
 |no h e=>rcases h with rfl |⟨k,rfl⟩<;>rfl
 | @ch g i j rest gs hg hi hj h=>
  have e:=h.cnt
  have f:=m7 (chO g 0 0 i j :: rest) nofun
  have zq:zz (chO g 0 0 i j :: rest)=zz rest:=by
   cases rest with
   |nil=>show(bif g.isEq then 1 else 0)=0;rw[hg];rfl
   |cons=>rfl
  rw [zq]at f
  have eb:(bare (chO g 0 0 i j :: rest)).length=1+(chg ((chO g 0 0 i j :: rest).drop ((chO g 0 0 i j :: rest).length-1))).length:=by
   unfold bare
   rw [fT,List.length_append]
   refine congrArg (·+_) ?_
   show(chg [chO g 0 0 i j]).length=1
   rw [kT hg];rfl
  have e3:(chg (chO g 0 0 i j :: rest)).length=(chg rest).length+1:=by rw[kT hg];rfl
  rw [List.length_singleton]at e
  exact A222 e f eb e3
 | @eq g k i j rest gs p m hg hi hj h=>
  have e:=h.cnt
  have f:=m7 (eqO 0 0 k :: chO g k k i j :: rest) nofun
  have zq:zz (eqO 0 0 k :: chO g k k i j :: rest)=zz rest:=by
   cases rest with
   |nil=>show(bif g.isEq then 1 else 0)=0;rw[hg];rfl
   |cons=>rfl
  rw [zq]at f
  have eb:(bare (eqO 0 0 k :: chO g k k i j :: rest)).length=(chg ((eqO 0 0 k :: chO g k k i j :: rest).drop ((eqO 0 0 k :: chO g k k i j :: rest).length-1))).length:=by
   unfold bare
   rw [fT,List.length_append]
   exact Nat.zero_add _
  have e3:(chg (eqO 0 0 k :: chO g k k i j :: rest)).length=(chg rest).length+1:=by rw[iN hg];rfl
  rw [List.length_cons,List.length_singleton]at e
  exact A223 e f eb e3
noncomputable def s1:List Op->Int | []=>0 |o :: _=>o.i1
noncomputable def s2:List Op->Int | []=>0 | [o]=>o.i2 |_ :: l=>s2 l
noncomputable def t1:List Op->Int | []=>0 |o :: _=>o.j1
noncomputable def t2:List Op->Int | []=>0 | [o]=>o.j2 |_ :: l=>t2 l
theorem kZ(o:Op):∀ l:List Op,s2 (l++[o])=o.i2
 | []=>rfl
 | [x]=>rfl
 |x :: y :: l=>kZ o (y :: l)
theorem y9(o:Op):∀ l:List Op,t2 (l++[o])=o.j2
 | []=>rfl
 | [x]=>rfl
 |x :: y :: l=>y9 o (y :: l)
theorem xK{l:List Op}(h:l≠ [])(m:List Op):s1 (l++m)=s1 l:=by cases l with |nil=>exact absurd rfl h |cons=>rfl
noncomputable def rc(n z lo hi:Int):List (Int×Int)->List (Int×Int)
 | []=>[(lo,hi)]
 |p :: r=>bif decide (max 0 (p.1-n)<=hi) then rc n z lo (min z (p.2+n)) r else(lo,hi) :: rc n z (max 0 (p.1-n)) (min z (p.2+n)) r
theorem rc_c(n z lo hi:Int)(p:Int×Int)(r:List (Int×Int)):rc n z lo hi (p :: r)=bif decide (max 0 (p.1-n)<=hi) then rc n z lo (min z (p.2+n)) r else(lo,hi) :: rc n z (max 0 (p.1-n)) (min z (p.2+n)) r:=rfl
noncomputable def reach(n z:Int):List (Int×Int)->List (Int×Int)
 | []=>[]
 |p :: r=>rc n z (max 0 (p.1-n)) (min z (p.2+n)) r
noncomputable def pI(o:Op):Int×Int:=(o.i1,o.i2)
noncomputable def pJ(o:Op):Int×Int:=(o.j1,o.j2)
noncomputable def sI(g:List Op):Int×Int:=(s1 g,s2 g)
noncomputable def sJ(g:List Op):Int×Int:=(t1 g,t2 g)
theorem Gk.bd{cur rest:List Op}{i j:Int}{gs:List (List Op)}(h:Gk n a b cur i j rest gs):i<=a.length/\j<=b.length:=by
 induction h with
 |e0=>exact⟨Int.le_refl _,Int.le_refl _⟩
 |e1 p m ei ej=>exact⟨A224 p ei,A224 p ej⟩
 |join p hk m hg hi hj h ih=>exact⟨A225 p hi ih,A226 p hj ih⟩
 |cut p hk m hg hi hj h ih=>exact⟨A225 p hi ih,A226 p hj ih⟩
theorem aG8{z n i k x lo:Int}{y:Int}{r:List (Int×Int)}(i0:0<=i)(n0:0<=n)(hk:k<=n+n)(k0:0<=k)(hz:i+k<=z):rc n z lo (min z (i+n)) ((i+k,y) :: r)=rc n z lo (min z (y+n)) r:=by
 rw [rc_c,decide_eq_true,cond_true]
 exact Int.max_le.mpr ⟨Int.le_min.mpr ⟨Int.le_trans (Int.add_nonneg i0 k0) hz,Int.add_nonneg i0 n0⟩,Int.le_min.mpr ⟨Int.le_trans (Int.sub_le_self _ n0) hz,Int.sub_right_le_of_le_add (Int.add_assoc i n n▸Int.add_le_add_left hk i)⟩⟩
theorem rc_cut{z n i k lo:Int}{y:Int}{r:List (Int×Int)}(i0:0<=i)(n0:0<=n)(hk:n+n<k)(hz:i+k<=z):rc n z lo (min z (i+n)) ((i+k,y) :: r)=(lo,min (i+k) (i+n)) :: rc n z (max i (i+k-n)) (min z (y+n)) r:=by
 have nk:n<=k:=Int.le_trans (cX n n0) (Int.le_of_lt hk)
 have h1:i+n<=i+k:=Int.add_le_add_left nk i
 have h2:i+n<i+k-n:=Int.lt_sub_right_of_add_lt (Int.add_assoc i n n▸Int.add_lt_add_left hk i)
 have h3:0<=i+k-n:=Int.le_trans (Int.add_nonneg i0 n0) (Int.le_of_lt h2)
 rw [rc_c,decide_eq_false,cond_false,Int.min_eq_right (Int.le_trans h1 hz),Int.min_eq_right h1,Int.max_eq_right (show 0<=((i+k,y):Int×Int).1-n from h3),Int.max_eq_right (Int.le_trans (cX i n0) (Int.le_of_lt h2))]
 rw [Int.min_eq_right (Int.le_trans h1 hz)]
 exact Int.not_le.mpr (Int.lt_of_lt_of_le h2 (Int.le_max_right ..))
theorem Gk.rcI(n0:0<=n){cur rest:List Op}{i j:Int}{gs:List (List Op)}(h:Gk n a b cur i j rest gs):cur≠ []->0<=i->s2 cur=i->gs.map sI=rc n a.length (s1 cur) (min a.length (i+n)) ((chg rest).map pI):=by
 induction h with
 | @e0 cur=>
  intro c0 i0 e
  show [(s1 cur,s2 cur)]= [(s1 cur,min (a.length:Int) (a.length+n))]
  rw [e,Int.min_eq_left (Int.le_add_of_nonneg_right n0)]
 | @e1 cur i j k p m ei ej=>
  intro c0 i0 e
  show [(s1 (cur++[(eqO i j k).hd n]),s2 (cur++[(eqO i j k).hd n]))]= [(s1 cur,min (a.length:Int) (i+n))]
  rw [xK c0,kZ,<-ei];rfl
 | @join cur i j k i' j' g rest gs p hk m hg hi hj h ih=>
  intro c0 i0 e
  have bd:=h.bd
  rw [iN hg,List.map_cons]
  show _=rc n a.length (s1 cur) (min a.length (i+n)) ((i+k,i') :: _)
  rw [aG8 i0 n0 hk (Int.le_of_lt p) (Int.le_trans hi bd.1) (x:=i'),ih (by simp) (A227 p hi i0) ?_,xK c0]
  rw [show cur++[eqO i j k,chO g (i+k) (j+k) i' j']=(cur++[eqO i j k])++[chO g (i+k) (j+k) i' j'] from by rw[List.append_assoc];rfl,kZ];rfl
 | @cut cur i j k i' j' g rest gs p hk m hg hi hj h ih=>
  intro c0 i0 e
  have bd:=h.bd
  rw [iN hg,List.map_cons,List.map_cons]
  show _=rc n a.length (s1 cur) (min a.length (i+n)) ((i+k,i') :: _)
  rw [rc_cut i0 n0 hk (Int.le_trans hi bd.1),ih nofun (A227 p hi i0) rfl]
  show(s1 (cur++[(eqO i j k).hd n]),s2 (cur++[(eqO i j k).hd n])) :: _=_
  rw [xK c0,kZ];rfl
theorem Gp.rI(n0:0<=n){l:List Op}{gs:List (List Op)}(h:Gp n a b l gs):gs.map sI=reach n a.length ((chg l).map pI):=by
 cases h with
 |no h e=>rcases h with rfl |⟨k,rfl⟩<;>rfl
 | @ch g i j rest gs hg hi hj h=>
  rw [kT hg,h.rcI n0 nofun hi rfl]
  show _=rc n a.length (max 0 (0-n)) _ _
  rw [show max 0 (0-n)=0 from A228 n0];rfl
 | @eq g k i j rest gs p m hg hi hj h=>
  rw [iN hg,h.rcI n0 nofun (A229 p hi) rfl]
  show rc n a.length (max 0 (0+k-n)) _ _=rc n a.length (max 0 (k-n)) _ _
  rw [Int.zero_add];rfl
noncomputable def Op.sw(o:Op):Op:=⟨o.tag,o.j1,o.j2,o.i1,o.i2⟩
theorem yQ:∀ l:List Op,chg (l.map Op.sw)=(chg l).map Op.sw
 | []=>rfl
 |o :: l=>by
  rw [List.map_cons]
  cases e:o.tag.isEq with
  |true=>rw [iM e,iM (o:=o.sw) e,yQ l]
  |false=>rw [m4 e,m4 (o:=o.sw) e,yQ l];rfl
theorem Mt.sw{i j k:Int}(m:Mt a b i j k):Mt b a j i k:=λt h1 h2=>(m t h1 h2).symm
theorem Gk.sw{cur rest:List Op}{i j:Int}{gs:List (List Op)}(h:Gk n a b cur i j rest gs):Gk n b a (cur.map Op.sw) j i (rest.map Op.sw) (gs.map (List.map Op.sw)):=by
 induction h with
 |e0=>exact .e0
 | @e1 cur i j k p m ei ej=>
  rw [show [cur++[(eqO i j k).hd n]].map (List.map Op.sw)= [cur.map Op.sw++[((eqO j i k).hd n)]] from congrArg (λx=>[x]) List.map_append]
  exact .e1 p m.sw ej ei
 | @join cur i j k i' j' g rest gs p hk m hg hi hj h ih=>
  rw [List.map_append]at ih
  exact .join p hk m.sw hg hj hi ih
 | @cut cur i j k i' j' g rest gs p hk m hg hi hj h ih=>
  rw [List.map_cons (f:=List.map Op.sw),List.map_append]
  exact .cut p hk m.sw hg hj hi ih
theorem Gp.sw{l:List Op}{gs:List (List Op)}(h:Gp n a b l gs):Gp n b a (l.map Op.sw) (gs.map (List.map Op.sw)):=by
 cases h with
 |no h e=>exact .no (h.imp (λh=>by rw[h];rfl) fun⟨k,h⟩=>⟨k,by rw[h];rfl⟩) e.symm
 |ch hg hi hj h=>exact .ch hg hj hi h.sw
 |eq p m hg hi hj h=>exact .eq p m.sw hg hj hi h.sw
theorem s1_sw:∀ l:List Op,s1 (l.map Op.sw)=t1 l
 | []=>rfl
 |o :: l=>rfl
theorem s2_sw:∀ l:List Op,s2 (l.map Op.sw)=t2 l
 | []=>rfl
 | [o]=>rfl
 |o :: p :: l=>s2_sw (p :: l)
theorem Gp.rJ(n0:0<=n){l:List Op}{gs:List (List Op)}(h:Gp n a b l gs):gs.map sJ=reach n b.length ((chg l).map pJ):=by
 have e:=h.sw.rI n0
 rw [yQ,List.map_map,List.map_map]at e
 refine Eq.trans (List.map_congr_left λg _=>?_) e
 show(t1 g,t2 g)=(s1 (g.map Op.sw),s2 (g.map Op.sw))
 rw [s1_sw,s2_sw]
end
section
variable {a b:List Int}{n:Int}
noncomputable def sl(l:List Int)(i j:Int):List Int:=(l.drop i.toNat).take (j.toNat-i.toNat)
theorem d5{l:List Int}{i j k:Int}(h1:i<=j)(h2:j<=k):sl l i j++sl l j k=sl l i k:=by
 unfold sl
 have q1:=Int.toNat_le_toNat h1
 have q2:=Int.toNat_le_toNat h2
 generalize i.toNat=x at q1 ⊢
 generalize j.toNat=y at q1 q2 ⊢
 generalize k.toNat=z at q2 ⊢
 obtain⟨u,rfl⟩:=Nat.le.dest q1
 obtain⟨v,rfl⟩:=Nat.le.dest q2
 rw [Nat.add_sub_cancel_left,Nat.add_sub_cancel_left,Nat.add_assoc,Nat.add_sub_cancel_left,List.take_add,List.drop_drop]
theorem nZ{l:List Int}{i:Int}:sl l i i= []:=by unfold sl;rw[Nat.sub_self,List.take_zero]
theorem i5{l:List Int}{i:Int}:sl l i l.length=l.drop i.toNat:=by
 unfold sl
 rw [Int.toNat_natCast,List.take_of_length_le]
 rw [List.length_drop];exact Nat.le_refl _
theorem eZ{l:List Int}{i j:Int}(h0:0<=i)(h1:i<=j)(h2:j<=l.length):((sl l i j).length:Int)=j-i:=by
 obtain⟨x,rfl⟩:=Int.eq_ofNat_of_zero_le h0
 obtain⟨u,rfl⟩:=Int.le.dest h1
 have h3:x+u<=l.length:=Int.ofNat_le.mp h2
 show(((l.drop x).take (x+u-x)).length:Int)=_
 rw [List.length_take,List.length_drop,Nat.add_sub_cancel_left,Nat.min_eq_left (Nat.le_sub_of_add_le (Nat.add_comm x u▸h3)),Int.add_comm,Int.add_sub_cancel]
theorem Mt.pre{i j k t:Int}(m:Mt a b i j k)(h:t<=k):Mt a b i j t:=λx h1 h2=>m x h1 (Int.lt_of_lt_of_le h2 h)
theorem Mt.suf{i j k t:Int}(m:Mt a b i j k)(h:0<=t):Mt a b (i+t) (j+t) (k-t):=λx h1 h2=>by
 rw [Int.add_assoc,Int.add_assoc]
 exact m (t+x) (Int.add_nonneg h h1) (Int.add_lt_of_lt_sub_left h2)
theorem av_at{l:List Int}{i:Int}{t:Nat}(i0:0<=i)(h:i.toNat+t<l.length):av l (i+t)=l[i.toNat+t]:=by
 unfold av
 rw [List.getD_eq_getElem?_getD,show (i+(t:Int)).toNat=i.toNat+t from A230 i0,List.getElem?_eq_getElem h];rfl
theorem zE{i j k:Int}(m:Mt a b i j k)(i0:0<=i)(j0:0<=j)(ia:i+k<=a.length)(jb:j+k<=b.length)(k0:0<=k):sl a i (i+k)=sl b j (j+k):=by
 have la:=eZ i0 (cX i k0) ia
 have lb:=eZ j0 (cX j k0) jb
 refine List.ext_getElem (A231 la lb) λt h1 h2=>?_
 have tk:(t:Int)<k:=A232 lb h2
 have h1:i.toNat+t<a.length:=by clear la lb h1 h2;exact A233 i0 ia tk
 have h2:j.toNat+t<b.length:=by clear la lb h1 h2;exact A233 j0 jb tk
 have:=m t (Int.natCast_nonneg t) tk
 rw [av_at i0 h1,av_at j0 h2]at this
 exact(List.getElem_take.trans List.getElem_drop).trans (this.trans (List.getElem_take.trans List.getElem_drop).symm)
inductive Cq(a b:List Int):Int->Int->List Op->Int->Int->Prop
 |nil {i j:Int}:Cq a b i j [] i j
 |eq {i j k x y:Int}{l:List Op} (k0:0<=k) (m:Mt a b i j k) (h:Cq a b (i+k) (j+k) l x y):Cq a b i j (eqO i j k :: l) x y
 |ch {i j i' j' x y:Int}{g:Tg}{l:List Op} (hg:g.isEq=false) (hi:i<=i') (hj:j<=j') (h:Cq a b i' j' l x y):Cq a b i j (chO g i j i' j' :: l) x y
theorem Cq.app{i j x y u v:Int}{l m:List Op}(h:Cq a b i j l x y)(h2:Cq a b x y m u v):Cq a b i j (l++m) u v:=by
 induction h with
 |nil=>exact h2
 |eq k0 m h ih=>exact .eq k0 m (ih h2)
 |ch hg hi hj h ih=>exact .ch hg hi hj (ih h2)
theorem Cq.le{i j x y:Int}{l:List Op}(h:Cq a b i j l x y):i<=x/\j<=y:=by
 induction h with
 |nil=>exact⟨Int.le_refl _,Int.le_refl _⟩
 |eq k0 m h ih=>exact⟨Int.le_trans (cX _ k0) ih.1,Int.le_trans (cX _ k0) ih.2⟩
 |ch hg hi hj h ih=>exact⟨Int.le_trans hi ih.1,Int.le_trans hj ih.2⟩
theorem Cq.sw{i j x y:Int}{l:List Op}(h:Cq a b i j l x y):Cq b a j i (l.map Op.sw) y x:=by
 induction h with
 |nil=>exact .nil
 |eq k0 m h ih=>exact .eq k0 m.sw ih
 |ch hg hi hj h ih=>exact .ch hg hj hi ih
theorem Cq.hd{i j x y:Int}{l:List Op}(h:Cq a b i j l x y)(ne:l≠ []):s1 l=i/\t1 l=j:=by
 cases h with
 |nil=>exact absurd rfl ne
 |eq=>exact⟨rfl,rfl⟩
 |ch=>exact⟨rfl,rfl⟩
theorem n4(o:Op){l:List Op}(h:l≠ []):s2 (o :: l)=s2 l/\t2 (o :: l)=t2 l:=by
 cases l with
 |nil=>exact absurd rfl h
 |cons=>exact⟨rfl,rfl⟩
theorem Cq.last{i j x y:Int}{l:List Op}(h:Cq a b i j l x y)(ne:l≠ []):s2 l=x/\t2 l=y:=by
 induction h with
 |nil=>exact absurd rfl ne
 | @eq i j k x y l k0 m h ih=>
  by_cases q:l= []
  ·subst q;cases h;exact⟨rfl,rfl⟩
  ·rw[(n4 _ q).1,(n4 _ q).2];exact ih q
 | @ch i j i' j' x y g l hg hi hj h ih=>
  by_cases q:l= []
  ·subst q;cases h;exact⟨rfl,rfl⟩
  ·rw[(n4 _ q).1,(n4 _ q).2];exact ih q
theorem Cq.mem{i j x y:Int}{l:List Op}(h:Cq a b i j l x y):∀ o∈chg l,i<=o.i1/\o.i1<=o.i2/\o.i2<=x:=by
 induction h with
 |nil=>exact λ_ h=>absurd h List.not_mem_nil
 | @eq i j k x y l k0 m h ih=>
  rw [iM rfl]
  exact λo ho=>⟨Int.le_trans (cX _ k0) (ih o ho).1,(ih o ho).2⟩
 | @ch i j i' j' x y g l hg hi hj h ih=>
  rw [kT hg]
  intro o ho
  rcases List.mem_cons.mp ho with rfl |ho
  ·exact⟨Int.le_refl _,hi,h.le.1⟩
  ·exact⟨Int.le_trans hi (ih o ho).1,(ih o ho).2⟩
inductive GL(a b:List Int):Bool->Int->Int->List (List Op)->Prop
 |nil {s:Bool}{e f k:Int} (k0:0<=k) (m:Mt a b e f k) (ei:e+k=a.length) (ej:f+k=b.length):GL a b s e f []
 |cons {s:Bool}{e f t x y:Int}{g:List Op}{gs:List (List Op)} (t0:0<=t) (st:s=true->0<t) (m:Mt a b e f t) (c:Cq a b (e+t) (f+t) g x y) (ne:g≠ []) (h:GL a b true x y gs):GL a b s e f (g :: gs)
theorem zO{i k:Int}:min (i+k) (i+n)=i+min k n:=by
 rcases Int.le_total k n with h |h
 ·rw[Int.min_eq_left h,Int.min_eq_left (Int.add_le_add_left h i)]
 ·rw[Int.min_eq_right h,Int.min_eq_right (Int.add_le_add_left h i)]
theorem zR{i k:Int}(h:n<=k):max i (i+k-n)=i+(k-n):=by
 rw [Int.add_sub_assoc]
 exact Int.max_eq_right (cX i (Int.sub_nonneg_of_le h))
theorem w6{i k:Int}:i+k=i+(k-n)+n:=by rw[Int.add_assoc,Int.sub_add_cancel]
theorem hd_eq{i j k:Int}:(eqO i j k).hd n=eqO i j (min k n):=by
 show Op.mk .eq i (min (i+k) (i+n)) j (min (j+k) (j+n))=Op.mk .eq i (i+min k n) j (j+min k n)
 rw [zO,zO]
theorem tl_eq{i j k:Int}(h:n<=k):(eqO i j k).tl n=eqO (i+(k-n)) (j+(k-n)) n:=by
 show Op.mk .eq (max i (i+k-n)) (i+k) (max j (j+k-n)) (j+k)=Op.mk .eq (i+(k-n)) (i+(k-n)+n) (j+(k-n)) (j+(k-n)+n)
 rw [zR h,zR h,<-w6,<-w6]
theorem mt0{i j:Int}:Mt a b i j 0:=λt h1 h2=>absurd h2 (Int.not_lt.mpr h1)
theorem GL.le{s:Bool}{e f:Int}{gs:List (List Op)}(h:GL a b s e f gs):e<=a.length/\f<=b.length:=by
 induction h with
 |nil k0 m ei ej=>exact⟨ei▸cX _ k0,ej▸cX _ k0⟩
 |cons t0 st m c ne h ih=>exact⟨Int.le_trans (cX _ t0) (Int.le_trans c.le.1 ih.1),Int.le_trans (cX _ t0) (Int.le_trans c.le.2 ih.2)⟩
theorem Gk.gl(n0:0<=n){cur rest:List Op}{i j:Int}{gs:List (List Op)}(h:Gk n a b cur i j rest gs):
  ∀ {s:Bool}{e f t:Int},0<=t->(s=true->0<t)->Mt a b e f t->Cq a b (e+t) (f+t) cur i j->cur≠ []->GL a b s e f gs:=by
 induction h with
 |e0=>exact λt0 st m0 c ne=>.cons t0 st m0 c ne (.nil (Int.le_refl 0) mt0 (Int.add_zero _) (Int.add_zero _))
 | @e1 cur i j k p m ei ej=>
  intro s e f t t0 st m0 c ne
  rw [hd_eq]
  have h1:=Int.min_le_left k n
  refine .cons t0 st m0 (c.app (.eq (Int.le_min.mpr ⟨Int.le_of_lt p,n0⟩) (m.pre h1) .nil)) (List.append_ne_nil_of_left_ne_nil ne _) (.nil (Int.sub_nonneg_of_le h1) (m.suf (Int.le_min.mpr ⟨Int.le_of_lt p,n0⟩)) ?_ ?_)
  ·rw[<-ei];exact A234
  ·rw[<-ej];exact A234
 | @join cur i j k i' j' g rest gs p hk m hg hi hj h ih=>
  exact λt0 st m0 c ne=>ih t0 st m0 (c.app (.eq (Int.le_of_lt p) m (.ch hg hi hj .nil))) (List.append_ne_nil_of_left_ne_nil ne _)
 | @cut cur i j k i' j' g rest gs p hk m hg hi hj h ih=>
  intro s e f t t0 st m0 c ne
  have h1:n<=k:=A235 p hk
  have h2:0<k-n-n:=A236 hk
  rw [hd_eq,Int.min_eq_right h1]
  rw [tl_eq h1]at ih
  have e1:∀ x:Int,x+n+(k-n-n)=x+(k-n):=λx=>A237
  have e2:∀ x:Int,x+(k-n)+n=x+k:=λx=>A238
  refine .cons t0 st m0 (c.app (.eq n0 (m.pre h1) .nil)) (List.append_ne_nil_of_left_ne_nil ne _) (ih (Int.le_of_lt h2) (λ_=>h2) ((m.suf n0).pre (A239 n0)) ?_ nofun)
  rw [e1,e1]
  refine .eq n0 ((m.suf (t:=k-n) (A240 h1)).pre A241) ?_
  rw [e2,e2]
  exact .ch hg hi hj .nil
theorem Gp.gl(n0:0<=n){l:List Op}{gs:List (List Op)}(h:Gp n a b l gs):GL a b false 0 0 gs:=by
 cases h with
 |no h e=>subst e;exact .nil (Int.natCast_nonneg a.length) (λt _ _=>rfl) (Int.zero_add _) (Int.zero_add _)
 |ch hg hi hj h=>exact h.gl n0 (Int.le_refl 0) nofun mt0 (.ch hg hi hj .nil) nofun
 | @eq g k i j rest gs p m hg hi hj h=>
  have ht:(eqO 0 0 k).tl n=eqO (0+(k-min k n)) (0+(k-min k n)) (min k n):=by
   show Op.mk .eq (max 0 (0+k-n)) (0+k) (max 0 (0+k-n)) (0+k)=Op.mk .eq (0+(k-min k n)) (0+(k-min k n)+min k n) (0+(k-min k n)) (0+(k-min k n)+min k n)
   rw [show max 0 (0+k-n)=0+(k-min k n) from A242,show 0+k=0+(k-min k n)+min k n from A243]
  rw [ht]at h
  have h1:=Int.min_le_left k n
  have h0:0<=min k n:=Int.le_min.mpr ⟨Int.le_of_lt p,n0⟩
  have h2:0<=k-min k n:=Int.sub_nonneg_of_le h1
  refine h.gl n0 h2 nofun (m.pre (Int.sub_le_self _ h0)) (.eq h0 ((m.suf h2).pre A244) ?_) nofun
  rw [show 0+(k-min k n)+min k n=k from A245]
  exact .ch hg hi hj .nil
end
section
variable {a b:List Int}{n:Int}
noncomputable def mx(a b:List Int):Int->List (Op×Bool)->List Int
 |s,[]=>a.drop s.toNat
 |s,c :: r=>(sl a s c.1.i1++bif c.2 then sl b c.1.j1 c.1.j2 else sl a c.1.i1 c.1.i2)++mx a b c.1.i2 r
theorem mx_n(a b:List Int)(s:Int):mx a b s []=a.drop s.toNat:=rfl
theorem mx_c(a b:List Int)(s:Int)(c:Op×Bool)(r:List (Op×Bool)):mx a b s (c :: r)=(sl a s c.1.i1++bif c.2 then sl b c.1.j1 c.1.j2 else sl a c.1.i1 c.1.i2)++mx a b c.1.i2 r:=rfl
noncomputable def Xf(a b:List Int)(f:Bool)(g:List Op):List Int:=bif f then sl b (t1 g) (t2 g) else sl a (s1 g) (s2 g)
noncomputable def wk(a b:List Int):Int->List (List Op)->List Bool->List Int
 |e,g :: gs,f :: fs=>(sl a e (s1 g)++Xf a b f g)++wk a b (s2 g) gs fs
 |e,_,_=>a.drop e.toNat
theorem wk_c(a b:List Int)(e:Int)(g:List Op)(gs:List (List Op))(f:Bool)(fs:List Bool):wk a b e (g :: gs) (f :: fs)=(sl a e (s1 g)++Xf a b f g)++wk a b (s2 g) gs fs:=rfl
noncomputable def tgd:List (List Op)->List Bool->List (Op×Bool)
 |g :: gs,f :: fs=>(chg g).map (·,f)++tgd gs fs
 |_,_=>[]
theorem tgd_c(g:List Op)(gs:List (List Op))(f:Bool)(fs:List Bool):tgd (g :: gs) (f :: fs)=(chg g).map (·,f)++tgd gs fs:=rfl
theorem y8:∀ {gs:List (List Op)}{fs:List Bool},gs.length=fs.length->(tgd gs fs).map Prod.fst=chg gs.flatten
 | [],_,_=>rfl
 |g :: gs,[],h=>nomatch h
 |g :: gs,f :: fs,h=>by
  rw [tgd_c,List.map_append,y8 (Nat.succ.inj h),List.flatten_cons,fT,List.map_map]
  exact congrArg (·++_) (List.map_id _)
noncomputable def Fm1(a:List Int)(x:Int)(R:List (Op×Bool)):Prop:=x<=a.length/\∀ c∈R,x<=c.1.i1
theorem aDz{s x:Int}{R:List (Op×Bool)}(h:s<=x)(F:Fm1 a x R):mx a b s R=sl a s x++mx a b x R:=by
 cases R with
 |nil=>rw [mx_n,mx_n,<-i5,<-i5,d5 h F.1]
 |cons c R=>
  have:=F.2 c List.mem_cons_self
  rw [mx_c,mx_c,<-d5 h this,List.append_assoc,List.append_assoc,List.append_assoc]
theorem Cq.mx{i j x y:Int}{l:List Op}(h:Cq a b i j l x y){f:Bool}{R:List (Op×Bool)}(F:Fm1 a x R)(yb:y<=b.length):∀ {s:Int},0<=i->0<=j->s<=i->
  Mine.mx a b s ((chg l).map (·,f)++R)=(sl a s i++bif f then sl b j y else sl a i x)++Mine.mx a b x R:=by
 induction h with
 | @nil i j=>
  intro s i0 j0 hs
  rw [nZ,nZ,Bool.cond_self,List.append_nil]
  exact aDz hs F
 | @eq i j k x y l k0 m h ih=>
  intro s i0 j0 hs
  rw [iM rfl,ih F yb (Int.add_nonneg i0 k0) (Int.add_nonneg j0 k0) (Int.le_trans hs (cX _ k0)),<-d5 hs (cX i k0)]
  rw [List.append_assoc (sl a s i)]
  refine congrArg (λz=>(sl a s i++z)++_) ?_
  cases f with
  |false=>exact d5 (cX _ k0) h.le.1
  |true=>
   show _++sl b (j+k) y=sl b j y
   rw [zE m i0 j0 (Int.le_trans h.le.1 F.1) (Int.le_trans h.le.2 yb) k0,d5 (cX _ k0) h.le.2]
 | @ch i j i' j' x y g l hg hi hj h ih=>
  intro s i0 j0 hs
  rw [kT hg,List.map_cons,List.cons_append,mx_c]
  show(sl a s i++bif f then sl b j j' else sl a i i')++Mine.mx a b i' _=_
  rw [ih F yb (Int.le_trans i0 hi) (Int.le_trans j0 hj) (Int.le_refl _),nZ,List.nil_append,<-List.append_assoc,List.append_assoc (sl a s _)]
  refine congrArg (λz=>(sl a s i++z)++_) ?_
  cases f with
  |false=>exact d5 hi h.le.1
  |true=>exact d5 hj h.le.2
theorem GL.low{s:Bool}{e f:Int}{gs:List (List Op)}(h:GL a b s e f gs):∀ {fs:List Bool},∀ c∈tgd gs fs,e<=c.1.i1/\c.1.i1<=c.1.i2/\(s=true->e<c.1.i1):=by
 induction h with
 |nil=>exact λ_ h=>absurd h List.not_mem_nil
 | @cons s e f t x y g gs t0 st m c ne h ih=>
  intro fs
  cases fs with
  |nil=>exact λ_ h=>absurd h List.not_mem_nil
  |cons v fs=>
   intro q hq
   refine Or.elim (List.mem_append.mp hq) (λhq=>?_) λhq=>?_
   ·refine xEA (List.mem_map.mp hq) λo ho z192=>?_;subst z192
    have:=c.mem o ho
    exact⟨Int.le_trans (cX _ t0) this.1,this.2.1,λq=>Int.lt_of_lt_of_le (Int.lt_add_of_pos_right _ (st q)) this.1⟩
   ·have:=ih q hq
    have l:=Int.le_trans (cX _ t0) c.le.1
    exact⟨Int.le_trans l this.1,this.2.1,λ_=>Int.lt_of_le_of_lt l (this.2.2 rfl)⟩
theorem GL.mx{s:Bool}{e f:Int}{gs:List (List Op)}(h:GL a b s e f gs):0<=e->0<=f->∀ {fs:List Bool},gs.length=fs.length->Mine.mx a b e (tgd gs fs)=wk a b e gs fs:=by
 induction h with
 |nil=>intro _ _ fs _;cases fs<;>rfl
 | @cons s e f t x y g gs t0 st m c ne h ih=>
  intro e0 f0 fs hl
  cases fs with
  |nil=>cases hl
  |cons v fs=>
   have e1:=Int.add_nonneg e0 t0
   have f1:=Int.add_nonneg f0 t0
   rw [tgd_c,c.mx ⟨h.le.1,λq hq=>(h.low q hq).1⟩ h.le.2 e1 f1 (cX _ t0),ih (Int.le_trans e1 c.le.1) (Int.le_trans f1 c.le.2) (Nat.succ.inj hl),wk_c]
   unfold Xf
   rw [(c.hd ne).1,(c.hd ne).2,(c.last ne).1,(c.last ne).2]
noncomputable def inR(p:Int×Int)(c:Op):Bool:=decide (p.1<=c.i1) && decide (c.i2<=p.2)
inductive AtR:List (Int×Int)->List Bool->Op->Bool->Nat->Prop
 |here {p:Int×Int}{sp:List (Int×Int)}{f:Bool}{fs:List Bool}{c:Op} (h:inR p c=true):AtR (p :: sp) (f :: fs) c f 0
 |there {p:Int×Int}{sp:List (Int×Int)}{f f':Bool}{fs:List Bool}{c:Op}{k:Nat} (h:inR p c=false) (t:AtR sp fs c f k):AtR (p :: sp) (f' :: fs) c f (k+1)
theorem GL.at{s:Bool}{e f:Int}{gs:List (List Op)}(h:GL a b s e f gs):∀ {fs:List Bool},∀ c∈tgd gs fs,∃ k,AtR (gs.map sI) fs c.1 c.2 k:=by
 induction h with
 |nil=>exact λ_ h=>absurd h List.not_mem_nil
 | @cons s e f t x y g gs t0 st m c ne h ih=>
  intro fs
  cases fs with
  |nil=>exact λ_ h=>absurd h List.not_mem_nil
  |cons v fs=>
   intro q hq
   have es:sI g=(e+t,x):=by unfold sI;rw[(c.hd ne).1,(c.last ne).1]
   rw [List.map_cons,es]
   refine Or.elim (List.mem_append.mp hq) (λhq=>?_) λhq=>?_
   ·refine xEA (List.mem_map.mp hq) λo ho z193=>?_;subst z193
    have:=c.mem o ho
    exact⟨0,.here (by unfold inR;rw[decide_eq_true this.1,decide_eq_true this.2.2];rfl)⟩
   ·refine xE (ih q hq) λk hk=>?_
    have:=h.low q hq
    exact⟨k+1,.there (by unfold inR;rw[decide_eq_false (Int.not_le.mpr (Int.lt_of_lt_of_le (this.2.2 rfl) this.2.1)),Bool.and_false]) hk⟩
theorem GL.on{s:Bool}{e f:Int}{gs:List (List Op)}(h:GL a b s e f gs):0<=e->0<=f->∀ {fs:List Bool},gs.length=fs.length->(∀ v∈fs,v=true)->wk a b e gs fs=b.drop f.toNat:=by
 induction h with
 | @nil s e f k k0 m ei ej=>
  intro e0 f0 fs _ _
  have:a.drop e.toNat=b.drop f.toNat:=by rw[<-i5,<-i5,<-ei,<-ej];exact zE m e0 f0 (Int.le_of_eq ei) (Int.le_of_eq ej) k0
  cases fs<;>exact this
 | @cons s e f t x y g gs t0 st m c ne h ih=>
  intro e0 f0 fs hl hv
  cases fs with
  |nil=>cases hl
  |cons v fs=>
   have e1:=Int.add_nonneg e0 t0
   have f1:=Int.add_nonneg f0 t0
   have la:=h.le
   rw [wk_c,hv v List.mem_cons_self]
   unfold Xf
   rw [cond_true,(c.hd ne).1,(c.hd ne).2,(c.last ne).1,(c.last ne).2,ih (Int.le_trans e1 c.le.1) (Int.le_trans f1 c.le.2) (Nat.succ.inj hl) (λv hv'=>hv v (List.mem_cons_of_mem _ hv'))]
   rw [zE m e0 f0 (Int.le_trans c.le.1 la.1) (Int.le_trans c.le.2 la.2) t0,d5 (cX _ t0) c.le.2,<-i5,<-i5,d5 (Int.le_trans (cX _ t0) c.le.2) la.2]
theorem GL.off{s:Bool}{e f:Int}{gs:List (List Op)}(h:GL a b s e f gs):∀ {fs:List Bool},gs.length=fs.length->(∀ v∈fs,v=false)->wk a b e gs fs=a.drop e.toNat:=by
 induction h with
 |nil=>intro fs _ _;cases fs<;>rfl
 | @cons s e f t x y g gs t0 st m c ne h ih=>
  intro fs hl hv
  cases fs with
  |nil=>cases hl
  |cons v fs=>
   rw [wk_c,hv v List.mem_cons_self]
   unfold Xf
   rw [cond_false,(c.hd ne).1,(c.last ne).1,ih (Nat.succ.inj hl) (λv hv'=>hv v (List.mem_cons_of_mem _ hv'))]
   rw [d5 (cX _ t0) c.le.1,<-i5,<-i5,d5 (Int.le_trans (cX _ t0) c.le.1) h.le.1]
noncomputable def mor(g:List Op):Int:=t2 g-t1 g-s2 g+s1 g
noncomputable def smr:List Bool->List Int->Nat->Int
 |f :: fs,m :: ms,k+1=>(bif f then m else 0)+smr fs ms k
 |_,_,_=>0
theorem smr_c(f:Bool)(fs:List Bool)(m:Int)(ms:List Int)(k:Nat):smr (f :: fs) (m :: ms) (k+1)=(bif f then m else 0)+smr fs ms k:=rfl
inductive Tn(a b:List Int)(e:Int)(gs:List (List Op))(fs:List Bool)(k:Nat)(g:List Op):Prop
 |mk {P S:List Int}{i j x y:Int} (pl:(P.length:Int)=s1 g-e+smr fs (gs.map mor) k) (w:∀ v,wk a b e gs (fs.set k v)=(P++Xf a b v g)++S) (c:Cq a b i j g x y) (ne:g≠ []) (i0:0<=i) (j0:0<=j) (xa:x<=a.length) (yb:y<=b.length):Tn a b e gs fs k g
theorem GL.turn{s:Bool}{e f:Int}{gs:List (List Op)}(h:GL a b s e f gs):0<=e->0<=f->∀ {fs:List Bool}{k:Nat}{g:List Op},gs.length=fs.length->gs[k]? =some g->Tn a b e gs fs k g:=by
 induction h with
 |nil=>intro _ _ fs k g _ h;cases h
 | @cons s e f t x y g gs t0 st m c ne h ih=>
  intro e0 f0 fs k g' hl hk
  cases fs with
  |nil=>cases hl
  |cons v fs=>
   have e1:=Int.add_nonneg e0 t0
   have f1:=Int.add_nonneg f0 t0
   have ce:=(c.hd ne).1
   cases k with
   |zero=>
    cases hk
    refine .mk (P:=sl a e (s1 g)) (S:=wk a b (s2 g) gs fs) ?_ (λv=>rfl) c ne e1 f1 h.le.1 h.le.2
    show _=s1 g-e+0
    rw [ce,eZ e0 (cX _ t0) (Int.le_trans c.le.1 h.le.1),Int.add_zero]
   |succ k=>
    obtain⟨pl,w,c',ne',i0,j0,xa,yb⟩:=ih (Int.le_trans e1 c.le.1) (Int.le_trans f1 c.le.2) (Nat.succ.inj hl) (k:=k) (g:=g') hk
    rename_i P S _ _ _ _
    refine .mk (P:=(sl a e (s1 g)++Xf a b v g)++P) (S:=S) ?_ (λu=>?_) c' ne' i0 j0 xa yb
    ·rw[List.length_append,List.length_append]
     show _=s1 g'-e+((bif v then mor g else 0)+smr fs (gs.map mor) k)
     have h1:=eZ e0 (cX e t0) (Int.le_trans c.le.1 h.le.1)
     have h2:((Xf a b v g).length:Int)=(bif v then mor g else 0)+(x-(e+t)):=by
      unfold Xf mor
      rw [ce,(c.hd ne).2,(c.last ne).1,(c.last ne).2]
      cases v with
      |false=>
       show((sl a (e+t) x).length:Int)=0+(x-(e+t))
       rw [eZ e1 c.le.1 h.le.1,Int.zero_add]
      |true=>
       show((sl b (f+t) y).length:Int)=_
       rw [eZ f1 c.le.2 h.le.2]
       show _=(y-(f+t)-x+(e+t))+(x-(e+t))
       exact A246
     rw [ce,Int.natCast_add,Int.natCast_add,h1,h2,pl]
     exact A247
    ·show(sl a e (s1 g)++Xf a b v g)++wk a b (s2 g) gs (fs.set k u)=_
     rw [(c.last ne).1,w u,List.append_assoc,List.append_assoc,List.append_assoc,List.append_assoc,List.append_assoc]
end
section
variable {C:Cx}{H B:MH}
inductive Its(K:ItK C)(B:MH):K.σ->List V->Prop
 |nil {it:K.σ} (h:∀ {H:MH}{P:Option (V×K.σ)->MH->Prop},Hx B H->P none H->K.nx it H P):Its K B it []
 |cons {it it':K.σ}{v:V}{vs:List V} (h:∀ {H:MH}{P:Option (V×K.σ)->MH->Prop},Hx B H->P (some (v,it')) H->K.nx it H P) (t:Its K B it' vs):Its K B it (v :: vs)
theorem jD{r:Nat}{vs:List V}(hl:lst B (.ref r)=some vs):∀ (rest:List V) (p:Nat),vs.drop p=rest->Its (aT C) B (r,p) rest
 | [],p,hd=>.nil λ{H P} hx q=>Lf.mk (p:=none) (by
   show(lst H (.ref r)).map _=_
   rw [hx.lst hl,Option.map_some,List.getElem?_eq_none (List.drop_eq_nil_iff.mp hd)];rfl) q
 |v :: rest,p,hd=>.cons (λ{H P} hx q=>Lf.mk (p:=some (v,(r,p+1))) (by
   show(lst H (.ref r)).map _=_
   rw [hx.lst hl,Option.map_some,show vs[p]? =some v from by rw[<-List.head?_drop,hd];rfl];rfl) q)
  (jD hl rest (p+1) (by rw[<-List.drop_drop,hd];rfl))
theorem n7:∀ (n:Nat) (x:Int),Its (kK C) B (x,n,1) (jX x 1 n)
 |0,x=>.nil λhx q=>q
 |n+1,x=>.cons (λhx q=>q) (n7 n (x+1))
noncomputable def enl:Nat->List V->List V
 |_,[]=>[]
 |p,v :: vs=>.tup [.int p,v] :: enl (p+1) vs
theorem enl_c(p:Nat)(v:V)(vs:List V):enl p (v :: vs)= .tup [.int p,v] :: enl (p+1) vs:=rfl
theorem v5{r:Nat}{vs:List V}(hl:lst B (.ref r)=some vs):∀ (rest:List V) (p:Nat),vs.drop p=rest->Its (j4 C) B (r,p) (enl p rest)
 | [],p,hd=>.nil λ{H P} hx q=>n5 (o:=none) (hx.lst hl) (List.getElem?_eq_none (List.drop_eq_nil_iff.mp hd)) q
 |v :: rest,p,hd=>.cons (λ{H P} hx q=>n5 (o:=some v) (hx.lst hl) (by rw[<-List.head?_drop,hd];rfl) q)
  (v5 hl rest (p+1) (by rw[<-List.drop_drop,hd];rfl))
structure Put(I:Lo->Prop)(B:MH)(ai:Nat)(out:List V)(F:Lo->MH->LK->Prop):Prop where
 p:∀ {lo:Lo}{H:MH}{acc:List V}{P:LK},I lo->Hx B H->H[ai]? =some (.list acc)->acc.length+out.length<1000000->
 (∀ {lo' H'},I lo'->Hx B H'->H'[ai]? =some (.list (acc++out))->P lo' H')->F lo H P
noncomputable def dA(tgt:AF)(t:TF)(bf:Lo->MH->LK->Prop)(v:V):Lo->MH->LK->Prop:=λlo H P=>tgt v lo H λlo1 H1=>t lo1 H1 λb H2=>bif b then bf lo1 H2 P else P lo1 H2
theorem pB{α:Type}{K:ItK C}{tgt:AF}{t:TF}{bf:BF}{ai:Nat}(f:α->V)(out:α->List V)(I:Lo->Prop):∀ (l:List α){it:K.σ},Its K B it (l.map f)->(∀ x∈l,Put I B ai (out x) (dA tgt t (bf ai) (f x)))->
  ∀ {lo:Lo}{H:MH}{acc:List V}{P:LK},I lo->Hx B H->H[ai]? =some (.list acc)->acc.length+(l.flatMap out).length<1000000->(∀ {lo' H'},I lo'->Hx B H'->H'[ai]? =some (.list (acc++l.flatMap out))->P lo' H')->pC K tgt t (bf ai) (l.length+1) it lo H P
 | [],it,hi,hs,lo,H,acc,P,i,hx,ha,hl,k=>by
  cases hi with
  |nil h=>exact h hx (k i hx (by rw[List.flatMap_nil,List.append_nil];exact ha))
 |x :: l,it,hi,hs,lo,H,acc,P,i,hx,ha,hl,k=>by
  cases hi with
  |cons h ht=>
   rw [List.flatMap_cons,List.length_append]at hl
   refine h hx ((hs x List.mem_cons_self).p i hx ha (A248 hl) λ{lo' H'} i' hx' ha'=>?_)
   refine pB f out I l ht (λy hy=>hs y (List.mem_cons_of_mem _ hy)) i' hx' ha' (by rw[List.length_append];exact A249 hl) λ{lo2 H2} i2 hx2 ha2=>k i2 hx2 ?_
   rw [List.flatMap_cons,<-List.append_assoc];exact ha2
theorem aAj{α:Type}{K:ItK C}{hid:List Str}{tgt:AF}{t:TF}{bf:BF}{lo:Lo}{Q:EK}{it:K.σ}(f:α->V)(out:α->List V)(I:Lo->Prop)(l:List α)
  (hi:Its K H it (l.map f)) (i0:I (hide hid lo)) (hl:(l.flatMap out).length<1000000) (hs:∀ x∈l,Put I H H.length (out x) (dA tgt t (bf H.length) (f x)))
  (k:∀ {H'},Hx H H'->H'[H.length]? =some (.list (l.flatMap out))->Q (.ref H.length) H'):∃ n,pC K tgt t (bf H.length) n it (hide hid lo) (H++[.list []]) λ_ H2=>Q (.ref H.length) H2:=
 ⟨_,pB f out I l hi hs i0 (.app _ _) (aY _ _) (by rw[List.length_nil,Nat.zero_add];exact hl) λ_ hx ha=>k hx ha⟩
theorem jP{α:Type}{K:ItK C}{hid:List Str}{fi:IF K}{tgt:AF}{t:TF}{bf:BF}{lo:Lo}{Q:EK}{it:K.σ}(f:α->V)(out:α->List V)(I:Lo->Prop)(l:List α)
  (hf:∀ {P:K.σ->MH->Prop},P it H->fi lo H P) (hi:Its K H it (l.map f)) (i0:I (hide hid lo)) (hl:(l.flatMap out).length<1000000) (hs:∀ x∈l,Put I H H.length (out x) (dA tgt t (bf H.length) (f x)))
  (k:∀ {H'},Hx H H'->H'[H.length]? =some (.list (l.flatMap out))->Q (.ref H.length) H'):b6 K hid fi tgt t bf lo H Q:=
 hf (aAj f out I l hi i0 hl hs k)
theorem iL_i{f:EF}{lo:Lo}{r:Nat}{vs:List V}{P:Nat×Nat->MH->Prop}(hf:∀ {Q:EK},Q (.ref r) H->f lo H Q)(hl:lst H (.ref r)=some vs)(q:P (r,0) H):iL f lo H P:=hf (Lf.mk (p:=r) rfl ⟨⟨_,hl⟩,q⟩)
theorem eX{α:Type}{hid:List Str}{x:Str}{tgt:AF}{t:TF}{bf:BF}{lo:Lo}{Q:EK}{r:Nat}(f:α->V)(out:α->List V)(I:Lo->Prop)(l:List α)(hn:lo x=some (.ref r))(h:lst H (.ref r)=some (l.map f))
  (i0:I (hide hid lo)) (hl:(l.flatMap out).length<1000000) (hs:∀ x∈l,Put I H H.length (out x) (dA tgt t (bf H.length) (f x)))
  (k:∀ {H'},Hx H H'->H'[H.length]? =some (.list (l.flatMap out))->Q (.ref H.length) H'):b6 (aT C) hid (iL (eN x)) tgt t bf lo H Q:=
 jP f out I l (iL_i (λq=>aV hn q) h) (jD h _ 0 rfl) i0 hl hs k
theorem xS{ai:Nat}{v:V}{lo:Lo}{I:Lo->Prop}{acc out:List V}{P:LK}(hb:B[ai]? =none)(hx:Hx B H)(ha:H[ai]? =some (.list acc))(hl:acc.length+out.length<1000000)(e:out= [v])(i:I lo)(k:∀ {lo' H'},I lo'->Hx B H'->H'[ai]? =some (.list (acc++out))->P lo' H'):
  Lf (H[ai]?.bind MO.own) λvs=>vs.length<1000000/\P lo (H.set ai (.list (vs++[v]))):=
 Lf.mk (dE ha) ⟨Nat.lt_of_le_of_lt (Nat.le_add_right _ _) hl,k i (hx.set hb) (by rw[e];exact aJ ha _)⟩
theorem xT{ai:Nat}{lo:Lo}{I:Lo->Prop}{acc out:List V}{P:LK}(hx:Hx B H)(ha:H[ai]? =some (.list acc))(e:out= [])(i:I lo)(k:∀ {lo' H'},I lo'->Hx B H'->H'[ai]? =some (.list (acc++out))->P lo' H'):P lo H:=
 k i hx (by rw[e,List.append_nil];exact ha)
structure Val(I:Lo->Prop)(B:MH)(ai:Nat)(v:V)(F:Lo->MH->EK->Prop):Prop where
 p:∀ {lo:Lo}{H:MH}{acc:List V}{Q:EK},I lo->Hx B H->H[ai]? =some (.list acc)->(∀ {H'},Hx B H'->H'[ai]? =some (.list acc)->Q v H')->F lo H Q
theorem tI{tgt:AF}{f:EF}{I J:Lo->Prop}{ai:Nat}{v w:V}(hb:B[ai]? =none)(ht:∀ {lo:Lo}{H:MH}{R:Lo->MH->Prop},I lo->(∀ {lo'},J lo'->I lo'->R lo' H)->tgt w lo H R)(hv:Val J B ai v f):Put I B ai [v] (dA tgt (tK true) (bA f ai) w):=
 ⟨λ{lo H acc P} i hx ha hl k=>ht i λ{lo'} j i'=>hv.p j hx ha λ{H'} hx' ha'=>xS hb hx' ha' hl rfl i' k⟩
theorem vA{xs:List PyData}(h:PyData.canLayAll0 xs=true)(d:(PyData.list xs).depth<=64):PySem.SeqAt.shaped (.list xs)=true:=by
 unfold PySem.SeqAt.shaped
 rw [decide_eq_true d,Bool.and_true];exact h
theorem wT{x y:V}{d:PyData}(h1:rd H eqD x=some d)(h2:rd H eqD y=some d)(s:PySem.SeqAt.shaped d=true):eqv H x y=some true:=by
 unfold eqv
 rw [h1,h2]
 show(if (PySem.SeqAt.shaped d && PySem.SeqAt.shaped d)=true then some (PyData.eqv d d) else none)=some true
 rw [s]
 refine congrArg some (PySem.SeqAt.eqv_refl d ?_)
 unfold PySem.SeqAt.shaped at s
 exact(Bool.and_eq_true_iff.mp s).1
end
section
variable {C:Cx}{H B:MH}
theorem rdMs{α:Type}{n:Nat}(f:α->V)(d:α->PyData):∀ l:List α,(∀ x∈l,rd H n (f x)=some (d x))->(l.map f).mapM (rd H n)=some (l.map d)
 | [],_=>rfl
 |x :: l,h=>by
  rw [List.map_cons,List.mapM_cons,h x List.mem_cons_self,rdMs f d l λy hy=>h y (List.mem_cons_of_mem _ hy)];rfl
theorem jT{α:Type}{r n:Nat}(f:α->V)(d:α->PyData){l:List α}(hl:lst H (.ref r)=some (l.map f))(h:∀ x∈l,rd H n (f x)=some (d x)):rd H (n+1) (.ref r)=some (.list (l.map d)):=by
 show(lst H (.ref r)).bind (λvs=>(vs.mapM (rd H n)).map PyData.list)=_
 rw [hl]
 show((l.map f).mapM (rd H n)).map PyData.list=_
 rw [rdMs f d l h];rfl
theorem vJ{α:Type}(d:α->PyData){m:Nat}:∀ l:List α,(∀ x∈l,(d x).canLay0=true/\(d x).depth<=m)->PyData.canLayAll0 (l.map d)=true/\PyData.depthAll (l.map d)<=m
 | [],_=>⟨rfl,Nat.zero_le _⟩
 |x :: l,h=>by
  have h1:=h x List.mem_cons_self
  have h2:=vJ d l λy hy=>h y (List.mem_cons_of_mem _ hy)
  refine⟨?_,Nat.max_le.mpr ⟨h1.2,h2.2⟩⟩
  show((d x).canLay0 && PyData.canLayAll0 (l.map d))=true
  rw [h1.1,h2.1];rfl
theorem sA{α:Type}{d:α->PyData}{l:List α}(h:∀ x∈l,(d x).canLay0=true/\(d x).depth<=9):PySem.SeqAt.shaped (.list (l.map d))=true:=
 vA (vJ d l h).1 (Nat.succ_le_of_lt (Nat.lt_of_le_of_lt (vJ d l h).2 (by decide)))
theorem eW{α:Type}{r r':Nat}(f:α->V)(d:α->PyData){l:List α}(h1:lst H (.ref r)=some (l.map f))(h2:lst H (.ref r')=some (l.map f))(hd:∀ x∈l,rd H 7 (f x)=some (d x))(hs:∀ x∈l,(d x).canLay0=true/\(d x).depth<=9):eqv H (.ref r) (.ref r')=some true:=
 wT (jT f d h1 hd) (jT f d h2 hd) (sA hs)
theorem sN{α:Type}{r r':Nat}(f:α->V)(d:α->PyData){l:List α}(h1:lst H (.ref r)=some (l.map f))(h2:lst H (.ref r')=some [])(hd:∀ x∈l,rd H 7 (f x)=some (d x))(hs:∀ x∈l,(d x).canLay0=true/\(d x).depth<=9):eqv H (.ref r) (.ref r')=some l.isEmpty:=by
 unfold eqv
 have e1:rd H eqD (.ref r)=_:=jT (n:=7) f d h1 hd
 have e2:rd H eqD (.ref r')=_:=jT (n:=7) (l:=[]) f d h2 nofun
 rw [e1,e2]
 show(if (PySem.SeqAt.shaped (.list (l.map d)) && PySem.SeqAt.shaped (.list []))=true then some (PyData.eqv (.list (l.map d)) (.list [])) else none)=_
 rw [sA hs]
 show some (PyData.eqvAll (l.map d) [])=_
 cases l<;>rfl
noncomputable def dI(x:Int):PyData:=.int x
theorem aFz(x:Int):rd H 7 (.int x)=some (dI x):=rfl
theorem aF0(x:Int):(dI x).canLay0=true/\(dI x).depth<=9:=⟨rfl,Nat.zero_le _⟩
noncomputable def pv(p:Int×Int):V:=.tup [.int p.1,.int p.2]
noncomputable def dP(p:Int×Int):PyData:=.tuple [.int p.1,.int p.2]
theorem aAh(p:Int×Int):rd H 7 (pv p)=some (dP p):=rfl
theorem aAi(p:Int×Int):(dP p).canLay0=true/\(dP p).depth<=9:=⟨rfl,(by decide:1<=9)⟩
noncomputable def dO(o:Op):PyData:=.tuple [.str o.tag.s,.int o.i1,.int o.i2,.int o.j1,.int o.j2]
theorem dO_rd(o:Op):rd H 7 o.v=some (dO o):=rfl
theorem dO_rd6(o:Op):rd H 6 o.v=some (dO o):=rfl
theorem dO_ok(o:Op):(dO o).canLay0=true/\(dO o).depth<=9:=⟨by
 obtain⟨t,_,_,_,_⟩:=o
 cases t<;>kernel_rfl,(by decide:1<=9)⟩
noncomputable def pk{α:Type}(vs:List α)(lo hi st:Option Int):List α:=(sliceRange (sliceBounds lo hi st vs.length).1 (sliceBounds lo hi st vs.length).2.1 (sliceBounds lo hi st vs.length).2.2).filterMap (vs[·]?)
theorem pk_V(vs:List V)(lo hi st:Option Int):zJ vs lo hi st=pk vs lo hi st:=rfl
theorem tM{α β:Type}(g:α->β)(vs:List α)(lo hi st:Option Int):pk (vs.map g) lo hi st=(pk vs lo hi st).map g:=by
 unfold pk
 rw [List.length_map,List.map_filterMap]
 congr 1
 funext i
 exact List.getElem?_map
theorem aDq{α:Type}(vs:List α)(lo hi st:Option Int):(pk vs lo hi st).length<=vs.length:=by
 have h:=slicePick_size_le (vs.map λ_=>Value.none).toArray lo hi st
 have e:(slicePick (vs.map λ_=>Value.none).toArray lo hi st).size=(pk (vs.map λ_=>Value.none) lo hi st).length:=by
  unfold slicePick pk
  rw [List.size_toArray,List.size_toArray]
  exact congrArg (λg=>(List.filterMap g _).length) (funext λi=>List.getElem?_toArray)
 rw [e,tM,List.length_map]at h
 exact Nat.le_trans h (by rw[List.size_toArray,List.length_map];exact Nat.le_refl _)
theorem pk_mem{α:Type}{vs:List α}{lo hi st:Option Int}{x:α}(h:x∈pk vs lo hi st):x∈vs:=by
 refine xEA (List.mem_filterMap.mp h) λi _ hi=>?_
 exact List.mem_of_getElem? hi
theorem i7{α:Type}(vs:List α)(lo hi:Option Int):pk vs lo hi none=(vs.drop (lo.elim 0 (clipAt vs.length))).take (hi.elim vs.length (clipAt vs.length)-lo.elim 0 (clipAt vs.length)):=by
 unfold pk
 rw [sliceBounds_plain]
 have e:(λi:Nat=>vs.toArray[i]?)=λi=>vs[i]? :=funext λi=>List.getElem?_toArray
 rw [<-e]
 show(sliceRange _ _ 1).filterMap (vs.toArray[·]?)=_
 rw [sliceRange_one,pick_run]
theorem oG{n:Nat}{x:Int}(h0:0<=x)(h1:x<=n):clipAt n x=x.toNat:=by
 refine xE (Int.eq_ofNat_of_zero_le h0) λm z194=>?_;subst z194
 rw [clipAt_nat,Nat.min_eq_left (Int.ofNat_le.mp h1),Int.toNat_natCast]
theorem vI{l:List Int}{i j:Int}(h0:0<=i)(h1:i<=j)(h2:j<=l.length):pk (l.map V.int) (some i) (some j) none=(sl l i j).map V.int:=by
 rw [tM,i7]
 show((l.drop (clipAt l.length i)).take (clipAt l.length j-clipAt l.length i)).map V.int=_
 rw [oG h0 (Int.le_trans h1 h2),oG (Int.le_trans h0 h1) h2];rfl
theorem pk_to{α:Type}{l:List α}{j:Int}(h1:0<=j)(h2:j<=l.length):pk l none (some j) none=l.take j.toNat:=by
 rw [i7]
 show((l.drop 0).take (clipAt l.length j-0))=_
 rw [oG h1 h2];rfl
theorem zI{α:Type}{l:List α}{j:Int}(h1:0<=j)(h2:j<=l.length):pk l (some j) none none=l.drop j.toNat:=by
 rw [i7]
 show((l.drop (clipAt l.length j)).take (l.length-clipAt l.length j))=_
 rw [oG h1 h2]
 exact List.take_of_length_le (by rw[List.length_drop];exact Nat.le_refl _)
theorem pk_to1{α:Type}(l:List α):pk l none (some 1) none=l.take 1:=by
 rw [i7]
 show((l.drop 0).take (clipAt l.length 1-0))=_
 rw [show clipAt l.length 1=min 1 l.length from clipAt_nat l.length 1]
 cases l with
 |nil=>rfl
 |cons x l=>rw [Nat.min_eq_left (show 1<=(x :: l).length from Nat.le_add_left 1 l.length)];rfl
theorem aHd{α:Type}(l:List α):pk l (some (-1)) none none=l.drop (l.length-1):=by
 rw [i7]
 show((l.drop (clipAt l.length (-1))).take (l.length-clipAt l.length (-1)))=_
 rw [show clipAt l.length (-1)=l.length-1 from clipAt_neg l.length 1 (Nat.le_refl 1)]
 exact List.take_of_length_le (by rw[List.length_drop];exact Nat.le_refl _)
theorem iT{r:Nat}{vs:List V}{lo hi st:Option Int}{Q:EK}(h:lst H (.ref r)=some vs)(hl:vs.length<1000000)(hst:st≠some 0)(q:Q (.ref H.length) (H++[.list (pk vs lo hi st)])):Lp (slc (.ref r) lo hi st H) Q:=by
 refine Lp.mk (v:=.ref H.length) (H:=H++[.list (pk vs lo hi st)]) ?_ q
 show(lst H (.ref r)).bind _=_
 rw [h]
 show(if vs.length<1000000/\st≠some 0 then mkL (zJ vs lo hi st) H else none)=_
 rw [if_pos ⟨hl,hst⟩,pk_V]
 exact if_pos (Nat.lt_of_le_of_lt (aDq ..) hl)
theorem kF{r r':Nat}{vs ws:List V}{Q:EK}(h:H[r]? =some (.list vs))(h':H[r']? =some (.list ws))(hl:vs.length+ws.length<1000000)(q:Q (.ref H.length) (H++[.list (vs++ws)])):Lp (aH (.ref r) (.ref r') H) Q:=by
 refine Lp.mk (v:=.ref H.length) (H:=H++[.list (vs++ws)]) ?_ q
 show(H[r]?.bind MO.own).bind (λxs=>(H[r']?.bind MO.own).bind λys=>mkL (xs++ys) H)=_
 rw [dE h,dE h']
 exact if_pos (by rw[List.length_append];exact hl)
theorem p9:∀ l:List Int,lH (l.map V.int)=some l
 | []=>rfl
 |x :: l=>by
  have:=p9 l
  unfold lH at this ⊢
  rw [List.map_cons,List.mapM_cons,this];rfl
theorem aC5{r:Nat}{l:List Int}{Q:EK}(h:lst H (.ref r)=some (l.map V.int))(q:Q (.int l.sum) H):yT [.ref r] H Q:=by
 refine Lp.mk (v:=.int l.sum) (H:=H) ?_ q
 show(lst H (.ref r)).bind (λxs=>(lH xs).map λis=>(V.int is.sum,H))=_
 rw [h]
 show(lH (l.map V.int)).map _=_
 rw [p9];rfl
theorem yE{r:Nat}{vs:List V}{Q:EK}(h:lst H (.ref r)=some vs)(hl:vs.length<1000000)(q:Q (.int vs.length) H):cG [.ref r] H Q:=by
 refine Lp.mk (v:=.int vs.length) (H:=H) ?_ q
 show(lst H (.ref r)).bind _=_
 rw [h]
 exact if_pos hl
end
section
variable {C:Cx}{H B:MH}{K Q:SK}
noncomputable def rL(r:Nat)(n z:Int)(rr o2 o3:Option V):Lo:=look [("changes",some (.ref r)),("n",some (.int n)),("size",some (.int z)),("reach",rr),("low",o2),("high",o3)]
theorem rL_in{r:Nat}{n z:Int}:loB ["changes","n","size"] [.ref r,.int n,.int z] lo0=rL r n z none none none:=by
 rw [<-c8 [("changes",none),("n",none),("size",none),("reach",none),("low",none),("high",none)] ⋯]
 show upd (upd (upd (look _) "changes" (.ref r)) "n" (.int n)) "size" (.int z)=_
 rw [aA,aA,aA];kernel_rfl
section
variable {r rr:Nat}{n z low high:Int}{o2 o3:Option V}{p:Int×Int}
noncomputable def rTg:AF:=cU 2 (asC (aN "low") (asC (aN "high") asN))
theorem rTg_i{R:Lo->MH->Prop}(q:R (rL r n z (some (.ref rr)) (some (.int p.1)) (some (.int p.2))) H):rTg (pv p) (rL r n z (some (.ref rr)) o2 o3) H R:=by
 refine kch (B:=(2=2/\R (upd (upd (rL r n z (some (.ref rr)) o2 o3) "low" (.int p.1)) "high" (.int p.2)) H)) ⋯ ⟨rfl,?_⟩
 unfold rL
 rw [aA,aA]
 exact q
noncomputable def rSw:SF:=dZ ["low","high"] (bT (esC (aM uQ (esC (eK (.int 0)) (esC (aB cI (eN "low") (eN "n")) esN))) (esC (aM uP (esC (eN "size") (esC (aB aH (eN "high") (eN "n")) esN))) esN)))
theorem rSw_i{R:SF}(q:R (rL r n z (some (.ref rr)) (some (.int (max 0 (low-n)))) (some (.int (min z (high+n))))) H K):aD rSw R (rL r n z (some (.ref rr)) (some (.int low)) (some (.int high))) H K:=by
 refine kch (B:=(2<100/\2=2/\R (upd (upd (rL r n z (some (.ref rr)) (some (.int low)) (some (.int high))) "high" (.int (min z (high+n)))) "low" (.int (max 0 (low-n)))) H K)) ⋯ ⟨by decide,rfl,?_⟩
 unfold rL
 rw [aA,aA]
 exact q
noncomputable def rT:TF:=aU (tE (aB (bB not) (eN "reach") (gU esN))) (aU (tE (aB (bW λx y=>decide (x<=y)) (eN "low") (aB aI (aB aI (eN "reach") (jV (eK (.int 1)))) (eK (.int 1))))) (tK true))
theorem rT_nf{P:Bool->MH->Prop}:rT (rL r n z (some (.ref rr)) (some (.int low)) o3) H P=(Lp (bB not (.ref rr) (.ref H.length) (H++[.list []])) λv H1=>Lf (tr v H1) λb=>
  bif b then(Lp (aI (.ref rr) (.int (-1)) H1) λv H2=>Lp (aI v (.int 1) H2) λw H3=>Lp (bW (λx y=>decide (x<=y)) (.int low) w H3) λc H4=>Lf (tr c H4) λb=>bif b then P true H4 else P false H4) else P false H1):=by rfl'
theorem aFs{α:Type}{r r':Nat}(f:α->V)(d:α->PyData){l:List α}{P:Bool->MH->Prop}(h1:lst H (.ref r)=some (l.map f))(h2:lst H (.ref r')=some [])(hd:∀ x∈l,rd H 7 (f x)=some (d x))(hs:∀ x∈l,(d x).canLay0=true/\(d x).depth<=9)(q:P (!l.isEmpty) H):
  Lp (bB not (.ref r) (.ref r') H) λv H1=>Lf (tr v H1) λb=>P b H1:=
 Lp.mk (v:=.bool (!l.isEmpty)) (H:=H) (by unfold bB;rw[sN f d h1 h2 hd hs];rfl) (Lf.mk (p:= !l.isEmpty) rfl q)
theorem rT_0{P:Bool->MH->Prop}(h:H[rr]? =some (.list []))(q:P false (H++[.list []])):rT (rL r n z (some (.ref rr)) (some (.int low)) o3) H P:=
 kch rT_nf (aFs pv dP (l:=[]) (P:=λb H1=>bif b then _ else P false H1) (aF (Hx.app _ _ _ _ h)) (hY _ _) (λ_ _=>aAh _) (λ_ _=>aAi _) (bL q))
theorem rT_1{P:Bool->MH->Prop}{l:List (Int×Int)}(h:H[rr]? =some (.list ((l++[p]).map pv)))(q:P (decide (low<=p.2)) (H++[.list []])):rT (rL r n z (some (.ref rr)) (some (.int low)) o3) H P:=by
 have h':=Hx.app H [MO.list []] _ _ h
 refine kch rT_nf (aFs pv dP (P:=λb H1=>bif b then _ else P false H1) (aF h') (hY _ _) (λ_ _=>aAh _) (λ_ _=>aAi _) ?_)
 rw [List.map_append]at h'
 have e:(!(l++[p]).isEmpty)=true:=by cases l<;>rfl
 rw [e]
 refine bY (Lp.mk (mU (v:=pv p) h' (by decide) (by rw[List.length_append];exact o9 _) (by rw[List.getElem?_append_right (Nat.le_refl _),Nat.sub_self];rfl)) (Lp.mk (v:=.int p.2) (H:=H++[.list []]) rfl (Lp.mk (v:=.bool (decide (low<=p.2))) (H:=H++[.list []]) rfl (Lf.mk (p:=decide (low<=p.2)) rfl ?_))))
 cases q':decide (low<=p.2) with
 |false=>rw [q']at q;exact bL q
 |true=>rw [q']at q;exact bY q
noncomputable def rA:SF:=aD (aX "low" (aB aI (ePop (eN "reach")) (eK (.int 0)))) (sK .next)
theorem rA_i{vs:List V}(h:H[rr]? =some (.list (vs++[pv p])))(hl:vs.length<999999)(q:K .next (rL r n z (some (.ref rr)) (some (.int p.1)) (some (.int high))) (H.set rr (.list vs))):rA (rL r n z (some (.ref rr)) (some (.int low)) (some (.int high))) H K:=by
 refine aS (dD (aP (pop_i (v:=pv p) ⋯ h hl (cT (Lp.mk (v:=.int p.1) (H:=H.set rr (.list vs)) rfl ?_)))))
 refine kch (B:=K .next (upd (rL r n z (some (.ref rr)) (some (.int low)) (some (.int high))) "low" (.int p.1)) (H.set rr (.list vs))) ⋯ ?_
 unfold rL
 rw [aA]
 exact q
noncomputable def rP:SF:=aD (bO (d7 (eN "reach") (bT (esC (eN "low") (esC (eN "high") esN))))) (sK .next)
theorem rP_i{vs:List V}(h:H[rr]? =some (.list vs))(hl:vs.length<1000000)(q:K .next (rL r n z (some (.ref rr)) (some (.int low)) (some (.int high))) (H.set rr (.list (vs++[pv (low,high)])))):rP (rL r n z (some (.ref rr)) (some (.int low)) (some (.int high))) H K:=
 aS (iG (v:=pv (low,high)) ⋯ (λH Q q=>kch (B:=(2<100/\Q (pv (low,high)) H)) ⋯ ⟨by decide,q⟩) h hl q)
noncomputable def rBody:SF:=aD rSw (aD (sIf rT rA (sK .next)) rP)
end
inductive RIv(B:MH)(r rr:Nat)(n z:Int)(total:List (Int×Int))(rest:List V)(lo:Lo)(H:MH):Prop
 |mk0 {ps:List (Int×Int)}{o2 o3:Option V} (er:rest=ps.map pv) (el:lo=rL r n z (some (.ref rr)) o2 o3) (hx:Hx B H) (h:H[rr]? =some (.list [])) (t:reach n z ps=total) (l:ps.length<900000)
 |mk1 {ps done:List (Int×Int)}{p:Int×Int}{o2 o3:Option V} (er:rest=ps.map pv) (el:lo=rL r n z (some (.ref rr)) o2 o3) (hx:Hx B H) (h:H[rr]? =some (.list ((done++[p]).map pv))) (t:done++rc n z p.1 p.2 ps=total) (l:done.length+ps.length<900000)
section
variable {r rr:Nat}{n z:Int}{total:List (Int×Int)}
theorem RIv.hx{rest:List V}{lo:Lo}(h:RIv B r rr n z total rest lo H):Hx B H:=by cases h<;>assumption
theorem r_step{v:V}{rest:List V}{lo:Lo}(hb:B[rr]? =none)(I:RIv B r rr n z total (v :: rest) lo H)(go:GoK (RIv B r rr n z total rest) Q K):rTg v lo H λlo1 H1=>rBody lo1 H1 K:=by
 cases I with
 | @mk0 ps o2 o3 er el hx h t l=>
  cases ps with
  |nil=>cases er
  |cons p ps=>
   cases er;subst el
   refine rTg_i (rSw_i (aS (aDh (rT_0 h (bL ?_)))))
   have h':=Hx.app H [MO.list []] _ _ h
   exact rP_i (vs:=[]) h' (by decide) (go.nx (.mk1 (done:=[]) rfl rfl ((hx.trans (.app _ _)).set hb) (aJ h' _) t (by rw[List.length_cons]at l;rw[List.length_nil];exact A250 l)))
 | @mk1 ps done q o2 o3 er el hx h t l=>
  cases ps with
  |nil=>cases er
  |cons p ps=>
   cases er;subst el
   rw [List.length_cons]at l
   refine rTg_i (rSw_i (aS (aDh (rT_1 h ?_))))
   have h':=Hx.app H [MO.list []] _ _ h
   rw [rc_c]at t
   cases c:decide (max 0 (p.1-n)<=q.2) with
   |false=>
    rw [c]at t
    refine bL (rP_i h' (by rw[List.length_map,List.length_append,List.length_singleton];exact A251 l) (go.nx (.mk1 (done:=done++[q]) (p:=(max 0 (p.1-n),min z (p.2+n))) rfl rfl ((hx.trans (.app _ _)).set hb) ?_ ?_ ?_)))
    ·have:=aJ h' (.list ((done++[q]).map pv++[pv (max 0 (p.1-n),min z (p.2+n))]))
     rw [show (done++[q]++[(max 0 (p.1-n),min z (p.2+n))]).map pv=(done++[q]).map pv++[pv (max 0 (p.1-n),min z (p.2+n))] from List.map_append]
     exact this
    ·rw[List.append_assoc];exact t
    ·rw[List.length_append,List.length_singleton];exact A252 l
   |true=>
    rw [c]at t
    rw [List.map_append]at h'
    refine bY (rA_i h' (by rw[List.length_map];exact A253 l) ?_)
    have h2:=aJ h' (.list (done.map pv))
    refine rP_i h2 (by rw[List.length_map];exact A254 l) (go.nx (.mk1 (done:=done) (p:=(q.1,min z (p.2+n))) rfl rfl (((hx.trans (.app _ _)).set hb).set hb) ?_ t (A255 l)))
    rw [List.map_append]
    exact aJ h2 _
theorem aDo(X:XX C){ps:List (Int×Int)}{Q:EK}(h:H[r]? =some (.list (ps.map pv)))(hl:ps.length<900000)(k:∀ {H' r'},Hx H H'->H'[r']? =some (.list ((reach n z ps).map pv))->H[r']? =none->Q (.ref r') H'):eI X [.ref r,.int n,.int z] H Q:=by
 refine⟨rfl,?_⟩
 show jF X (loB ["changes","n","size"] [.ref r,.int n,.int z] lo0) H (kD Q)
 rw [rL_in]
 refine kch (B:=((∃ vs,lst (H++[.list []]) (.ref r)=some vs)/\∃ m,cW (aT C) rTg rBody m (r,0) (upd (rL r n z none none none) "reach" (.ref H.length)) (H++[.list []]) (bH (aD (gS X) (sK .next)) (kD Q)))) ⋯ ?_
 have h':=Hx.app H [MO.list []] _ _ h
 refine⟨⟨_,aF h'⟩,_,eG (RIv H r H.length n z (reach n z ps)) (vs:=ps.map pv) (λI=>(aF (I.hx _ _ h))) (λI=>?_) (λI go=>r_step (aL H) I go) (ps.map pv) 0 rfl (.mk0 (o2:=none) (o3:=none) rfl ?_ (.app _ _) (aY _ _) rfl hl)⟩
 ·cases I with
  | @mk0 ps o2 o3 er el hx h t l=>
   subst el
   have e:ps= []:=List.map_eq_nil_iff.mp er.symm
   subst e
   exact kch (B:=Q (.ref _) _) ⋯ (k hx (t▸h) (aL _))
  | @mk1 ps done p o2 o3 er el hx h t l=>
   subst el
   have e:ps= []:=List.map_eq_nil_iff.mp er.symm
   subst e
   exact kch (B:=Q (.ref _) _) ⋯ (k hx (t▸h) (aL _))
 ·unfold rL
  rw [aA];kernel_rfl
end
end
section
variable {C:Cx}{H B:MH}{K Q:SK}
noncomputable def tL(rw pl rg r1 r2:V)(rm u1 u2 u3 u4 u5:Option V):Lo:=look [("work",some rw),("place",some pl),("group",some rg),("one",some r1),("two",some r2),("made",rm),("tag",u1),("i1",u2),("i2",u3),("j1",u4),("j2",u5)]
theorem tL_in{rw pl rg r1 r2:V}:loB ["work","place","group","one","two"] [rw,pl,rg,r1,r2] lo0=tL rw pl rg r1 r2 none none none none none none:=by
 rw [<-c8 [("work",none),("place",none),("group",none),("one",none),("two",none),("made",none),("tag",none),("i1",none),("i2",none),("j1",none),("j2",none)] ⋯]
 show upd (upd (upd (upd (upd (look _) "work" rw) "place" pl) "group" rg) "one" r1) "two" r2=_
 rw [aA,aA,aA,aA,aA];kernel_rfl
section
variable {rw rg r1 r2 rm:Nat}{place:Int}{u1 u2 u3 u4 u5:Option V}{o:Op}{one two:List Int}
noncomputable def tF(rw:Nat)(place:Int)(rg r1 r2 rm:Nat)(u1 u2 u3 u4 u5:Option V):Lo:=tL (.ref rw) (.int place) (.ref rg) (.ref r1) (.ref r2) (some (.ref rm)) u1 u2 u3 u4 u5
noncomputable def tX(rw:Nat)(place:Int)(rg r1 r2 rm:Nat)(o:Op):Lo:=tF rw place rg r1 r2 rm (some (.str o.tag.s)) (some (.int o.i1)) (some (.int o.i2)) (some (.int o.j1)) (some (.int o.j2))
noncomputable def tTg:AF:=cU 5 (asC (aN "tag") (asC (aN "i1") (asC (aN "i2") (asC (aN "j1") (asC (aN "j2") asN)))))
theorem tTg_i{R:Lo->MH->Prop}(q:R (tX rw place rg r1 r2 rm o) H):tTg o.v (tF rw place rg r1 r2 rm u1 u2 u3 u4 u5) H R:=by
 refine kch (B:=(5=5/\R (upd (upd (upd (upd (upd (tF rw place rg r1 r2 rm u1 u2 u3 u4 u5) "tag" (.str o.tag.s)) "i1" (.int o.i1)) "i2" (.int o.i2)) "j1" (.int o.j1)) "j2" (.int o.j2)) H)) ⋯ ⟨rfl,?_⟩
 unfold tF tL
 rw [aA,aA,aA,aA,aA]
 exact q
noncomputable def tB:SF:=aD (bO (eExt (eN "made") (eIf (tE (aB (bB id) (eN "tag") (eK (.str "equal")))) (eV (eN "one") (eN "i1") (eN "i2") (eK .none)) (eV (eN "two") (eN "j1") (eN "j2") (eK .none))))) (sK .next)
noncomputable def uI(rm:Nat)(lo:Lo)(K:SK):EK:=λv H2=>Lf (H2[rm]?.bind MO.own) λvs=>Lf (own H2 v) λws=>vs.length+ws.length<1000000/\K .next lo (H2.set rm (.list (vs++ws)))
theorem extK_i{vs ws:List V}{r:Nat}{lo:Lo}(h:H[rm]? =some (.list vs))(h':H[r]? =some (.list ws))(hl:vs.length+ws.length<1000000)(q:K .next lo (H.set rm (.list (vs++ws)))):uI rm lo K (.ref r) H:=
 Lf.mk (dE h) (Lf.mk (p:=ws) (dE h') ⟨hl,q⟩)
theorem tB_nf:tB (tX rw place rg r1 r2 rm o) H K=((∃ vs,H[rm]? =some (.list vs))/\Lp (bB id (.str o.tag.s) (.str "equal") H) λe H1=>Lf (tr e H1) λt=>bif t then Lp (slc (.ref r1) (some o.i1) (some o.i2) none H1) (uI rm (tX rw place rg r1 r2 rm o) K) else Lp (slc (.ref r2) (some o.j1) (some o.j2) none H1) (uI rm (tX rw place rg r1 r2 rm o) K)):=by rfl'
inductive TIv(B:MH)(rw:Nat)(place:Int)(rg r1 r2 rm:Nat)(one two total:List Int)(rest:List V)(lo:Lo)(H:MH):Prop
 |mk {g:List Op}{i j x y:Int}{acc:List Int}{u1 u2 u3 u4 u5:Option V} (er:rest=g.map Op.v) (el:lo=tF rw place rg r1 r2 rm u1 u2 u3 u4 u5) (hx:Hx B H) (h:H[rm]? =some (.list (acc.map V.int))) (c:Cq one two i j g x y) (i0:0<=i) (j0:0<=j) (xa:x<=one.length) (yb:y<=two.length) (t:acc++sl two j y=total)
theorem aCr{total acc w:List Int}(hb:B[rm]? =none)(hx:Hx B H)(h:H[rm]? =some (.list (acc.map V.int)))(tl:total.length<900000){R:List Int}(e:(acc++w)++R=total){lo:Lo}
  (k:∀ {H'},Hx B H'->H'[rm]? =some (.list ((acc++w).map V.int))->K .next lo H'):uI rm lo K (.ref H.length) (H++[.list (w.map V.int)]):=by
 have h':=Hx.app H [MO.list (w.map V.int)] _ _ h
 refine extK_i h' (aY _ _) ?_ (k ((hx.trans (.app _ _)).set hb) ?_)
 ·rw[<-e,List.length_append,List.length_append]at tl
  rw [List.length_map,List.length_map];exact A256 tl
 ·rw[List.map_append];exact aJ h' _
theorem t_step{total:List Int}{v:V}{rest:List V}{lo:Lo}(hb:B[rm]? =none)(tl:total.length<900000)(l1:LI B r1 one)(l2:LI B r2 two)(n1:one.length<900000)(n2:two.length<900000)(I:TIv B rw place rg r1 r2 rm one two total (v :: rest) lo H)(go:GoK (TIv B rw place rg r1 r2 rm one two total rest) Q K):tTg v lo H λlo1 H1=>tB lo1 H1 K:=by
 cases I with
 | @mk g i j x y acc u1 u2 u3 u4 u5 er el hx h c i0 j0 xa yb t=>
  cases c with
  |nil=>cases er
  | @eq _ _ k _ _ l k0 m c=>
   cases er;subst el
   refine tTg_i (kch tB_nf ⟨⟨_,h⟩,n8 (Q:=λt H1=>bif t then _ else _) (bY (iT (hx.li l1) (by rw[List.length_map];exact A257 n1) nofun ?_))⟩)
   have e:=vI (l:=one) (i:=i) (j:=i+k) i0 (cX i k0) (Int.le_trans c.le.1 xa)
   show uI rm _ K (.ref H.length) (H++[.list (pk (one.map V.int) (some i) (some (i+k)) none)])
   have s:=zE m i0 j0 (Int.le_trans c.le.1 xa) (Int.le_trans c.le.2 yb) k0
   have e2:(acc++sl one i (i+k))++sl two (j+k) y=total:=by rw[List.append_assoc,s,d5 (cX j k0) c.le.2];exact t
   rw [e]
   exact aCr hb hx h tl e2 λhx' h'=>go.nx (.mk rfl rfl hx' h' c (Int.add_nonneg i0 k0) (Int.add_nonneg j0 k0) xa yb e2)
  | @ch _ _ i' j' _ _ gt l hg hi hj c=>
   cases er;subst el
   have e1:gt.isEq=false:=hg
   refine tTg_i (kch tB_nf ⟨⟨_,h⟩,n8 (Q:=λt H1=>bif t then _ else _) ?_⟩)
   show bif gt.isEq then _ else _
   rw [e1]
   refine bL (iT (hx.li l2) (by rw[List.length_map];exact A257 n2) nofun ?_)
   have e:=vI (l:=two) (i:=j) (j:=j') j0 hj (Int.le_trans c.le.2 yb)
   show uI rm _ K (.ref H.length) (H++[.list (pk (two.map V.int) (some j) (some j') none)])
   have e2:(acc++sl two j j')++sl two j' y=total:=by rw[List.append_assoc,d5 hj c.le.2];exact t
   rw [e]
   exact aCr hb hx h tl e2 λhx' h'=>go.nx (.mk rfl rfl hx' h' c (Int.le_trans i0 hi) (Int.le_trans j0 hj) xa yb e2)
theorem aCs(X:XX C):aD (eU X) (sK .next) (tF rw place rg r1 r2 rm u1 u2 u3 u4 u5) H K=(Lp (slc (.ref rw) none (some place) none H) λv H1=>Lp (aH v (.ref rm) H1) λv2 H2=>Lp (aI (.ref rg) (.int (-1)) H2) λx H3=>Lp (aI x (.int 2) H3) λy H4=>Lp (aH (.int place) y H4) λz H5=>
  Lp (aI (.ref rg) (.int 0) H5) λx H6=>Lp (aI x (.int 1) H6) λy H7=>Lp (cI z y H7) λst H8=>Lf (prt st) λpa=>Lp (slc (.ref rw) pa none none H8) λv3 H9=>Lp (aH v2 v3 H9) λv4 H10=>K (.ret v4) (tF rw place rg r1 r2 rm u1 u2 u3 u4 u5) H10):=by rfl'
end
end
section
variable {C:Cx}{H B:MH}{Q:EK}
theorem s2_at(o:Op)(l:List Op):s2 (l++[o])=o.i2/\t2 (l++[o])=o.j2:=⟨kZ o l,y9 o l⟩
theorem v9{r:Nat}{g:List Op}(h:H[r]? =some (.list (g.map Op.v)))(ne:g≠ [])(q:∀ o:Op,o.i2=s2 g->o.j2=t2 g->Q o.v H):Lp (aI (.ref r) (.int (-1)) H) Q:=by
 have e:=List.dropLast_concat_getLast ne
 have s:=s2_at (g.getLast ne) g.dropLast
 rw [e]at s
 have h':=h
 rw [<-e,List.map_append]at h'
 exact Lp.mk (mU (v:=(g.getLast ne).v) h' (by decide) (by rw[List.length_append];exact o9 _) (by rw[List.getElem?_append_right (Nat.le_refl _),Nat.sub_self];rfl)) (q _ s.1.symm s.2.symm)
theorem mV{r:Nat}{g:List Op}(h:H[r]? =some (.list (g.map Op.v)))(ne:g≠ [])(q:∀ o:Op,o.i1=s1 g->o.j1=t1 g->Q o.v H):Lp (aI (.ref r) (.int 0) H) Q:=by
 cases g with
 |nil=>exact absurd rfl ne
 |cons o g=>exact Lp.mk (mU (v:=o.v) h (by decide) (seq_0 _) rfl) (q o rfl rfl)
theorem o_i1{o:Op}(q:Q (.int o.i1) H):Lp (aI o.v (.int 1) H) Q:=Lp.mk (v:=.int o.i1) (H:=H) rfl q
theorem o_i2{o:Op}(q:Q (.int o.i2) H):Lp (aI o.v (.int 2) H) Q:=Lp.mk (v:=.int o.i2) (H:=H) rfl q
theorem o_j1{o:Op}(q:Q (.int o.j1) H):Lp (aI o.v (.int 3) H) Q:=Lp.mk (v:=.int o.j1) (H:=H) rfl q
theorem o_j2{o:Op}(q:Q (.int o.j2) H):Lp (aI o.v (.int 4) H) Q:=Lp.mk (v:=.int o.j2) (H:=H) rfl q
theorem qU{x y:Int}(q:Q (.int (x+y)) H):Lp (aH (.int x) (.int y) H) Q:=Lp.mk (v:=.int (x+y)) (H:=H) rfl q
theorem zB{x y:Int}(q:Q (.int (x-y)) H):Lp (cI (.int x) (.int y) H) Q:=Lp.mk (v:=.int (x-y)) (H:=H) rfl q
noncomputable def turned(w two:List Int)(place n j y:Int):List Int:=(w.take place.toNat++sl two j y)++w.drop (place+n).toNat
theorem sl_le(l:List Int)(i j:Int):(sl l i j).length<=l.length:=by
 unfold sl
 rw [List.length_take,List.length_drop]
 exact Nat.le_trans (Nat.min_le_right _ _) (Nat.sub_le _ _)
section
variable {rw rg r1 r2:Nat}{place:Int}{g:List Op}{one two w:List Int}{i j x y:Int}
theorem y6(X:XX C)(hw:H[rw]? =some (.list (w.map V.int)))(hg:H[rg]? =some (.list (g.map Op.v)))(l1:LI H r1 one)(l2:LI H r2 two)(nw:w.length<100000)(n1:one.length<100000)(n2:two.length<100000)
  (c:Cq one two i j g x y) (ne:g≠ []) (i0:0<=i) (j0:0<=j) (xa:x<=one.length) (yb:y<=two.length) (p0:0<=place) (pw:place+(x-i)<=w.length)
  (k:∀ {H' r'},Hx H H'->H'[r']? =some (.list ((turned w two place (x-i) j y).map V.int))->H[r']? =none->Q (.ref r') H'):d8 X [.ref rw,.int place,.ref rg,.ref r1,.ref r2] H Q:=by
 refine⟨rfl,?_⟩
 show kN X (loB ["work","place","group","one","two"] [.ref rw,.int place,.ref rg,.ref r1,.ref r2] lo0) H (kD Q)
 rw [tL_in]
 refine kch (B:=((∃ vs,lst (H++[.list []]) (.ref rg)=some vs)/\∃ m,cW (aT C) tTg tB m (rg,0) (upd (tL (.ref rw) (.int place) (.ref rg) (.ref r1) (.ref r2) none none none none none none) "made" (.ref H.length)) (H++[.list []]) (bH (aD (eU X) (sK .next)) (kD Q)))) ⋯ ?_
 have hg':=Hx.app H [MO.list []] _ _ hg
 have sl2:(sl two j y).length<100000:=Nat.lt_of_le_of_lt (sl_le ..) n2
 refine⟨⟨_,aF hg'⟩,_,eG (TIv H rw place rg r1 r2 H.length one two (sl two j y)) (vs:=g.map Op.v) (λI=>?_) (λI=>?_) (λI go=>t_step (aL H) (Nat.lt_trans sl2 (by decide)) l1 l2 (Nat.lt_trans n1 (by decide)) (Nat.lt_trans n2 (by decide)) I go) (g.map Op.v) 0 rfl (.mk (acc:=[]) (u1:=none) (u2:=none) (u3:=none) (u4:=none) (u5:=none) rfl ?_ (.app _ _) (aY _ _) c i0 j0 xa yb rfl)⟩
 ·cases I with
  |mk er el hx h c i0 j0 xa yb t=>exact aF (hx _ _ hg)
 ·cases I with
  | @mk g' i' j' x' y' acc u1 u2 u3 u4 u5 er el hx h c' i0' j0' xa yb t=>
   subst el
   have e:g'= []:=List.map_eq_nil_iff.mp er.symm
   subst e
   cases c'
   rw [nZ,List.append_nil]at t
   subst t
   refine kch (B:=_) (aCs X) ?_
   rename_i H1
   refine iT (aF (hx _ _ hw)) (by rw[List.length_map];exact A258 nw) nofun ?_
   have x1:Hx H1 (H1++[.list (pk (w.map V.int) none (some place) none)]):=.app _ _
   have pl:place<=w.length:=by have:=c.le.1;exact A259 pw this
   rw [pk_to p0 (by rw[List.length_map];exact pl),<-List.map_take]at x1 ⊢
   have tl:(w.take place.toNat).length<=w.length:=List.length_take_le' ..
   refine kF (aY _ _) (x1 _ _ h) (by rw[List.length_map,List.length_map];exact A260 nw sl2 tl) ?_
   have x2:Hx H1 (H1++[MO.list ((w.take place.toNat).map V.int)]++[.list ((w.take place.toNat).map V.int++(sl two j y).map V.int)]):=x1.trans (.app _ _)
   have n3:=aY (H1++[MO.list ((w.take place.toNat).map V.int)]) (.list ((w.take place.toNat).map V.int++(sl two j y).map V.int))
   revert x2 n3
   generalize (H1++[MO.list ((w.take place.toNat).map V.int)]).length=rs
   generalize (H1++[MO.list ((w.take place.toNat).map V.int)]++[MO.list ((w.take place.toNat).map V.int++(sl two j y).map V.int)])=H2
   intro x2 n3
   have x02:=hx.trans x2
   refine v9 (x02 _ _ hg) ne λo e1 _=>o_i2 (qU (mV (x02 _ _ hg) ne λo' e2 _=>o_i1 (zB (Lf.mk (p:=some (place+o.i2-o'.i1)) rfl ?_))))
   rw [e1,e2,(c.hd ne).1,(c.last ne).1,Int.add_sub_assoc]
   refine iT (aF (x02 _ _ hw)) (by rw[List.length_map];exact A258 nw) nofun ?_
   rw [zI (by have:=c.le.1;exact A261 p0 this) (by rw[List.length_map];exact pw),<-List.map_drop]
   refine kF (Hx.app _ _ _ _ n3) (aY _ _) ?_ ?_
   ·rw[List.length_append,List.length_map,List.length_map,List.length_map,List.length_drop];exact A262 nw sl2 tl
   rw [<-List.map_append,<-List.map_append]
   exact k ((x02.trans (.app _ _)).trans (.app _ _)) (aY _ _) ((x02.trans (.app _ _)).fresh)
 ·unfold tL
  rw [aA];kernel_rfl
end
end
section
variable {C:Cx}{H B:MH}{a b:List Int}
theorem r9:∀ (n:Nat) (x:Int),jX x 1 n=(List.range n).map λk=>V.int (x+(k:Nat))
 |0,x=>rfl
 |n+1,x=>by
  rw [aHa,r9 n (x+1),List.range_succ_eq_map,List.map_cons,List.map_map]
  congr 1
  ·show V.int x=V.int (x+((0:Nat):Int));rw[Int.natCast_zero,Int.add_zero]
  ·refine List.map_congr_left λk _=>?_
   show V.int (x+1+(k:Int))=V.int (x+((k+1:Nat):Int))
   rw [Int.natCast_add,Int.add_assoc,Int.add_comm 1];rfl
noncomputable def nv(k:Nat):V:=.int (k:Nat)
theorem pH(n:Nat):jX 0 1 n=(List.range n).map nv:=by
 rw [r9]
 exact List.map_congr_left λk _=>congrArg V.int (Int.zero_add _)
theorem xL(n:Nat)(h:n<1000000):rOk 0 n 1=true:=by
 unfold rOk
 rw [decide_eq_true (show(n:Int)<1000000 by exact A263 h),decide_eq_true (show-1000000<(n:Int) by exact A264)];rfl
theorem xM{n:Int}{Q:EK}(q:Q (.rng 0 n 1) H):gX [.int n] H Q:=kch (B:=Q (.rng 0 n 1) H) ⋯ q
noncomputable def eRL(x:Str):EF:=aM gX (esC (aM cG (esC (eN x) esN)) esN)
theorem rngL_i{x:Str}{r:Nat}{vs:List V}{lo:Lo}{P:Int×Nat×Int->MH->Prop}(hx:lo x=some (.ref r))(h:lst H (.ref r)=some vs)(hl:vs.length<100000)(q:P (0,vs.length,1) H):iR (eRL x) lo H P:=by
 refine aV hx (yE h (A258 hl) (xM (n:=vs.length) (Lf.mk (p:=(0,(vs.length:Int),1)) rfl ⟨xL _ (A258 hl),?_⟩)))
 have e:mQ 0 (vs.length:Int) 1=vs.length:=by
  show((vs.length:Int)-0).toNat=_
  rw [Int.sub_zero,Int.toNat_natCast]
 show P (0,mQ 0 (vs.length:Int) 1,1) H
 rw [e];exact q
theorem sP{hid:List Str}{x:Str}{tgt:AF}{t:TF}{bf:BF}{lo:Lo}{Q:EK}{r:Nat}{vs:List V}(out:Nat->List V)(I:Lo->Prop)(hx:lo x=some (.ref r))(h:lst H (.ref r)=some vs)(hv:vs.length<100000)
  (i0:I (hide hid lo)) (hl:((List.range vs.length).flatMap out).length<1000000) (hs:∀ k∈List.range vs.length,Put I H H.length (out k) (dA tgt t (bf H.length) (nv k)))
  (k:∀ {H'},Hx H H'->H'[H.length]? =some (.list ((List.range vs.length).flatMap out))->Q (.ref H.length) H'):b6 (kK C) hid (iR (eRL x)) tgt t bf lo H Q:=
 jP nv out I (List.range vs.length) (λq=>rngL_i hx h hv q) (by rw[<-pH];exact n7 _ _) i0 hl hs k
theorem fR{α:Type}{out:α->List V}(h:∀ x,(out x).length<=1):∀ l:List α,(l.flatMap out).length<=l.length
 | []=>Nat.le_refl _
 |x :: l=>by
  have:=fR h l
  have:=h x
  rw [List.flatMap_cons,List.length_append,List.length_cons];omega
theorem qT{r:Nat}{vs:List V}{v:V}{k:Nat}{Q:EK}(h:H[r]? =some (.list vs))(hv:vs[k]? =some v)(hl:vs.length<100000)(q:Q v H):Lp (aI (.ref r) (nv k) H) Q:=by
 have kl:=(List.getElem?_eq_some_iff.mp hv).1
 exact Lp.mk (mU h ⟨A264,A265 hl kl⟩ (eR (Int.natCast_nonneg k) (A266 kl)) (by rw[Int.toNat_natCast];exact hv)) q
noncomputable def inK(sp:List (Int×Int))(c:Op)(k:Nat):Bool:=match sp[k]? with |some p=>inR p c |none=>false
noncomputable def rS(sp:List (Int×Int))(c:Op)(k:Nat):List V:=bif inK sp c k then [nv k] else []
theorem aDr{sp:List (Int×Int)}{c:Op}(k:Nat):(rS sp c k).length<=1:=by
 unfold rS
 cases inK sp c k with
 |false=>exact Nat.zero_le _
 |true=>exact Nat.le_refl _
noncomputable def mT:TF:=aU (aU (tE (aB (bW λx y=>decide (x<=y)) (aB aI (aB aI (eN "reach") (eN "k")) (eK (.int 0))) (eN "i1"))) (aU (tE (aB (bW λx y=>decide (x<=y)) (eN "i2") (aB aI (aB aI (eN "reach") (eN "k")) (eK (.int 1))))) (tK true))) (tK true)
theorem mT_nf{lo:Lo}{k:Nat}{ai:Nat}{P:LK}:dA (aN "k") mT (bA (eN "k") ai) (nv k) lo H P=(Lf (lo "reach") λr0=>Lp (aI r0 (nv k) H) λv H1=>Lp (aI v (.int 0) H1) λw H2=>Lf (lo "i1") λx=>Lp (bW (λx y=>decide (x<=y)) w x H2) λc H3=>Lf (tr c H3) λb=>
  bif b then(Lf (lo "i2") λy=>Lf (lo "reach") λr0=>Lp (aI r0 (nv k) H3) λv H4=>Lp (aI v (.int 1) H4) λw H5=>Lp (bW (λx y=>decide (x<=y)) y w H5) λc H6=>Lf (tr c H6) λb=>bif b then(Lf (H6[ai]?.bind MO.own) λvs=>vs.length<1000000/\P (upd lo "k" (nv k)) (H6.set ai (.list (vs++[nv k])))) else P (upd lo "k" (nv k)) H6) else P (upd lo "k" (nv k)) H3):=by rfl'
structure MI(rr:Nat)(c:Op)(lo:Lo):Prop where
 r:lo "reach" =some (.ref rr)
 i:lo "i1" =some (.int c.i1)
 j:lo "i2" =some (.int c.i2)
theorem MI.k{rr:Nat}{c:Op}{lo:Lo}(h:MI rr c lo)(v:V):MI rr c (upd lo "k" v):=⟨(show upd lo "k" v "reach" =lo "reach" by rfl').trans h.r,(show upd lo "k" v "i1" =lo "i1" by rfl').trans h.i,(show upd lo "k" v "i2" =lo "i2" by rfl').trans h.j⟩
theorem m_put{rr ai:Nat}{sp:List (Int×Int)}{c:Op}(hr:B[rr]? =some (.list (sp.map pv)))(hl:sp.length<100000)(hb:B[ai]? =none){k:Nat}(hk:k∈List.range sp.length):Put (MI rr c) B ai (rS sp c k) (dA (aN "k") mT (bA (eN "k") ai) (nv k)):=by
 refine⟨λ{lo H acc P} i hx ha hal kk=>?_⟩
 have hk:=List.mem_range.mp hk
 have e:sp[k]? =some sp[k]:=List.getElem?_eq_getElem hk
 have hv:(sp.map pv)[k]? =some (pv sp[k]):=by rw[List.getElem?_map,e];rfl
 have eo:rS sp c k=bif (decide (sp[k].1<=c.i1) && decide (c.i2<=sp[k].2)) then [nv k] else []:=by
  unfold rS inK
  rw [e];rfl
 have hr':=hx _ _ hr
 have hl':(sp.map pv).length<100000:=by rw[List.length_map];exact hl
 refine kch mT_nf (Lf.mk i.r (qT hr' hv hl' (Lp.mk (v:=.int sp[k].1) (H:=H) rfl (Lf.mk i.i (Lp.mk (v:=.bool (decide (sp[k].1<=c.i1))) (H:=H) rfl (Lf.mk (p:=decide (sp[k].1<=c.i1)) rfl ?_))))))
 cases q1:decide (sp[k].1<=c.i1) with
 |false=>
  rw [q1]at eo
  exact bL (xT (P:=P) hx ha eo (i.k _) kk)
 |true=>
  rw [q1]at eo
  refine bY (Lf.mk i.j (Lf.mk i.r (qT hr' hv hl' (Lp.mk (v:=.int sp[k].2) (H:=H) rfl (Lp.mk (v:=.bool (decide (c.i2<=sp[k].2))) (H:=H) rfl (Lf.mk (p:=decide (c.i2<=sp[k].2)) rfl ?_))))))
  cases q2:decide (c.i2<=sp[k].2) with
  |false=>
   rw [q2]at eo
   exact bL (xT (P:=P) hx ha eo (i.k _) kk)
  |true=>
   rw [q2]at eo
   exact bY (xS (P:=P) hb hx ha hal eo (i.k _) kk)
theorem qC{v:V}:∀ {m k:Nat}{out:Nat->List V},k<m->out k= [v]->(∀ k',k'<k->out k'= [])->((List.range m).flatMap out)[0]? =some v
 |m+1,0,out,h,e,z=>by
  rw [List.range_succ_eq_map,List.flatMap_cons,e];rfl
 |m+1,k+1,out,h,e,z=>by
  rw [List.range_succ_eq_map,List.flatMap_cons,z 0 (Nat.succ_pos k),List.nil_append,List.flatMap_map]
  exact qC (out:=λk=>out (k+1)) (Nat.lt_of_succ_lt_succ h) e λk' h'=>z (k'+1) (Nat.succ_lt_succ h')
theorem AtR.ok{sp:List (Int×Int)}{fs:List Bool}{c:Op}{f:Bool}{k:Nat}(h:AtR sp fs c f k):k<sp.length/\inK sp c k=true/\(∀ k',k'<k->inK sp c k'=false)/\fs[k]? =some f:=by
 induction h with
 |here h=>exact⟨Nat.succ_pos _,h,nofun,rfl⟩
 |there h t ih=>
  refine xAAA ih λh1 h2 h3 h4=>?_
  refine⟨Nat.succ_lt_succ h1,h2,λk' hk=>?_,h4⟩
  cases k' with
  |zero=>exact h
  |succ k'=>exact h3 k' (Nat.lt_of_succ_lt_succ hk)
theorem AtR.first{sp:List (Int×Int)}{fs:List Bool}{c:Op}{f:Bool}{k:Nat}(h:AtR sp fs c f k):((List.range sp.length).flatMap (rS sp c))[0]? =some (nv k)/\fs[k]? =some f:=by
 refine xAAA h.ok λh1 h2 h3 h4=>?_
 refine⟨qC h1 ?_ λk' hk=>?_,h4⟩
 ·unfold rS;rw[h2];rfl
 ·unfold rS;rw[h3 k' hk];rfl
end
section
variable {C:Cx}{H B:MH}{a b:List Int}{K Q:SK}
inductive MOk(a b:List Int):Int->List (Op×Bool)->Prop
 |nil {s:Int} (s0:0<=s) (sa:s<=a.length):MOk a b s []
 |cons {s:Int}{c:Op×Bool}{r:List (Op×Bool)} (s0:0<=s) (h1:s<=c.1.i1) (h2:c.1.i1<=c.1.i2) (h3:c.1.i2<=a.length) (h4:0<=c.1.j1) (h5:c.1.j1<=c.1.j2) (h6:c.1.j2<=b.length) (h:MOk a b c.1.i2 r):MOk a b s (c :: r)
theorem MOk.low{s x:Int}{r:List (Op×Bool)}(h:MOk a b x r)(s0:0<=s)(hs:s<=x):MOk a b s r:=by
 cases h with
 |nil _ sa=>exact .nil s0 (Int.le_trans hs sa)
 |cons _ h1 h2 h3 h4 h5 h6 h=>exact .cons s0 (Int.le_trans hs h1) h2 h3 h4 h5 h6 h
theorem Cq.mok{i j x y:Int}{l:List Op}(h:Cq a b i j l x y){f:Bool}{R:List (Op×Bool)}(r:MOk a b x R)(xa:x<=a.length)(yb:y<=b.length):∀ {s:Int},0<=s->s<=i->0<=j->MOk a b s ((chg l).map (·,f)++R):=by
 induction h with
 |nil=>exact λs0 hs _=>r.low s0 hs
 |eq k0 m h ih=>
  intro s s0 hs j0
  rw [iM rfl]
  exact ih r xa yb s0 (Int.le_trans hs (cX _ k0)) (Int.add_nonneg j0 k0)
 |ch hg hi hj h ih=>
  intro s s0 hs j0
  rw [kT hg,List.map_cons,List.cons_append]
  exact .cons s0 hs hi (Int.le_trans h.le.1 xa) j0 hj (Int.le_trans h.le.2 yb) (ih r xa yb (Int.le_trans s0 (Int.le_trans hs hi)) (Int.le_refl _) (Int.le_trans j0 hj))
theorem GL.mok{s:Bool}{e f:Int}{gs:List (List Op)}(h:GL a b s e f gs):0<=e->0<=f->∀ {fs:List Bool},MOk a b e (tgd gs fs):=by
 induction h with
 |nil k0 m ei ej=>intro e0 f0 fs;exact .nil e0 (A267 k0 ei)
 | @cons s e f t x y g gs t0 st m c ne h ih=>
  intro e0 f0 fs
  have xa:=h.le.1
  cases fs with
  |nil=>exact .nil e0 (Int.le_trans (Int.le_trans (cX _ t0) c.le.1) xa)
  |cons v fs=>exact c.mok (ih (Int.le_trans (Int.add_nonneg e0 t0) c.le.1) (Int.le_trans (Int.add_nonneg f0 t0) c.le.2)) xa h.le.2 e0 (cX _ t0) (Int.add_nonneg f0 t0)
section
variable {ra rb rc rr ro rm at_:Nat}{seen:Int}{u1 u2 u3 u4 u5 u6:Option V}{o:Op}
noncomputable def mL(ra rb rc rr ro:V)(rm sn u1 u2 u3 u4 u5 u6:Option V):Lo:=look [("first",some ra),("second",some rb),("changes",some rc),("reach",some rr),("on",some ro),("mixed",rm),("seen",sn),("tag",u1),("i1",u2),("i2",u3),("j1",u4),("j2",u5),("at",u6)]
theorem mL_in{ra rb rc rr ro:V}:loB ["first","second","changes","reach","on"] [ra,rb,rc,rr,ro] lo0=mL ra rb rc rr ro none none none none none none none none:=by
 rw [<-c8 [("first",none),("second",none),("changes",none),("reach",none),("on",none),("mixed",none),("seen",none),("tag",none),("i1",none),("i2",none),("j1",none),("j2",none),("at",none)] ⋯]
 show upd (upd (upd (upd (upd (look _) "first" ra) "second" rb) "changes" rc) "reach" rr) "on" ro=_
 rw [aA,aA,aA,aA,aA];kernel_rfl
noncomputable def mF(ra rb rc rr ro rm:Nat)(sn:Int)(u1 u2 u3 u4 u5 u6:Option V):Lo:=mL (.ref ra) (.ref rb) (.ref rc) (.ref rr) (.ref ro) (some (.ref rm)) (some (.int sn)) u1 u2 u3 u4 u5 u6
noncomputable def mX(ra rb rc rr ro rm:Nat)(sn:Int)(o:Op)(u6:Option V):Lo:=mF ra rb rc rr ro rm sn (some (.str o.tag.s)) (some (.int o.i1)) (some (.int o.i2)) (some (.int o.j1)) (some (.int o.j2)) u6
theorem mTg_i{R:Lo->MH->Prop}(q:R (mX ra rb rc rr ro rm seen o u6) H):tTg o.v (mF ra rb rc rr ro rm seen u1 u2 u3 u4 u5 u6) H R:=by
 refine kch (B:=(5=5/\R (upd (upd (upd (upd (upd (mF ra rb rc rr ro rm seen u1 u2 u3 u4 u5 u6) "tag" (.str o.tag.s)) "i1" (.int o.i1)) "i2" (.int o.i2)) "j1" (.int o.j1)) "j2" (.int o.j2)) H)) ⋯ ⟨rfl,?_⟩
 unfold mF mL
 rw [aA,aA,aA,aA,aA]
 exact q
noncomputable def mC:SF:=aX "at" (b6 (kK C) [".0","k"] (iR (eRL "reach")) (aN "k") mT (bA (eN "k")))
theorem mC_i{sp:List (Int×Int)}(hr:H[rr]? =some (.list (sp.map pv)))(hl:sp.length<100000)(k:∀ {H' r'},Hx H H'->H'[r']? =some (.list ((List.range sp.length).flatMap (rS sp o)))->K .next (mX ra rb rc rr ro rm seen o (some (.ref r'))) H'):
  mC (C:=C) (mX ra rb rc rr ro rm seen o u6) H K:=by
 refine dD (sP (rS sp o) (MI rr o) (vs:=sp.map pv) ⋯ (aF hr) (by rw[List.length_map];exact hl) ⟨by rfl',by rfl',by rfl'⟩ ?_ ?_ ?_)
 ·refine Nat.lt_of_le_of_lt (fR aDr _) ?_
  rw [List.length_range,List.length_map];exact A258 hl
 ·rw[List.length_map]
  exact λk hk=>m_put hr hl (aL H) hk
 ·intro H' hx h
  rw [List.length_map]at h
  have:=k hx h
  unfold mX mF mL at this ⊢
  rw [aA]
  exact kch ⋯ this
noncomputable def mB2:SF:=aD (bO (eExt (eN "mixed") (aB aH (eV (eN "first") (eN "seen") (eN "i1") (eK .none)) (eIf (tE (aB aI (eN "on") (aB aI (eN "at") (eK (.int 0))))) (eV (eN "second") (eN "j1") (eN "j2") (eK .none)) (eV (eN "first") (eN "i1") (eN "i2") (eK .none)))))) (aD (aX "seen" (eN "i2")) (sK .next))
theorem mB2_nf:mB2 (mX ra rb rc rr ro rm seen o (some (.ref at_))) H K=((∃ vs,H[rm]? =some (.list vs))/\Lp (slc (.ref ra) (some seen) (some o.i1) none H) λv1 H1=>Lp (aI (.ref at_) (.int 0) H1) λx H2=>Lp (aI (.ref ro) x H2) λy H3=>Lf (tr y H3) λt=>
  bif t then(Lp (slc (.ref rb) (some o.j1) (some o.j2) none H3) λv2 H4=>Lp (aH v1 v2 H4) (uI rm (mX ra rb rc rr ro rm seen o (some (.ref at_))) (bH (aD (aX "seen" (eN "i2")) (sK .next)) K))) else(Lp (slc (.ref ra) (some o.i1) (some o.i2) none H3) λv2 H4=>Lp (aH v1 v2 H4) (uI rm (mX ra rb rc rr ro rm seen o (some (.ref at_))) (bH (aD (aX "seen" (eN "i2")) (sK .next)) K)))):=by rfl'
theorem mS_i(q:K .next (mX ra rb rc rr ro rm o.i2 o (some (.ref at_))) H):bH (aD (aX "seen" (eN "i2")) (sK .next)) K .next (mX ra rb rc rr ro rm seen o (some (.ref at_))) H:=by
 refine kch (B:=K .next (upd (mX ra rb rc rr ro rm seen o (some (.ref at_))) "seen" (.int o.i2)) H) ⋯ ?_
 unfold mX mF mL
 rw [aA]
 exact q
end
end
section
variable {C:Cx}{H B:MH}{a b:List Int}{K Q:SK}
section
variable {ra rb rc rr ro rm:Nat}{sp:List (Int×Int)}{fs:List Bool}{total:List Int}
noncomputable def bv(f:Bool):V:=.bool f
inductive MIv(B:MH)(ra rb rc rr ro rm:Nat)(a b:List Int)(sp:List (Int×Int))(fs:List Bool)(total:List Int)(rest:List V)(lo:Lo)(H:MH):Prop
 |mk {cs:List (Op×Bool)}{s:Int}{acc:List Int}{u1 u2 u3 u4 u5 u6:Option V} (er:rest=cs.map λc=>c.1.v) (el:lo=mF ra rb rc rr ro rm s u1 u2 u3 u4 u5 u6) (hx:Hx B H) (h:H[rm]? =some (.list (acc.map V.int))) (ok:MOk a b s cs) (t:acc++mx a b s cs=total) (at_:∀ c∈cs,∃ k,AtR sp fs c.1 c.2 k):MIv B ra rb rc rr ro rm a b sp fs total rest lo H
structure MW(B:MH)(ra rb rr ro rm:Nat)(a b:List Int)(sp:List (Int×Int))(fs:List Bool)(total:List Int):Prop where
 la:LI B ra a
 lb:LI B rb b
 lr:B[rr]? =some (.list (sp.map pv))
 lo:B[ro]? =some (.list (fs.map bv))
 hb:B[rm]? =none
 na:a.length<100000
 nb:b.length<100000
 ns:sp.length<100000
 nf:fs.length<100000
 nt:total.length<900000
theorem mix_k{lo:Lo}{acc w1 w2 R:List Int}{r1 r2:Nat}(hb:B[rm]? =none)(hx:Hx B H)(h:H[rm]? =some (.list (acc.map V.int)))(h1:H[r1]? =some (.list (w1.map V.int)))(h2:H[r2]? =some (.list (w2.map V.int)))(tl:total.length<900000)(e:(acc++(w1++w2))++R=total)
  (k:∀ {H'},Hx B H'->H'[rm]? =some (.list ((acc++(w1++w2)).map V.int))->K .next lo H'):Lp (aH (.ref r1) (.ref r2) H) (uI rm lo K):=by
 refine kF h1 h2 ?_ ?_
 ·rw[<-e,List.length_append,List.length_append,List.length_append]at tl
  rw [List.length_map,List.length_map];exact A268 tl
 ·rw[<-List.map_append]
  exact aCr hb hx h tl e k
theorem m_step{v:V}{rest:List V}{lo:Lo}(W:MW B ra rb rr ro rm a b sp fs total)(I:MIv B ra rb rc rr ro rm a b sp fs total (v :: rest) lo H)(go:GoK (MIv B ra rb rc rr ro rm a b sp fs total rest) Q K):tTg v lo H λlo1 H1=>aD (mC (C:=C)) mB2 lo1 H1 K:=by
 cases I with
 | @mk cs s acc u1 u2 u3 u4 u5 u6 er el hx h ok t at_=>
  cases ok with
  |nil=>cases er
  | @cons _ c cs s0 h1 h2 h3 h4 h5 h6 ok=>
   cases er;subst el
   have na:=W.na
   have nb:=W.nb
   obtain⟨k,ak⟩:=at_ c List.mem_cons_self
   obtain⟨af,fk⟩:=ak.first
   refine mTg_i (aS (mC_i (hx _ _ W.lr) W.ns λ{H1 r1} x1 e1=>kch mB2_nf ⟨⟨_,x1 _ _ h⟩,iT ((hx.trans x1).li W.la) (by rw[List.length_map];exact A258 na) nofun ?_⟩))
   rw [vI s0 h1 (Int.le_trans h2 h3)]
   have x2:Hx H (H1++[.list ((sl a s c.1.i1).map V.int)]):=x1.trans (.app _ _)
   have g1:=aY H1 (.list ((sl a s c.1.i1).map V.int))
   have e2:=Hx.app H1 [MO.list ((sl a s c.1.i1).map V.int)] _ _ e1
   revert x2 g1 e2
   generalize H1++[MO.list ((sl a s c.1.i1).map V.int)]=H2
   intro x2 g1 e2
   have xb:=hx.trans x2
   refine qT (k:=0) e2 af ?_ (qT (v:=bv c.2) (xb _ _ W.lo) (by rw[List.getElem?_map,fk];rfl) (by rw[List.length_map];exact W.nf) (Lf.mk (p:=c.2) rfl ?_))
   ·exact Nat.lt_of_le_of_lt (fR aDr _) (by rw[List.length_range];exact W.ns)
   rw [mx_c]at t
   cases ec:c.2 with
   |true=>
    rw [ec,cond_true]at t
    refine bY (iT (xb.li W.lb) (by rw[List.length_map];exact A258 nb) nofun ?_)
    rw [vI h4 h5 h6]
    exact mix_k W.hb (xb.trans (.app _ _)) (Hx.app _ _ _ _ (x2 _ _ h)) (Hx.app _ _ _ _ g1) (aY _ _) W.nt (by rw[List.append_assoc];exact t) λhx' h'=>mS_i (go.nx (.mk rfl rfl hx' h' ok (by rw[List.append_assoc];exact t) λc hc=>at_ c (List.mem_cons_of_mem _ hc)))
   |false=>
    rw [ec,cond_false]at t
    refine bL (iT (xb.li W.la) (by rw[List.length_map];exact A258 na) nofun ?_)
    rw [vI (Int.le_trans s0 h1) h2 h3]
    exact mix_k W.hb (xb.trans (.app _ _)) (Hx.app _ _ _ _ (x2 _ _ h)) (Hx.app _ _ _ _ g1) (aY _ _) W.nt (by rw[List.append_assoc];exact t) λhx' h'=>mS_i (go.nx (.mk rfl rfl hx' h' ok (by rw[List.append_assoc];exact t) λc hc=>at_ c (List.mem_cons_of_mem _ hc)))
theorem mx_nil{s:Int}(X:XX C){acc:List Int}{u1 u2 u3 u4 u5 u6:Option V}:aD (eD X) (sK .next) (mF ra rb rc rr ro rm s u1 u2 u3 u4 u5 u6) H K=(Lp (slc (.ref ra) (some s) none none H) λv H1=>Lp (aH (.ref rm) v H1) λv H2=>K (.ret v) (mF ra rb rc rr ro rm s u1 u2 u3 u4 u5 u6) H2):=by rfl'
theorem aD0(X:XX C){cs:List (Op×Bool)}{Q:EK}(W:MW H ra rb rr ro H.length a b sp fs (mx a b 0 cs))(hc:H[rc]? =some (.list ((cs.map Prod.fst).map Op.v)))(ok:MOk a b 0 cs)(at_:∀ c∈cs,∃ k,AtR sp fs c.1 c.2 k)
  (k:∀ {H' r'},Hx H H'->H'[r']? =some (.list ((mx a b 0 cs).map V.int))->H[r']? =none->Q (.ref r') H'):fU X [.ref ra,.ref rb,.ref rc,.ref rr,.ref ro] H Q:=by
 refine⟨rfl,?_⟩
 show jG X (loB ["first","second","changes","reach","on"] [.ref ra,.ref rb,.ref rc,.ref rr,.ref ro] lo0) H (kD Q)
 rw [mL_in]
 refine kch (B:=(2<100/\2=2/\(∃ vs,lst (H++[.list []]) (.ref rc)=some vs)/\∃ m,cW (aT C) tTg (aD (mC (C:=C)) mB2) m (rc,0) (upd (upd (mL (.ref ra) (.ref rb) (.ref rc) (.ref rr) (.ref ro) none none none none none none none none) "seen" (.int 0)) "mixed" (.ref H.length)) (H++[.list []]) (bH (aD (eD X) (sK .next)) (kD Q)))) ⋯ ?_
 have hc':=Hx.app H [MO.list []] _ _ hc
 rw [List.map_map]at hc hc'
 refine⟨by decide,rfl,⟨_,aF hc'⟩,_,eG (MIv H ra rb rc rr ro H.length a b sp fs (mx a b 0 cs)) (vs:=cs.map λc=>c.1.v) (λI=>?_) (λI=>?_) (λI go=>m_step W I go) (cs.map λc=>c.1.v) 0 rfl (.mk (acc:=[]) (u1:=none) (u2:=none) (u3:=none) (u4:=none) (u5:=none) (u6:=none) (s:=0) rfl ?_ (.app _ _) (aY _ _) ok rfl at_)⟩
 ·cases I with
  |mk er el hx h ok t at_=>exact aF (hx _ _ hc)
 ·cases I with
  | @mk cs' s acc u1 u2 u3 u4 u5 u6 er el hx h ok t at_=>
   subst el
   have e:cs'= []:=List.map_eq_nil_iff.mp er.symm
   subst e
   cases ok with
   |nil s0 sa=>
   refine kch (mx_nil X (acc:=acc)) (iT (hx.li W.la) (by rw[List.length_map];have:=W.na;exact A258 this) nofun ?_)
   rw [zI s0 (by rw[List.length_map];exact sa),<-List.map_drop]
   rw [mx_n]at t
   refine kF (Hx.app _ _ _ _ h) (aY _ _) ?_ ?_
   ·have:=W.nt
    rw [<-t,List.length_append]at this
    rw [List.length_map,List.length_map];exact A269 this
   rw [<-List.map_append,t]
   exact k ((hx.trans (.app _ _)).trans (.app _ _)) (aY _ _) ((hx.trans (.app _ _)).fresh)
 ·unfold mL mF
  rw [aA,aA];kernel_rfl
end
end
section
variable {C:Cx}{H B:MH}{K Q:SK}{lo:Lo}
noncomputable def numO(sc:List Int)(k:Nat):Int:=(k:Int)*(k+1)/2+(pk sc (some (k:Int)) none (some 24)).sum
theorem bM{x:Str}{v:V}:upd lo x v x=some v:=if_pos rfl
theorem aCc{x:Str}{E:EF}{ai:Nat}{v:V}{P:LK}(q:E (upd lo x v) H λw H1=>Lf (H1[ai]?.bind MO.own) λvs=>vs.length<1000000/\P (upd lo x v) (H1.set ai (.list (vs++[w])))):dA (aN x) (tK true) (bA E ai) v lo H P:=q
theorem kY{x:Str}{F E:EF}{ai:Nat}{v:V}{P:LK}(q:F (upd lo x v) H λw H1=>Lf (tr w H1) λb=>bif b then(E (upd lo x v) H1 λw H1=>Lf (H1[ai]?.bind MO.own) λvs=>vs.length<1000000/\P (upd lo x v) (H1.set ai (.list (vs++[w])))) else P (upd lo x v) H1):dA (aN x) (aU (tE F) (tK true)) (bA E ai) v lo H P:=
 kch (B:=F (upd lo x v) H λw H1=>Lf (tr w H1) λb=>bif b then(E (upd lo x v) H1 λw H1=>Lf (H1[ai]?.bind MO.own) λvs=>vs.length<1000000/\P (upd lo x v) (H1.set ai (.list (vs++[w])))) else P (upd lo x v) H1) ⋯ q
theorem mZ{f f1 f2 f3:EF}{Q:EK}(h:f lo H λv H0=>f1 lo H0 λa H1=>f2 lo H1 λb H2=>f3 lo H2 λc H3=>Lf (prt a) λpa=>Lf (prt b) λpb=>Lf (prt c) λpc=>Lp (slc v pa pb pc H3) Q):eV f f1 f2 f3 lo H Q:=h
theorem v7:hide [".0","k"] lo "script" =lo "script" :=by rfl'
theorem vZ{v:V}:upd lo "k" v "script" =lo "script" :=by rfl'
theorem lG{α:Type}(g:α->List Int)(l:List α):l.flatMap (λx=>(g x).map V.int)=(l.flatMap g).map V.int:=by
 induction l with
 |nil=>rfl
 |cons x l ih=>rw [List.flatMap_cons,List.flatMap_cons,List.map_append,ih]
noncomputable def Evv(f:EF)(lo:Lo)(H:MH)(v:V):Prop:=∀ Q:EK,Q v H->f lo H Q
theorem Evv.bin{g:OpF}{f1 f2:EF}{v1 v2 w:V}(h1:Evv f1 lo H v1)(h2:Evv f2 lo H v2)(ho:g v1 v2 H=some (w,H)):Evv (aB g f1 f2) lo H w:=λQ q=>aP (h1 _ (h2 _ (Lp.mk ho q)))
theorem Evv.n{x:Str}{v:V}(h:lo x=some v):Evv (eN x) lo H v:=λQ q=>aV h q
theorem Evv.k{v:V}:Evv (eK v) lo H v:=λQ q=>q
theorem mul_e{x y:Int}(h: -1000000000<x/\x<1000000000):oMul (.int x) (.int y) H=some (.int (x*y),H):=if_pos (decide_eq_true h)
theorem wV{x y:Int}(h:0<y/\y<1000000000):k7 (.int x) (.int y) H=some (.int (x/y),H):=if_pos (decide_eq_true h)
theorem nC{x y:Int}(h:0<y):i9 (.int x) (.int y) H=some (.int (x%y),H):=if_pos (decide_eq_true h)
theorem add_e{x y:Int}:aH (.int x) (.int y) H=some (.int (x+y),H):=rfl
noncomputable def numE:EF:=aB aH (aB k7 (aB oMul (eN "k") (aB aH (eN "k") (eK (.int 1)))) (eK (.int 2))) (aM yT (esC (eV (eN "script") (eN "k") (eK .none) (eK (.int 24))) esN))
theorem num_1{k:Nat}(k24:k<24)(hk:lo "k" =some (nv k)):Evv (aB k7 (aB oMul (eN "k") (aB aH (eN "k") (eK (.int 1)))) (eK (.int 2))) lo H (.int ((k:Int)*(k+1)/2)):=
 .bin (.bin (.n hk) (.bin (.n hk) .k add_e) (mul_e ⟨A270,A271 k24⟩)) .k (wV (by decide))
theorem numE_i{rs k:Nat}{sc:List Int}{Q:EK}(h:LI H rs sc)(hl:sc.length<1000)(k24:k<24)(hk:lo "k" =some (nv k))(hs:lo "script" =some (.ref rs))(q:∀ {H'},Hx H H'->Q (.int (numO sc k)) H'):numE lo H Q:=by
 refine aP (num_1 k24 hk _ (dW (aZ (mZ (aV hs (aV hk (cT (cT (Lf.mk (p:=some (k:Int)) rfl (Lf.mk (p:=none) rfl (Lf.mk (p:=some 24) rfl (iT h (by rw[List.length_map];exact A272 hl) (by decide) (d3 ?_)))))))))))))
 rw [tM]
 exact aC5 (hY _ _) (qU (q (.app _ _)))
theorem aHo{rs:Nat}{sc:List Int}(h:LI H rs sc)(hl:sc.length<1000){k:Nat}(k24:k<24):Put (λlo=>lo "script" =some (.ref rs)) H H.length [V.int (numO sc k)] (dA (aN "k") (tK true) (bA numE H.length) (nv k)):=
 tI (J:=λlo=>lo "k" =some (nv k)/\lo "script" =some (.ref rs)) (aL H) (λi q=>q ⟨bM,vZ.trans i⟩ (vZ.trans i)) ⟨λj hx ha q=>numE_i (hx.li h) hl k24 j.1 j.2 λx1=>q (hx.trans x1) (x1 _ _ ha)⟩
theorem law_0(X:XX C){rs:Nat}{sc:List Int}(hs:lo "script" =some (.ref rs))(h:LI H rs sc)(hl:sc.length<1000)(k:∀ {H' r}{l:List Int},Hx H H'->H'[r]? =some (.list (l.map V.int))->l.length=24->K .next (upd lo "numbers" (.ref r)) H'):uH X lo H K:=by
 refine dD (jP (bf:=bA numE) nv (λk=>[V.int (numO sc k)]) (λlo=>lo "script" =some (.ref rs)) (List.range 24) (it:=(0,24,1)) (λ{P} q=>kch (B:=rOk 0 24 1=true/\P (0,24,1) H) ⋯ ⟨by rfl',q⟩) (n7 24 0) (v7.trans hs) (Nat.lt_of_le_of_lt (fR (out:=λk=>[V.int (numO sc k)]) (λ_=>Nat.le_refl 1) _) (by rw[List.length_range];decide)) (λk hk=>aHo h hl (List.mem_range.mp hk)) λ{H'} hx h'=>?_)
 refine k (l:=(List.range 24).map (numO sc)) hx ?_ (by rw[List.length_map,List.length_range])
 rw [h',List.map_map]
 exact congrArg (λl=>some (MO.list l)) (List.map_eq_flatMap ..).symm
theorem law_1(X:XX C){rs:Nat}{sc:List Int}(hs:lo "script" =some (.ref rs))(h:LI H rs sc)(k:K .next (upd lo "n" (.int ((1+sc.sum)%4))) H):uG X lo H K:=
 dD (aP (aP (cT (dW (aZ (aV hs (d3 (aC5 h (qU (cT (Lp.mk (nC (by decide)) k)))))))))))
theorem aEw{z p q:Int}:oIn not (.int z) (.tup [.int p,.int q]) H=some (.bool (!([PyData.int p,PyData.int q].any λy=>PyData.eqv y (.int z))),H):=by rfl'
theorem vX{e:Int->Int}{tst:Int->Bool}{x:Str}{r:Nat}{l:List Int}{E:EF}{T:TF}{Q:EK}(hx:lo x=some (.ref r))(h:H[r]? =some (.list (l.map V.int)))(hl:l.length<=24)
  (nf:∀ {lo:Lo}{H:MH}{ai:Nat}{z:Int}{P:LK},(bif tst z then(Lf (H[ai]?.bind MO.own) λvs=>vs.length<1000000/\P (upd lo "x" (.int z)) (H.set ai (.list (vs++[.int (e z)])))) else P (upd lo "x" (.int z)) H)->dA (aN "x") T (bA E ai) (.int z) lo H P)
  (k:∀ {H' r'}{l':List Int},Hx H H'->H'[r']? =some (.list (l'.map V.int))->l'.length<=24->H[r']? =none->Q (.ref r') H'):b6 (aT C) [".0","x"] (iL (eN x)) (aN "x") T (bA E) lo H Q:=by
 have gl:∀ l:List Int,(l.flatMap λz=>bif tst z then [e z] else []).length<=l.length:=λl=>by
  induction l with
  |nil=>exact Nat.le_refl _
  |cons z l ih=>
   rw [List.flatMap_cons,List.length_append,List.length_cons]
   cases tst z with
   |false=>exact Nat.le_trans (Nat.le_of_eq (Nat.zero_add _)) (Nat.le_succ_of_le ih)
   |true=>exact Nat.le_trans (Nat.le_of_eq (Nat.add_comm 1 _)) (Nat.succ_le_succ ih)
 have ef:=lG (λz=>bif tst z then [e z] else []) l
 have g:=gl l
 refine eX V.int (λz=>(bif tst z then [e z] else []).map V.int) (λ_=>True) l hx (aF h) trivial (by rw[ef,List.length_map];exact A273 hl g) (λz hz=>⟨λ{lo1 H1 acc P} i hx ha hal kk=>nf ?_⟩) λ{H'} hx h'=>k (l':=l.flatMap λz=>bif tst z then [e z] else []) hx (by rw[h',ef]) (A274 hl g) (aL H)
 cases et:tst z with
 |false=>rw [et]at kk;exact bL (xT (P:=P) (I:=λ_=>True) hx ha rfl trivial kk)
 |true=>rw [et]at kk hal;exact bY (xS (P:=P) (I:=λ_=>True) (aL H) hx ha hal rfl trivial kk)
theorem aAn{c:Bool}{A A' B:Prop}(h:bif c then A else B)(f:A->A'):bif c then A' else B:=by
 cases c with
 |false=>exact h
 |true=>exact f h
theorem aH3{z:Int}{Q:EK}(hz:lo "x" =some (.int z))(q:Q (.bool (!([PyData.int 5,PyData.int 7].any λy=>PyData.eqv y (.int (z%8))))) H):(aB (oIn not) (aB i9 (eN "x") (eK (.int 8))) (bT (esC (eK (.int 5)) (esC (eK (.int 7)) esN)))) lo H Q:=
 aP (Evv.bin (Evv.n hz) .k (nC (by decide)) _ (kO (aZ (cT (aZ (cT (d3 ⟨by decide,Lp.mk aEw q⟩)))))))
theorem aH4{z:Int}(hz:lo "x" =some (.int z)):Evv (aB i9 (aB k7 (eN "x") (eK (.int 8))) (eK (.int 3))) lo H (.int (z/8%3)):=
 .bin (.bin (.n hz) .k (wV (by decide))) .k (nC (by decide))
theorem law_2(X:XX C){r:Nat}{l:List Int}(hx:lo "numbers" =some (.ref r))(h:H[r]? =some (.list (l.map V.int)))(hl:l.length<=24)(k:∀ {H' r'}{l':List Int},Hx H H'->H'[r']? =some (.list (l'.map V.int))->l'.length<=24->H[r']? =none->K .next (upd lo "first" (.ref r')) H'):uF X lo H K:=
 dD (vX (e:=λz=>z/8%3) (tst:=λz=> !([PyData.int 5,PyData.int 7].any λy=>PyData.eqv y (.int (z%8)))) hx h hl (λ{lo H ai z P} q=>kY (aH3 bM (Lf.mk rfl (aAn q λq=>aH4 bM _ q)))) k)
theorem aH1{z:Int}{Q:EK}(hz:lo "x" =some (.int z))(q:Q (.bool (!([PyData.int 4,PyData.int 7].any λy=>PyData.eqv y (.int (z%8))))) H):(aB (oIn not) (aB i9 (eN "x") (eK (.int 8))) (bT (esC (eK (.int 4)) (esC (eK (.int 7)) esN)))) lo H Q:=
 aP (Evv.bin (Evv.n hz) .k (nC (by decide)) _ (kO (aZ (cT (aZ (cT (d3 ⟨by decide,Lp.mk aEw q⟩)))))))
theorem aH2{z:Int}(hz:lo "x" =some (.int z)):Evv (aB i9 (aB aH (aB k7 (eN "x") (eK (.int 8))) (aB k7 (aB i9 (eN "x") (eK (.int 8))) (eK (.int 6)))) (eK (.int 3))) lo H (.int ((z/8+z%8/6)%3)):=
 .bin (.bin (.bin (.n hz) .k (wV (by decide))) (.bin (.bin (.n hz) .k (nC (by decide))) .k (wV (by decide))) add_e) .k (nC (by decide))
theorem law_3(X:XX C){r:Nat}{l:List Int}(hx:lo "numbers" =some (.ref r))(h:H[r]? =some (.list (l.map V.int)))(hl:l.length<=24)(k:∀ {H' r'}{l':List Int},Hx H H'->H'[r']? =some (.list (l'.map V.int))->l'.length<=24->H[r']? =none->K .next (upd lo "second" (.ref r')) H'):uE X lo H K:=
 dD (vX (e:=λz=>(z/8+z%8/6)%3) (tst:=λz=> !([PyData.int 4,PyData.int 7].any λy=>PyData.eqv y (.int (z%8)))) hx h hl (λ{lo H ai z P} q=>kY (aH1 bM (Lf.mk rfl (aAn q λq=>aH2 bM _ q)))) k)
section
variable {ra rb:Nat}{a b:List Int}
theorem law_4(X:XX C)(h1:lo "first" =some (.ref ra))(h2:lo "second" =some (.ref rb))(ha:LI H ra a)(hb:LI H rb b)(al:a.length<64)(bl:b.length<64)(k:∀ {H' r l},Hx H H'->H'[r]? =some (.list (l.map Op.v))->H[r]? =none->Ops a b l->K .next (upd lo "codes" (.ref r)) H'):uD X lo H K:=
 kch (B:=(Lf (lo "first") λva=>Lf (lo "second") λvb=>X.c_SM [.none,va,vb] H λv H1=>Lf v.rf λi=>(∃ ff,H1[i]? =some (.inst ff))/\bU X [.ref i] H1 λv H2=>K .next (upd lo "codes" v) H2)) ⋯ (Lf.mk h1 (Lf.mk h2 (vR X ha hb al bl k)))
theorem law_6(X:XX C){n:Int}(h1:lo "first" =some (.ref ra))(h2:lo "second" =some (.ref rb))(h3:lo "n" =some (.int n))(ha:LI H ra a)(hb:LI H rb b)(al:a.length<64)(bl:b.length<64)
  (k:∀ {H' r rs l it gi},Hx H H'->H'[r]? =some (.list (rs.map V.ref))->H[r]? =none->GsA H' it gi r rs (groups n l)->Ops a b l->K .next (upd lo "groups" (.ref r)) H'):uB X lo H K:=
 kch (B:=(Lf (lo "first") λva=>Lf (lo "second") λvb=>X.c_SM [.none,va,vb] H λv H1=>Lf v.rf λi=>(∃ ff,H1[i]? =some (.inst ff))/\Lf (lo "n") λm=>b7 X [.ref i,m] H1 λg H2=>d9 (lF X.gc 6 λL=>X.gv L) (λi=>i) [g] H2 λv H3=>K .next (upd lo "groups" v) H3)) ⋯ (Lf.mk h1 (Lf.mk h2 (by
  rw [h3]
  exact xY X ha hb al bl k)))
end
end
section
variable {C:Cx}{H B:MH}{K Q:SK}{lo:Lo}
noncomputable def pP(o:Op):List V:=bif !o.tag.isEq then [o.v] else []
theorem k4:∀ l:List Op,l.flatMap pP=(chg l).map Op.v
 | []=>rfl
 |o :: l=>by
  rw [List.flatMap_cons,k4 l]
  unfold pP
  cases e:o.tag.isEq with
  |true=>rw [iM e];rfl
  |false=>rw [m4 e];rfl
theorem aDs(o:Op):(pP o).length<=1:=by
 unfold pP
 cases !o.tag.isEq with
 |false=>exact Nat.zero_le _
 |true=>exact Nat.le_refl _
noncomputable def neE:EF:=aB (bB not) (aB aI (eN "code") (eK (.int 0))) (eK (.str "equal"))
theorem neE_i{o:Op}{Q:EK}(hc:lo "code" =some o.v)(q:Q (.bool (!o.tag.isEq)) H):neE lo H Q:=
 aP (aP (aV hc (cT (xD (cT (Lp.mk (v:=.bool (!o.tag.isEq)) (H:=H) (by unfold bB;rw[oF];rfl) q))))))
theorem xR{ai:Nat}{o:Op}(hb:B[ai]? =none):Put (λ_=>True) B ai (pP o) (dA (aN "code") (aU (tE neE) (tK true)) (bA (eN "code") ai) o.v):=
 ⟨λ{lo H acc P} i hx ha hl k=>kY (neE_i (o:=o) bM (Lf.mk (p:= !o.tag.isEq) rfl (by
  unfold pP at k hl
  cases e: !o.tag.isEq with
  |false=>rw [e]at k;exact bL (xT (P:=P) (I:=λ_=>True) hx ha rfl trivial k)
  |true=>rw [e]at k hl;exact bY (aV bM (xS (P:=P) (I:=λ_=>True) hb hx ha hl rfl trivial k)))))⟩
theorem oH(l:List Op):(chg l).length<=l.length:=List.length_filter_le ..
theorem law_5(X:XX C){r:Nat}{l:List Op}(h1:lo "codes" =some (.ref r))(h:H[r]? =some (.list (l.map Op.v)))(hl:l.length<100000)(k:∀ {H' r'},Hx H H'->H'[r']? =some (.list ((chg l).map Op.v))->K .next (upd lo "changes" (.ref r')) H'):uC X lo H K:=
 dD (eX Op.v pP (λ_=>True) l h1 (aF h) trivial (Nat.lt_of_le_of_lt (fR aDs l) (Nat.lt_trans hl (by decide))) (λo _=>xR (aL H)) λhx h'=>k hx (by rw[<-k4];exact h'))
noncomputable def gv(p:Nat×List Op):V:=.ref p.1
noncomputable def HG(H:MH)(ps:List (Nat×List Op)):Prop:=∀ p∈ps,H[p.1]? =some (.list (p.2.map Op.v))
theorem HG.hx{ps:List (Nat×List Op)}(h:HG B ps)(x:Hx B H):HG H ps:=λp hp=>x _ _ (h p hp)
theorem GsA.hg{it gi ai:Nat}{rs:List Nat}{gs:List (List Op)}(h:GsA H it gi ai rs gs):∃ ps:List (Nat×List Op),HG H ps/\rs.map V.ref=ps.map gv/\gs=ps.map Prod.snd:=by
 induction h with
 |nil=>exact⟨[],nofun,rfl,rfl⟩
 | @cons r g rs gs h _ _ _ _ ih=>
  refine dC ih λps h1 h2 h3=>?_
  refine⟨(r,g) :: ps,λp hp=>?_,by rw[List.map_cons,h2];rfl,by rw[List.map_cons,h3]⟩
  rcases List.mem_cons.mp hp with rfl |hp
  ·exact h
  ·exact h1 p hp
theorem ne_i{x y:V}{P:Bool->MH->Prop}(h:eqv H x y=some true)(q:P false H):Lp (bB not x y H) λv H1=>Lf (tr v H1) λb=>P b H1:=
 Lp.mk (v:=.bool false) (H:=H) (by unfold bB;rw[h];rfl) (Lf.mk (p:=false) rfl q)
theorem pE{f1 f2:EF}(h:f1 lo H λa H1=>f2 lo H1 λb H2=>Lp (bB not a b H2) λv H3=>Lf (tr v H3) λb=>bif b then(aD (fM (eK (.bool false))) (sK .next)) lo H3 K else K .next lo H3):sIf (tE (aB (bB not) f1 f2)) (aD (fM (eK (.bool false))) (sK .next)) (sK .next) lo H K:=h
theorem no_i{x y:V}{R S:MH->Prop}(h:eqv H x y=some true)(q:S H):Lp (bB not x y H) λv H3=>Lf (tr v H3) λb=>bif b then R H3 else S H3:=
 ne_i (P:=λb H3=>bif b then R H3 else S H3) h (bL q)
theorem aAq{K:ItK C}{fi:IF K}{x:Str}{tgt:AF}{t:TF}{bf:BF}{ai:Nat}{v:V}{P:LK}(q:fi (upd lo x v) H λit H1=>∃ n,pC K tgt t (bf ai) n it (upd lo x v) H1 P):dA (aN x) (tK true) (w4 K fi tgt t bf ai) v lo H P:=q
theorem vH{ai:Nat}{p:Nat×List Op}{T:TF}(out:Op->List V)(h:B[p.1]? =some (.list (p.2.map Op.v)))(hs:∀ o:Op,Put (λ_=>True) B ai (out o) (dA (aN "code") T (bA (eN "code") ai) o.v)):
  Put (λ_=>True) B ai (p.2.flatMap out) (dA (aN "group") (tK true) (w4 (aT C) (iL (eN "group")) (aN "code") T (bA (eN "code")) ai) (gv p)):=
 ⟨λ{lo H acc P} i hx ha hl k=>aAq (iL_i (f:=eN "group") (r:=p.1) (λq=>aV (v:=gv p) bM q) (aF (hx _ _ h)) ⟨_,pB Op.v out (λ_=>True) p.2 (jD (aF h) _ 0 rfl) (λo _=>hs o) trivial hx ha hl k⟩)⟩
theorem wF(ps:List (Nat×List Op))(out:Op->List V):(ps.flatMap λp=>p.2.flatMap out)=(ps.map Prod.snd).flatten.flatMap out:=by
 induction ps with
 |nil=>rfl
 |cons p ps ih=>rw [List.flatMap_cons,ih,List.map_cons,List.flatten_cons,List.flatMap_append]
theorem law_7(X:XX C){rg rc:Nat}{ps:List (Nat×List Op)}{l:List Op}(h1:lo "groups" =some (.ref rg))(h2:lo "changes" =some (.ref rc))(h:H[rg]? =some (.list (ps.map gv)))(hg:HG H ps)(hc:H[rc]? =some (.list ((chg l).map Op.v)))(e:chg (ps.map Prod.snd).flatten=chg l)(hl:l.length<100000)
  (k:∀ {H'},Hx H H'->K .next lo H'):uA X lo H K:=by
 have et:(ps.flatMap λp=>p.2.flatMap pP)=(chg l).map Op.v:=by rw[wF,k4,e]
 refine pE (eX gv (λp=>p.2.flatMap pP) (λ_=>True) ps ?_ (aF h) trivial ?_ (λp hp=>vH pP (hg p hp) λo=>xR (aL H)) λ{H'} hx h'=>aV h2 (no_i ?_ (k hx)))
 ·exact h1
 ·rw[et,List.length_map]
  exact Nat.lt_of_le_of_lt (oH l) (Nat.lt_trans hl (by decide))
 ·rw[et]at h'
  exact eW Op.v dO (aF h') (aF (hx _ _ hc)) (λo _=>dO_rd o) λo _=>dO_ok o
theorem slc13{o:Op}:slc o.v (some 1) (some 3) none H=some (pv (pI o),H):=by rfl'
theorem slc3{o:Op}:slc o.v (some 3) none none H=some (pv (pJ o),H):=by rfl'
theorem hZ{α:Type}(g:α->V)(l:List α):(l.flatMap λx=>[g x])=l.map g:=(List.map_eq_flatMap ..).symm
theorem zH{ai:Nat}{x:Str}{f:EF}{v w:V}(hb:B[ai]? =none)(h:∀ {lo:Lo}{H:MH}{acc:List V}{Q:EK},lo x=some w->Hx B H->H[ai]? =some (.list acc)->(∀ {H'},Hx B H'->H'[ai]? =some (.list acc)->Q v H')->f lo H Q):Put (λ_=>True) B ai [v] (dA (aN x) (tK true) (bA f ai) w):=
 tI (J:=λlo=>lo x=some w) hb (λi q=>q bM trivial) ⟨h⟩
theorem iA{α:Type}{hid:List Str}{x y:Str}{f:EF}{lo:Lo}{Q:EK}{r:Nat}(g:α->V)(d:α->V)(l:List α)(hn:lo x=some (.ref r))(h:H[r]? =some (.list (l.map g)))(hl:l.length<100000)
  (hs:∀ z∈l,∀ {lo:Lo}{H1:MH}{acc:List V}{Q:EK},lo y=some (g z)->Hx H H1->H1[H.length]? =some (.list acc)->(∀ {H'},Hx H H'->H'[H.length]? =some (.list acc)->Q (d z) H')->f lo H1 Q)
  (k:∀ {H'},Hx H H'->H'[H.length]? =some (.list (l.map d))->Q (.ref H.length) H'):b6 (aT C) hid (iL (eN x)) (aN y) (tK true) (bA f) lo H Q:=
 eX g (λz=>[d z]) (λ_=>True) l hn (aF h) trivial (by rw[hZ,List.length_map];exact Nat.lt_trans hl (by decide)) (λz hz=>zH (aL H) (hs z hz)) λhx h'=>k hx (by rw[<-hZ];exact h')
theorem mS{x:Str}{r:Nat}{vs:List V}{Q:EK}(hx:lo x=some (.ref r))(h:lst H (.ref r)=some vs)(hl:vs.length<100000)(q:Q (.int vs.length) H):aM cG (esC (eN x) esN) lo H Q:=aV hx (yE h (Nat.lt_trans hl (by decide)) q)
theorem pG(X:XX C){f:EF}{x:Str}{ra:Nat}{a:List Int}{n:Int}{ps:List (Int×Int)}{Q:EK}(h2:lo "n" =some (.int n))(h3:lo x=some (.ref ra))(ha:LI H ra a)(al:a.length<64)(hl:ps.length<100000)
  (hf:∀ {Q:EK},(∀ {H' r},Hx H H'->H'[r]? =some (.list (ps.map pv))->Q (.ref r) H')->f lo H Q) (k:∀ {H' r'},Hx H H'->H'[r']? =some (.list ((reach n a.length ps).map pv))->Q (.ref r') H'):
  aM (eI X) (esC f (esC (eN "n") (esC (aM cG (esC (eN x) esN)) esN))) lo H Q:=
 dW (aZ (hf λ{H' r} hx h=>aZ (aV h2 (aZ (mS h3 (hx.li ha) (by rw[List.length_map];exact A275 al) (d3 (by
  rw [List.length_map]
  exact aDo X h (Nat.lt_trans hl (by decide)) λx2 h2 _=>k (hx.trans x2) h2)))))))
theorem law_8(X:XX C){rc ra:Nat}{l:List Op}{a:List Int}{n:Int}(h1:lo "changes" =some (.ref rc))(h2:lo "n" =some (.int n))(h3:lo "first" =some (.ref ra))(hc:H[rc]? =some (.list (l.map Op.v)))(hl:l.length<100000)(ha:LI H ra a)(al:a.length<64)
  (k:∀ {H' r'},Hx H H'->H'[r']? =some (.list ((reach n a.length (l.map pI)).map pv))->K .next (upd lo "reach" (.ref r')) H'):t9 X lo H K:=
 dD (pG X h2 h3 ha al (by rw[List.length_map];exact hl) (λq=>iA Op.v (λo=>pv (pI o)) l h1 hc hl (λo _=>λ{lo H1 acc Q} hn hx ha q=>mZ (aV hn (cT (cT (cT (Lf.mk rfl (Lf.mk rfl (Lf.mk rfl (Lp.mk slc13 (q hx ha)))))))))) λhx h'=>q hx (by rw[List.map_map];exact h')) k)
end
section
variable {C:Cx}{H B:MH}{K Q:SK}{lo:Lo}
theorem xZ{Q:EK}(q:Q (.int (-1)) H):jV (eK (.int 1)) lo H Q:=q
theorem g0_i{x:Str}{r:Nat}{g:List Op}{Q:EK}(hx:lo x=some (.ref r))(h:H[r]? =some (.list (g.map Op.v)))(ne:g≠ [])(q:∀ o:Op,o.i1=s1 g->o.j1=t1 g->Q o.v H):aB aI (eN x) (eK (.int 0)) lo H Q:=
 aP (aV hx (cT (mV h ne q)))
theorem g1_i{x:Str}{r:Nat}{g:List Op}{Q:EK}(hx:lo x=some (.ref r))(h:H[r]? =some (.list (g.map Op.v)))(ne:g≠ [])(q:∀ o:Op,o.i2=s2 g->o.j2=t2 g->Q o.v H):aB aI (eN x) (jV (eK (.int 1))) lo H Q:=
 aP (aV hx (xZ (v9 h ne q)))
section
variable {rg rc rr ra rb:Nat}{ps:List (Nat×List Op)}{l:List Op}{a b:List Int}{n:Int}
theorem law_9(X:XX C)(h1:lo "groups" =some (.ref rg))(h2:lo "reach" =some (.ref rr))(h:H[rg]? =some (.list (ps.map gv)))(hg:HG H ps)(hn:∀ p∈ps,p.2≠ [])(hl:ps.length<100000){R:List (Int×Int)}(hr:H[rr]? =some (.list (R.map pv)))(e:(ps.map Prod.snd).map sI=R)
  (k:∀ {H'},Hx H H'->K .next lo H'):t8 X lo H K:=by
 refine pE (iA gv (λp=>pv (sI p.2)) ps h1 h hl (λp hp {lo H1 acc Q} hc hx ha q=>?_) λ{H'} hx h'=>aV h2 (no_i ?_ (k hx)))
 ·have hp':=hx _ _ (hg p hp)
  refine kO (aZ (aP (g0_i hc hp' (hn p hp) λo e1 _=>cT (o_i1 (aZ (aP (g1_i hc hp' (hn p hp) λo' e2 _=>cT (o_i2 (d3 ⟨(show 2<100 by decide),?_⟩)))))))))
  rw [e1,e2]
  exact q hx ha
 ·refine eW pv dP (l:=R) (aF ?_) (aF (hx _ _ hr)) (λp _=>aAh p) λp _=>aAi p
  rw [<-e,List.map_map,List.map_map];exact h'
theorem law_10(X:XX C)(h1:lo "groups" =some (.ref rg))(h2:lo "changes" =some (.ref rc))(h3:lo "n" =some (.int n))(h4:lo "second" =some (.ref rb))(h:H[rg]? =some (.list (ps.map gv)))(hg:HG H ps)(hn:∀ p∈ps,p.2≠ [])(hl:ps.length<100000)
  (hc:H[rc]? =some (.list (l.map Op.v))) (ll:l.length<100000) (hb:LI H rb b) (bl:b.length<64) (e:(ps.map Prod.snd).map sJ=reach n b.length (l.map pJ))
  (k:∀ {H'},Hx H H'->K .next lo H'):qP X lo H K:=by
 refine pE (iA gv (λp=>pv (sJ p.2)) ps h1 h hl (λp hp {lo H1 acc Q} hc hx ha q=>?_) λ{H'} hx h'=>?_)
 ·have hp':=hx _ _ (hg p hp)
  refine kO (aZ (aP (g0_i hc hp' (hn p hp) λo _ e1=>cT (o_j1 (aZ (aP (g1_i hc hp' (hn p hp) λo' _ e2=>cT (o_j2 (d3 ⟨(show 2<100 by decide),?_⟩)))))))))
  rw [e1,e2]
  exact q hx ha
 ·refine pG (ps:=l.map pJ) X h3 h4 (hx.li hb) bl (by rw[List.length_map];exact ll) (λq=>iA Op.v (λo=>pv (pJ o)) l h2 (hx _ _ hc) ll (λo _=>λ{lo H1 acc Q} hn hx ha q=>mZ (aV hn (cT (cT (cT (Lf.mk rfl (Lf.mk rfl (Lf.mk rfl (Lp.mk slc3 (q hx ha)))))))))) λhx h'=>q hx (by rw[List.map_map];exact h')) λ{H2 r'} x2 h2=>no_i ?_ (k (hx.trans x2))
  refine eW pv dP (l:=reach n b.length (l.map pJ)) (aF (x2 _ _ ?_)) (aF h2) (λp _=>aAh p) λp _=>aAi p
  rw [<-e,List.map_map,List.map_map];exact h'
theorem law_11(X:XX C)(h1:lo "codes" =some (.ref rc))(hc:H[rc]? =some (.list (l.map Op.v)))(ll:l.length<100000)(k:∀ {H' r'},Hx H H'->H'[r']? =some (.list ((bare l).map Op.v))->K .next (upd lo "bare" (.ref r')) H'):qO X lo H K:=by
 have lm:(l.map Op.v).length<1000000:=by rw[List.length_map];exact A258 ll
 refine dD (f:=b6 _ _ _ _ _ _) (aP (mZ (aV h1 (cT (cT (cT (Lf.mk rfl (Lf.mk rfl (Lf.mk rfl (iT (aF hc) lm nofun ?_))))))))))
 refine mZ (aV h1 (xZ (cT (cT (Lf.mk rfl (Lf.mk rfl (Lf.mk rfl (iT (aF (Hx.app _ _ _ _ hc)) lm nofun ?_))))))))
 rw [pk_to1,aHd,<-List.map_take,List.length_map,<-List.map_drop]
 have t1:(l.take 1).length<=l.length:=List.length_take_le' ..
 have t2:(l.drop (l.length-1)).length<=l.length:=by rw[List.length_drop];exact Nat.sub_le _ _
 refine kF (Hx.app _ _ _ _ (aY _ _)) (aY _ _) (by rw[List.length_map,List.length_map];exact A276 ll t1 t2) ?_
 have x:=((Hx.app H [MO.list ((l.take 1).map Op.v)]).trans (.app _ [.list ((l.drop (l.length-1)).map Op.v)])).trans (.app _ [.list ((l.take 1).map Op.v++(l.drop (l.length-1)).map Op.v)])
 have hl:=aY (H++[MO.list ((l.take 1).map Op.v)]++[.list ((l.drop (l.length-1)).map Op.v)]) (.list ((l.take 1).map Op.v++(l.drop (l.length-1)).map Op.v))
 revert x hl
 generalize (H++[MO.list ((l.take 1).map Op.v)]++[MO.list ((l.drop (l.length-1)).map Op.v)]).length=r
 generalize H++[MO.list ((l.take 1).map Op.v)]++[MO.list ((l.drop (l.length-1)).map Op.v)]++[MO.list ((l.take 1).map Op.v++(l.drop (l.length-1)).map Op.v)]=H2
 intro x hl
 rw [<-List.map_append]at hl
 refine Lf.mk (p:=r) rfl ⟨⟨_,aF hl⟩,aAj (K:=aT C) (hid:=[".0","code"]) (lo:=lo) (Q:=λv H1=>K .next (upd lo "bare" v) H1) Op.v pP (λ_=>True) (l.take 1++l.drop (l.length-1)) (jD (aF hl) _ 0 rfl) trivial (Nat.lt_of_le_of_lt (fR aDs _) (by rw[List.length_append];exact A276 ll t1 t2)) (λo _=>xR (aL H2)) λ{H'} hx h'=>k (x.trans hx) ?_⟩
 rw [k4]at h'
 exact h'
theorem aDp{ai:Nat}{o:Op}(hb:B[ai]? =none):Put (λ_=>True) B ai [o.v] (dA (aN "code") (tK true) (bA (eN "code") ai) o.v):=zH hb λhn hx ha q=>aV hn (q hx ha)
theorem law_12(X:XX C){rb':Nat}{R:List (Int×Int)}(h1:lo "groups" =some (.ref rg))(h2:lo "changes" =some (.ref rc))(h3:lo "reach" =some (.ref rr))(h4:lo "bare" =some (.ref rb'))(h:H[rg]? =some (.list (ps.map gv)))(hg:HG H ps)
  (hc:H[rc]? =some (.list (l.map Op.v))) (hr:H[rr]? =some (.list (R.map pv))){u:List Op} (hb:H[rb']? =some (.list (u.map Op.v))) (ll:l.length<10000) (rl:R.length<10000) (ul:u.length<100000) (e:(ps.map Prod.snd).flatten.length+u.length=2*l.length+R.length)
  (k:∀ {H'},Hx H H'->K .next lo H'):qN X lo H K:=by
 have et:(ps.flatMap λp=>p.2.flatMap λo=>[o.v])=((ps.map Prod.snd).flatten).map Op.v:=by rw[wF (out:=λo=>[o.v]),hZ]
 have el:((ps.flatMap λp=>p.2.flatMap λo=>[o.v])).length=(ps.map Prod.snd).flatten.length:=by rw[et,List.length_map]
 refine pE (dW (aZ (eX gv (λp=>p.2.flatMap λo=>[o.v]) (λ_=>True) ps h1 (aF h) trivial (by rw[el];exact A277 ll rl e) (λp hp=>vH (λo=>[o.v]) (hg p hp) λo=>aDp (aL H)) λ{H'} hx h'=>?_)))
 refine d3 (yE (aF h') (by rw[el];exact A277 ll rl e) ?_)
 refine aP (aP (aP (cT (mS h2 (aF (hx _ _ hc)) (by rw[List.length_map];exact A278 ll) ?_))))
 rw [el,List.length_map]
 refine Lp.mk (mul_e (by decide)) (mS h3 (aF (hx _ _ hr)) (by rw[List.length_map];exact A278 rl) (qU (mS h4 (aF (hx _ _ hb)) (by rw[List.length_map];exact A279 ul) (zB ?_))))
 rw [List.length_map,List.length_map]
 have e2:((ps.map Prod.snd).flatten.length:Int)=2*(l.length:Int)+R.length-u.length:=A280 e
 rw [<-e2]
 exact no_i (wT (d:=.int _) rfl rfl rfl) (k hx)
end
end
section
variable {C:Cx}{H B:MH}{K Q:SK}{lo:Lo}
theorem vE{α:Type}{K:ItK C}{tgt:AF}{t:TF}{bf:BF}{ai:Nat}{Q:LK}(f:α->V)(Inv:List α->Lo->MH->Prop)(hx:∀ {l lo H},Inv l lo H->Hx B H)(he:∀ {lo H},Inv [] lo H->Q lo H)
  (hs:∀ {x l lo H P},Inv (x :: l) lo H->(∀ {lo' H'},Inv l lo' H'->P lo' H')->dA tgt t (bf ai) (f x) lo H P):∀ (l:List α){it:K.σ}{lo:Lo}{H:MH},Its K B it (l.map f)->Inv l lo H->pC K tgt t (bf ai) (l.length+1) it lo H Q
 | [],it,lo,H,hi,i=>by
  cases hi with
  |nil h=>exact h (hx i) (he i)
 |x :: l,it,lo,H,hi,i=>by
  cases hi with
  |cons h ht=>exact h (hx i) (hs i λi'=>vE f Inv hx he hs l ht i')
noncomputable def bTg:AF:=yZ 5 (asC (aN "tag") (asC (aN "i1") (asC (aN "i2") (asC (aN "j1") (asC (aN "j2") asN)))))
noncomputable def bE:EF:=bT (esC (eN "tag") (esC (eN "j1") (esC (eN "j2") (esC (eN "i1") (esC (eN "i2") esN)))))
noncomputable def bIn:EF:=b6 (aT C) [".0","tag","i1","i2","j1","j2"] (iL (eN "group")) bTg (tK true) (bA bE)
structure BJ(o:Op)(lo:Lo):Prop where
 t:lo "tag" =some (.str o.tag.s)
 i1:lo "i1" =some (.int o.i1)
 i2:lo "i2" =some (.int o.i2)
 j1:lo "j1" =some (.int o.j1)
 j2:lo "j2" =some (.int o.j2)
theorem bTg_i{o:Op}{R:Lo->MH->Prop}(q:∀ {lo'},BJ o lo'->R lo' H):bTg o.v lo H R:=
 kch (B:=(5=5/\R (upd (upd (upd (upd (upd lo "tag" (.str o.tag.s)) "i1" (.int o.i1)) "i2" (.int o.i2)) "j1" (.int o.j1)) "j2" (.int o.j2)) H)) ⋯ ⟨rfl,q ⟨by rfl',by rfl',by rfl',by rfl',by rfl'⟩⟩
theorem bIn_i{r:Nat}{g:List Op}{Q:EK}(hn:lo "group" =some (.ref r))(h:H[r]? =some (.list (g.map Op.v)))(hl:g.length<100000)(k:∀ {H'},Hx H H'->H'[H.length]? =some (.list ((g.map Op.sw).map Op.v))->Q (.ref H.length) H'):bIn (C:=C) lo H Q:=
 eX Op.v (λo=>[o.sw.v]) (λ_=>True) g hn (aF h) trivial (by rw[hZ,List.length_map];exact Nat.lt_trans hl (by decide))
  (λo _=>tI (J:=BJ o) (aL H) (λ_ q=>bTg_i λj=>q j trivial) ⟨λj hx ha q=>kO (aZ (aV j.t (aZ (aV j.j1 (aZ (aV j.j2 (aZ (aV j.i1 (aZ (aV j.i2 (d3 ⟨(show 5<100 by decide),q hx ha⟩)))))))))))⟩)
  λhx h'=>k hx (by rw[List.map_map];exact h'.trans (congrArg (λl=>some (MO.list l)) (hZ (λo:Op=>o.sw.v) g)))
inductive BIv(B:MH)(ai:Nat)(total:List (List Op))(rest:List (Nat×List Op))(lo:Lo)(H:MH):Prop
 |mk {done:List (Nat×List Op)} (hx:Hx B H) (h:H[ai]? =some (.list (done.map gv))) (hd:∀ d∈done,H[d.1]? =some (.list (d.2.map Op.v))/\d.1≠ai) (t:done.map Prod.snd++rest.map (λp=>p.2.map Op.sw)=total) (hr:∀ p∈rest,B[p.1]? =some (.list (p.2.map Op.v))/\p.2.length<100000):BIv B ai total rest lo H
theorem fC{ps:List (Nat×List Op)}:(ps.map gv).length=ps.length:=List.length_map ..
theorem law_13(X:XX C){rg:Nat}{ps:List (Nat×List Op)}(h1:lo "groups" =some (.ref rg))(h:H[rg]? =some (.list (ps.map gv)))(hg:HG H ps)(gl:∀ p∈ps,p.2.length<100000)(hl:ps.length<100000)
  (k:∀ {H' r'}{bs:List (Nat×List Op)},Hx H H'->H'[r']? =some (.list (bs.map gv))->HG H' bs->bs.map Prod.snd=ps.map (λp=>p.2.map Op.sw)->K .next (upd lo "back" (.ref r')) H'):qM X lo H K:=by
 refine dD (iL_i (f:=eN "groups") (r:=rg) (λq=>aV h1 q) (aF h) ⟨_,vE (B:=H) (ai:=H.length) (bf:=bA (bIn (C:=C))) gv (BIv H H.length (ps.map λp=>p.2.map Op.sw)) (λI=>?_) (λI=>?_) (λ{p l lo1 H1 P} I kk=>?_) ps (jD (aF h) _ 0 rfl) (.mk (done:=[]) (.app _ _) (aY _ _) nofun rfl λp hp=>⟨hg p hp,gl p hp⟩)⟩)
 ·cases I with
  |mk hx h hd t hr=>exact hx
 ·cases I with
  |mk hx h hd t hr=>exact k hx h (λd hd'=>(hd d hd').1) (by rw[<-t];exact(List.append_nil _).symm)
 ·cases I with
  | @mk done hx h hd t hr=>
  have hp:=hr p List.mem_cons_self
  refine aCc (bIn_i (r:=p.1) (g:=p.2) bM (hx _ _ hp.1) hp.2 λ{H2} x2 h2=>Lf.mk (dE (x2 _ _ h)) ⟨?_,?_⟩)
  ·rw[fC]
   have:=congrArg List.length t
   rw [List.length_append,List.length_map,List.length_map,List.length_map]at this
   exact A281 hl this
  have ai:=aR h
  refine kk (.mk (done:=done++[(H1.length,p.2.map Op.sw)]) ((hx.trans x2).set (aL H)) ?_ (λd hd'=>?_) ?_ λq hq=>hr q (List.mem_cons_of_mem _ hq))
  ·rw[List.map_append];exact aJ (x2 _ _ h) _
  ·rcases List.mem_append.mp hd' with hd' |hd'
   ·have:=hd d hd'
    exact⟨aG (x2 _ _ this.1) this.2.symm,this.2⟩
   ·rw[List.mem_singleton.mp hd']
    exact⟨aG h2 ai.symm,ai⟩
  ·rw[List.map_append,List.append_assoc];exact t
theorem law_14(X:XX C){rg:Nat}{ps:List (Nat×List Op)}(h1:lo "groups" =some (.ref rg))(h:H[rg]? =some (.list (ps.map gv)))(hg:HG H ps)(hn:∀ p∈ps,p.2≠ [])(hl:ps.length<100000)
  (k:∀ {H' r'},Hx H H'->H'[r']? =some (.list (((ps.map Prod.snd).map mor).map V.int))->K .next (upd lo "more" (.ref r')) H'):qL X lo H K:=by
 refine dD (iA gv (λp=>V.int (mor p.2)) ps h1 h hl (λp hp {lo H1 acc Q} hc hx ha q=>?_) λ{H'} hx h'=>k hx (by rw[List.map_map,List.map_map];exact h'))
 have hp':=hx _ _ (hg p hp)
 have ne:=hn p hp
 refine aP (aP (aP (aP (g1_i hc hp' ne λo e1 e2=>cT (o_j2 (aP (g0_i hc hp' ne λo' e3 e4=>cT (o_j1 (zB (aP (g1_i hc hp' ne λo2 e5 e6=>cT (o_i2 (zB (aP (g0_i hc hp' ne λo3 e7 e8=>cT (o_i1 (qU ?_)))))))))))))))))
 rw [e2,e4,e5,e7]
 exact q hx ha
theorem aH0{K:ItK C}{σ:Nat->K.σ}{r:Nat}{vs:List V}{Q:EK}(h:H[r]? =some (.list vs))(hl:vs.length<1000000)(q:Q (.ref H.length) (H++[.list vs])):d9 K σ [.ref r] H Q:=by
 have e:isG H [.ref r]=none:=by
  show(H[r]?.bind MO.gn).map _=_
  rw [h];rfl
 unfold d9
 rw [e]
 refine Lp.mk (v:=.ref H.length) (H:=H++[.list vs]) ?_ q
 show(lst H (.ref r)).bind _=_
 rw [aF h]
 exact if_pos hl
theorem law_17(X:XX C){rg ra:Nat}{a:List Int}{ps:List (Nat×List Op)}(h1:lo "groups" =some (.ref rg))(h2:lo "first" =some (.ref ra))(h:H[rg]? =some (.list (ps.map gv)))(ha:H[ra]? =some (.list (a.map V.int)))(al:a.length<64)(hl:ps.length<100000)
  (k:∀ {H' rw ro},Hx H H'->H'[rw]? =some (.list (a.map V.int))->H'[ro]? =some (.list ((ps.map λ_=>false).map bv))->H[ro]? =none->rw≠ro->K .next (upd (upd lo "work" (.ref rw)) "on" (.ref ro)) H'):qI X lo H K:=by
 refine tH (kO (aZ (dW (aZ (aV h2 (d3 (aH0 ha (by rw[List.length_map];exact A282 al) ?_)))))))
 refine aZ (iA gv (λp=>bv false) ps h1 (Hx.app _ _ _ _ h) hl (λp hp {lo H1 acc Q} hc hx ha q=>q hx ha) λ{H'} hx h'=>d3 ⟨(show 2<100 by decide),?_⟩)
 refine kch (B:=(2=2/\K .next (upd (upd lo "work" (.ref H.length)) "on" (.ref (H++[MO.list (a.map V.int)]).length)) H')) ⋯ ⟨rfl,k ((Hx.app _ _).trans hx) (hx _ _ (aY _ _)) ?_ ((Hx.app H [MO.list (a.map V.int)]).fresh) (aR (aY H (.list (a.map V.int)))).symm⟩
 rw [List.map_map];exact h'
end
section
variable {C:Cx}{H B:MH}{K Q:SK}{lo:Lo}
noncomputable def enI:Nat->List Int->List (Nat×Int)
 |_,[]=>[]
 |p,x :: l=>(p,x) :: enI (p+1) l
theorem enI_c(p:Nat)(x:Int)(l:List Int):enI p (x :: l)=(p,x) :: enI (p+1) l:=rfl
theorem aAd:∀ (l:List Int) (p:Nat),enl p (l.map V.int)=(enI p l).map λq=>V.tup [.int q.1,.int q.2]
 | [],_=>rfl
 |x :: l,p=>by
  rw [List.map_cons,enl_c,aAd l (p+1)];rfl
theorem uJ:∀ (l:List Int) (p:Nat),(enI p l).length=l.length
 | [],_=>rfl
 |x :: l,p=>by rw[enI_c,List.length_cons,uJ l (p+1),List.length_cons]
noncomputable def dG(p:Nat×List Op):PyData:=.list (p.2.map dO)
theorem dG_rd{ps:List (Nat×List Op)}(hg:HG H ps):∀ p∈ps,rd H 7 (gv p)=some (dG p):=λp hp=>jT (n:=6) Op.v dO (aF (hg p hp)) λo _=>dO_rd6 o
theorem dG_ok(p:Nat×List Op):(dG p).canLay0=true/\(dG p).depth<=9:=by
 have h:=vJ dO (m:=8) p.2 λo _=>⟨(dO_ok o).1,(by decide:1<=8)⟩
 exact⟨h.1,Nat.succ_le_succ h.2⟩
noncomputable def neG:EF:=aB (bB not) (eN "groups") (gU esN)
theorem neG_i{rg:Nat}{ps:List (Nat×List Op)}{P:Bool->MH->Prop}(h1:lo "groups" =some (.ref rg))(h:H[rg]? =some (.list (ps.map gv)))(hg:HG H ps)(q:P (!ps.isEmpty) (H++[.list []])):neG lo H λw H1=>Lf (tr w H1) λb=>P b H1:=
 aP (aV h1 (aEc (aFs gv dG (aF (Hx.app _ _ _ _ h)) (hY _ _) (dG_rd (hg.hx (.app _ _))) (λp _=>dG_ok p) q)))
noncomputable def ordE:EF:=aB i9 (aB aH (aB k7 (eN "x") (eK (.int 8))) (eN "k")) (aM cG (esC (eN "groups") esN))
noncomputable def ordK(G:Nat)(q:Nat×Int):Nat:=((q.2/8+q.1)%(G:Int)).toNat
theorem div8{z:Int}(hz:lo "x" =some (.int z)):Evv (aB k7 (eN "x") (eK (.int 8))) lo H (.int (z/8)):=.bin (.n hz) .k (wV (by decide))
theorem ordE_i{rg:Nat}{ps:List (Nat×List Op)}{q:Nat×Int}{Q:EK}(hx:lo "x" =some (.int q.2))(hk:lo "k" =some (.int q.1))(h1:lo "groups" =some (.ref rg))(h:H[rg]? =some (.list (ps.map gv)))(hl:ps.length<100000)(p:0<ps.length)(k:Q (nv (ordK ps.length q)) H):ordE lo H Q:=by
 refine aP (aP (div8 hx _ (aV hk (qU (mS h1 (aF h) (by rw[fC];exact hl) ?_)))))
 rw [fC]
 refine Lp.mk (nC (A283 p)) ?_
 have e:nv (ordK ps.length q)= .int ((q.2/8+q.1)%(ps.length:Int)):=congrArg V.int (Int.toNat_of_nonneg (Int.emod_nonneg _ (A284 p)))
 rw [<-e];exact k
noncomputable def pN(ps:List (Nat×List Op))(q:Nat×Int):List V:=bif !ps.isEmpty then [nv (ordK ps.length q)] else []
theorem aCb{tgt:AF}{F E:EF}{ai:Nat}{v:V}{P:LK}(J:Lo->Prop)(ht:∀ {R:Lo->MH->Prop},(∀ {lo'},J lo'->R lo' H)->tgt v lo H R)(q:∀ {lo'},J lo'->F lo' H λw H1=>Lf (tr w H1) λb=>bif b then(E lo' H1 λw H1=>Lf (H1[ai]?.bind MO.own) λvs=>vs.length<1000000/\P lo' (H1.set ai (.list (vs++[w])))) else P lo' H1):dA tgt (aU (tE F) (tK true)) (bA E ai) v lo H P:=
 ht λ{lo'} j=>kch (B:=F lo' H λw H1=>Lf (tr w H1) λb=>bif b then(E lo' H1 λw H1=>Lf (H1[ai]?.bind MO.own) λvs=>vs.length<1000000/\P lo' (H1.set ai (.list (vs++[w])))) else P lo' H1) ⋯ (q j)
structure OJ(rg:Nat)(q:Nat×Int)(lo:Lo):Prop where
 g:lo "groups" =some (.ref rg)
 k:lo "k" =some (.int q.1)
 x:lo "x" =some (.int q.2)
noncomputable def oTg:AF:=yZ 2 (asC (aN "k") (asC (aN "x") asN))
theorem oTg_i{rg:Nat}{q:Nat×Int}{R:Lo->MH->Prop}(h:lo "groups" =some (.ref rg))(k:∀ {lo'},OJ rg q lo'->R lo' H):oTg (.tup [.int q.1,.int q.2]) lo H R:=
 kch (B:=(2=2/\R (upd (upd lo "k" (.int q.1)) "x" (.int q.2)) H)) ⋯ ⟨rfl,k ⟨(show upd (upd lo "k" (.int q.1)) "x" (.int q.2) "groups" =lo "groups" by rfl').trans h,by rfl',by rfl'⟩⟩
theorem aHc{ai rg:Nat}{ps:List (Nat×List Op)}{q:Nat×Int}(hb:B[ai]? =none)(h:B[rg]? =some (.list (ps.map gv)))(hg:HG B ps)(hl:ps.length<100000):Put (λlo=>lo "groups" =some (.ref rg)) B ai (pN ps q) (dA oTg (aU (tE neG) (tK true)) (bA ordE ai) (.tup [.int q.1,.int q.2])):=by
 refine⟨λ{lo H acc P} i hx ha hal k=>aCb (OJ rg q) (λkk=>oTg_i i kk) λ{lo'} j=>?_⟩
 have x1:=hx.trans (.app H [.list []])
 have ha':=Hx.app H [MO.list []] _ _ ha
 refine neG_i (P:=λb H1=>bif b then(ordE lo' H1 λw H1=>Lf (H1[ai]?.bind MO.own) λvs=>vs.length<1000000/\P lo' (H1.set ai (.list (vs++[w])))) else P lo' H1) j.g (hx _ _ h) (hg.hx hx) ?_
 unfold pN at k hal
 cases e: !ps.isEmpty with
 |false=>rw [e]at k;exact bL (xT (P:=P) (I:=λlo=>lo "groups" =some (.ref rg)) x1 ha' rfl j.g k)
 |true=>
  rw [e]at k hal
  have p:0<ps.length:=by
   cases ps with
   |nil=>cases e
   |cons=>exact Nat.succ_pos _
  exact bY (ordE_i j.x j.k j.g (x1 _ _ h) hl p (xS (P:=P) (I:=λlo=>lo "groups" =some (.ref rg)) hb x1 ha' hal rfl j.g k))
theorem law_15(X:XX C){rn rg:Nat}{l:List Int}{ps:List (Nat×List Op)}(h0:lo "numbers" =some (.ref rn))(h1:lo "groups" =some (.ref rg))(hn:H[rn]? =some (.list (l.map V.int)))(nl:l.length<=24)(h:H[rg]? =some (.list (ps.map gv)))(hg:HG H ps)(hl:ps.length<100000)
  (k:∀ {H' r'}{os:List Nat},Hx H H'->H'[r']? =some (.list (os.map nv))->(∀ o∈os,o<ps.length)->os.length<=24->K .next (upd lo "order" (.ref r')) H'):qK X lo H K:=by
 have hid:hide [".0","k","x"] lo "groups" =some (.ref rg):=(show hide [".0","k","x"] lo "groups" =lo "groups" by rfl').trans h1
 have o1:∀ q,(pN ps q).length<=1:=λq=>by
  unfold pN
  cases !ps.isEmpty with
  |false=>exact Nat.zero_le _
  |true=>exact Nat.le_refl _
 have le:=fR o1 (enI 0 l)
 rw [uJ]at le
 refine dD (jP (K:=j4 C) (tgt:=oTg) (t:=aU (tE neG) (tK true)) (bf:=bA ordE) (λq:Nat×Int=>V.tup [.int q.1,.int q.2]) (pN ps) (λlo=>lo "groups" =some (.ref rg)) (enI 0 l) (it:=(rn,0)) (λ{P} q=>iL_i (f:=eN "numbers") (λq=>aV h0 q) (aF hn) q) ?_ hid ?_ (λq _=>aHc (aL H) h hg hl) λ{H'} hx h'=>?_)
 ·rw[<-aAd];exact v5 (aF hn) _ 0 rfl
 ·exact A273 nl le
 ·by_cases q:ps.isEmpty=true
  ·have e:(enI 0 l).flatMap (pN ps)= []:=by
    have:pN ps=λ_=>[]:=funext λx=>by unfold pN;rw[q];rfl
    rw [this]
    exact List.flatMap_eq_nil_iff.mpr λ_ _=>rfl
   rw [e]at h'
   exact k (os:=[]) hx h' nofun (Nat.zero_le _)
  ·have p:0<ps.length:=by
    cases ps with
    |nil=>exact absurd rfl q
    |cons=>exact Nat.succ_pos _
   have e:(enI 0 l).flatMap (pN ps)=((enI 0 l).map (ordK ps.length)).map nv:=by
    have:pN ps=λx=>[nv (ordK ps.length x)]:=funext λx=>by unfold pN;rw[Bool.eq_false_iff.mpr q];rfl
    rw [this,List.map_map];exact hZ _ _
   rw [e]at h'
   refine k hx h' (λo ho=>?_) (by rw[List.length_map,uJ];exact nl)
   refine xEA (List.mem_map.mp ho) λx _ z195=>?_;subst z195
   unfold ordK
   have:=Int.emod_lt_of_pos (x.2/8+x.1) (b:=(ps.length:Int)) (A283 p)
   have:=Int.emod_nonneg (x.2/8+x.1) (b:=(ps.length:Int)) (A284 p)
   omega
noncomputable def offT:EF:=aB (bB id) (aB i9 (uK (eN "order") (eN "k")) (eK (.int 2))) (eK (.int 0))
noncomputable def vK(os:List Nat)(k:Nat):Bool:=PyData.eqv (.int ((((os.map λo=>((o:Nat):Int)).count (k:Int):Nat):Int)%2)) (.int 0)
theorem aFx{f g:EF}{Q:EK}(h:f lo H λa H1=>Lf a.rf λi=>(∃ vs,H1[i]? =some (.list vs))/\g lo H1 λv H2=>Lf (H2[i]?.bind MO.own) λvs=>Lf (Ti v) λk=>Lf (lH vs) λis=>Q (.int (is.count k:Nat)) H2):uK f g lo H Q:=h
theorem offT_i{ro k:Nat}{os:List Nat}{Q:EK}(h1:lo "order" =some (.ref ro))(h2:lo "k" =some (nv k))(h:H[ro]? =some (.list (os.map nv)))(q:Q (.bool (vK os k)) H):offT lo H Q:=by
 have e:os.map nv=(os.map λo=>((o:Nat):Int)).map V.int:=by rw[List.map_map];rfl
 refine aP (aP (aFx (aV h1 (Lf.mk (p:=ro) rfl ⟨⟨_,h⟩,aV h2 (Lf.mk (dE h) (Lf.mk (p:=(k:Int)) rfl (Lf.mk (p:=os.map λo=>((o:Nat):Int)) ?_ (cT (Lp.mk (nC (by decide)) (cT (Lp.mk (v:=.bool (vK os k)) (H:=H) rfl q)))))))⟩))))
 rw [e];exact p9 _
noncomputable def outF(os:List Nat)(k:Nat):List V:=bif vK os k then [nv k] else []
theorem pO(os:List Nat):∀ l:List Nat,l.flatMap (outF os)=(l.filter (vK os)).map nv
 | []=>rfl
 |k :: l=>by
  rw [List.flatMap_cons,pO os l]
  unfold outF
  cases e:vK os k with
  |true=>rw [List.filter_cons_of_pos e];rfl
  |false=>rw [List.filter_cons_of_neg (by rw[e];nofun)];rfl
theorem law_16(X:XX C){rg ro:Nat}{ps:List (Nat×List Op)}{os:List Nat}(h1:lo "groups" =some (.ref rg))(h2:lo "order" =some (.ref ro))(h:H[rg]? =some (.list (ps.map gv)))(hl:ps.length<100000)(ho:H[ro]? =some (.list (os.map nv)))
  (k:∀ {H' r'}{fs:List Nat},Hx H H'->H'[r']? =some (.list (fs.map nv))->(∀ o∈fs,o<ps.length)->fs.length<=ps.length->K .next (upd lo "off" (.ref r')) H'):qJ X lo H K:=by
 have hid:hide [".0","k"] lo "order" =some (.ref ro):=(show hide [".0","k"] lo "order" =lo "order" by rfl').trans h2
 have fl:((List.range ps.length).filter (vK os)).length<=ps.length:=Nat.le_trans (List.length_filter_le ..) (Nat.le_of_eq List.length_range)
 refine dD (sP (bf:=bA (eN "k")) (t:=aU (tE offT) (tK true)) (outF os) (λlo=>lo "order" =some (.ref ro)) h1 (aF h) (by rw[fC];exact hl) hid ?_ (λk hk=>⟨λ{lo H1 acc P} i hx ha hal kk=>?_⟩) λ{H'} hx h'=>?_)
 ·rw[pO,List.length_map,fC];exact A285 hl fl
 ·have j:upd lo "k" (nv k) "order" =some (.ref ro):=(show upd lo "k" (nv k) "order" =lo "order" by rfl').trans i
  refine kY (offT_i j bM (hx _ _ ho) (Lf.mk (p:=vK os k) rfl ?_))
  unfold outF at kk hal
  cases e:vK os k with
  |false=>rw [e]at kk;exact bL (xT (P:=P) (I:=λlo=>lo "order" =some (.ref ro)) hx ha rfl j kk)
  |true=>rw [e]at kk hal;exact bY (aV bM (xS (P:=P) (I:=λlo=>lo "order" =some (.ref ro)) (aL H) hx ha hal rfl j kk))
 ·rw[pO,fC]at h'
  exact k hx h' (λo ho=>List.mem_range.mp (List.mem_filter.mp ho).1) fl
theorem law_19(X:XX C){rg ra rb:Nat}{ps:List (Nat×List Op)}{a b:List Int}(h1:lo "groups" =some (.ref rg))(h2:lo "first" =some (.ref ra))(h3:lo "second" =some (.ref rb))(h:H[rg]? =some (.list (ps.map gv)))(hg:HG H ps)(ha:LI H ra a)(hb:LI H rb b)(e:ps= []->a=b)
  (k:∀ {H'},K (.ret (.bool true)) lo H'):qG X lo H K:=by
 refine sRet_i (aP (aV h1 (aEc (Lp.mk (v:=.bool (!ps.isEmpty)) (H:=H++[.list []]) (by unfold bB;rw[sN gv dG (aF (Hx.app _ _ _ _ h)) (hY _ _) (dG_rd (hg.hx (.app _ _))) λp _=>dG_ok p];rfl) (Lf.mk (p:= !ps.isEmpty) rfl ?_)))))
 cases ps with
 |cons=>exact bY k
 |nil=>
  refine bL (aP (aV h2 (aV h3 (Lp.mk (v:=.bool true) (H:=H++[.list []]) ?_ k))))
  have e:=e rfl
  subst e
  unfold bB
  rw [eW V.int dI ((Hx.app _ _).li ha) ((Hx.app _ _).li hb) (λx _=>aFz x) λx _=>aF0 x];rfl
end
section
variable {C:Cx}{H B:MH}{K Q:SK}{lo:Lo}{a b:List Int}
noncomputable def mR(fs:List Bool)(ms:List Int)(k:Nat):List Int:=match fs[k]?,ms[k]? with |some true,some m=>[m] |_,_=>[]
theorem zD:∀ (k:Nat) (fs:List Bool) (ms:List Int),fs.length=ms.length->((List.range k).flatMap (mR fs ms)).sum=smr fs ms k
 |0,fs,ms,_=>by
  cases fs with
  |nil=>rfl
  |cons f fs=>cases ms<;>rfl
 |k+1,[],ms,_=>by
  have e:(List.range (k+1)).flatMap (mR [] ms)= []:=List.flatMap_eq_nil_iff.mpr λ_ _=>rfl
  rw [e];rfl
 |k+1,f :: fs,[],h=>nomatch h
 |k+1,f :: fs,m :: ms,h=>by
  have e:(λi=>mR (f :: fs) (m :: ms) (i+1))=mR fs ms:=rfl
  rw [List.range_succ_eq_map,List.flatMap_cons,List.flatMap_map]
  show(mR (f :: fs) (m :: ms) 0++(List.range k).flatMap (mR fs ms)).sum=_
  rw [List.sum_append,zD k fs ms (Nat.succ.inj h),smr_c]
  cases f with
  |true=>show m+0+_=m+_;rw[Int.add_zero]
  |false=>rfl
noncomputable def sumT:EF:=aB aI (eN "on") (eN "g")
noncomputable def sumE:EF:=aB aI (eN "more") (eN "g")
structure GJ(ro rm:Nat)(lo:Lo):Prop where
 o:lo "on" =some (.ref ro)
 m:lo "more" =some (.ref rm)
theorem GJ.g{ro rm:Nat}(h:GJ ro rm lo)(v:V):GJ ro rm (upd lo "g" v):=⟨(show upd lo "g" v "on" =lo "on" by rfl').trans h.o,(show upd lo "g" v "more" =lo "more" by rfl').trans h.m⟩
theorem aHb{ai ro rm k:Nat}{fs:List Bool}{ms:List Int}(hb:B[ai]? =none)(ho:B[ro]? =some (.list (fs.map bv)))(hm:B[rm]? =some (.list (ms.map V.int)))(e:fs.length=ms.length)(hk:k<fs.length)(fl:fs.length<100000):
  Put (GJ ro rm) B ai ((mR fs ms k).map V.int) (dA (aN "g") (aU (tE sumT) (tK true)) (bA sumE ai) (nv k)):=by
 refine⟨λ{lo H acc P} i hx ha hal kk=>?_⟩
 have ef:fs[k]? =some fs[k]:=List.getElem?_eq_getElem hk
 have km:k<ms.length:=e▸hk
 have em:ms[k]? =some ms[k]:=List.getElem?_eq_getElem km
 have eo:mR fs ms k=bif fs[k] then [ms[k]] else []:=by
  unfold mR
  rw [ef,em]
  cases fs[k]<;>rfl
 have j:=i.g (nv k)
 refine kY (aP (aV j.o (aV bM (qT (v:=bv fs[k]) (hx _ _ ho) (by rw[List.getElem?_map,ef];rfl) (by rw[List.length_map];exact fl) (Lf.mk (p:=fs[k]) rfl ?_)))))
 rw [eo]at kk hal
 cases c:fs[k] with
 |false=>rw [c]at kk;exact bL (xT (P:=P) (I:=GJ ro rm) hx ha rfl j kk)
 |true=>
  rw [c]at kk hal
  exact bY (aP (aV j.m (aV bM (qT (v:=.int ms[k]) (hx _ _ hm) (by rw[List.getElem?_map,em];rfl) (by rw[List.length_map];exact A286 e fl) (xS (P:=P) (I:=GJ ro rm) hb hx ha hal rfl j kk)))))
noncomputable def eSum:EF:=aM yT (esC (b6 (kK C) [".0","g"] (iR (aM gX (esC (eN "k") esN))) (aN "g") (aU (tE sumT) (tK true)) (bA sumE)) esN)
theorem outM_1(fs:List Bool)(ms:List Int)(k:Nat):((mR fs ms k).map V.int).length<=1:=by
 unfold mR
 split
 ·exact Nat.le_refl _
 ·exact Nat.zero_le _
theorem eSum_i{ro rm k:Nat}{fs:List Bool}{ms:List Int}{Q:EK}(hk:lo "k" =some (nv k))(h1:lo "on" =some (.ref ro))(h2:lo "more" =some (.ref rm))(ho:H[ro]? =some (.list (fs.map bv)))(hm:H[rm]? =some (.list (ms.map V.int)))(e:fs.length=ms.length)(kl:k<fs.length)(fl:fs.length<100000)
  (q:∀ {H'},Hx H H'->Q (.int (smr fs ms k)) H'):eSum (C:=C) lo H Q:=by
 refine dW (aZ (jP nv (λk=>(mR fs ms k).map V.int) (GJ ro rm) (List.range k) (it:=(0,k,1)) (λ{P} q=>aV hk (xM (Lf.mk (p:=(0,(k:Int),1)) rfl ⟨xL k (A287 kl fl),?_⟩))) (by rw[<-pH];exact n7 _ _) ⟨(show hide [".0","g"] lo "on" =lo "on" by rfl').trans h1,(show hide [".0","g"] lo "more" =lo "more" by rfl').trans h2⟩ ?_ (λk' hk'=>aHb (aL H) ho hm e (Nat.lt_trans (List.mem_range.mp hk') kl) fl) λ{H'} hx h'=>d3 ?_))
 ·have e:mQ 0 (k:Int) 1=k:=by
   show((k:Int)-0).toNat=_
   rw [Int.sub_zero,Int.toNat_natCast]
  show P (0,mQ 0 (k:Int) 1,1) H
  rw [e];exact q
 ·have:=fR (outM_1 fs ms) (List.range k)
  rw [List.length_range]at this
  exact A288 kl fl this
 ·rw[lG (mR fs ms)]at h'
  have q:=q hx
  rw [<-zD k fs ms e]at q
  exact aC5 (aF h') q
theorem flip_i{ro k:Nat}{fs:List Bool}{v:Bool}(h1:lo "on" =some (.ref ro))(hk:lo "k" =some (nv k))(ho:H[ro]? =some (.list (fs.map bv)))(hv:fs[k]? =some v)(fl:fs.length<100000)(q:K .next lo (H.set ro (.list ((fs.set k (!v)).map bv)))):
  cY (eT (sU (tE (aB aI (eN "on") (eN "k"))))) (qV (eN "on") (eN "k")) lo H K:=by
 have kl:=(List.getElem?_eq_some_iff.mp hv).1
 refine tH (aP (aV h1 (aV hk (qT (v:=bv v) ho (by rw[List.getElem?_map,hv];rfl) (by rw[List.length_map];exact fl) (Lf.mk (p:=v) rfl (aV h1 (aV hk (Lf.mk (xG (j:=k) ho ⟨A264,A265 fl kl⟩ ?_) ?_))))))))
 ·rw[List.length_map]
  exact(eR (Int.natCast_nonneg k) (A266 kl)).trans (by rw[Int.toNat_natCast])
 ·rw[List.map_set]at q
  exact q
noncomputable def dB(f:Bool):PyData:=.bool f
theorem noF_i{ro:Nat}{fs:List Bool}{P:Bool->MH->Prop}(h1:lo "on" =some (.ref ro))(ho:H[ro]? =some (.list (fs.map bv)))(q1:(∀ v∈fs,v=true)->P true H)(q2:P false H):aB (oIn not) (eK (.bool false)) (eN "on") lo H λv H1=>Lf (tr v H1) λt=>P t H1:=by
 have e:oIn not (.bool false) (.ref ro) H=some (.bool (!((fs.map dB).any λy=>PyData.eqv y (.bool false))),H):=by
  have e1:rd H eqD (.ref ro)=some (.list (fs.map dB)):=jT (n:=7) bv dB (aF ho) λ_ _=>rfl
  have e2:PyData.canLayAll0 (fs.map dB)=true:=(vJ dB (m:=0) fs λ_ _=>⟨rfl,Nat.le_refl _⟩).1
  have e3:inB H (.bool false) (.ref ro)=some ((fs.map dB).any λy=>PyData.eqv y (.bool false)):=by
   show((rd H eqD (.ref ro)).bind PyData.kids).bind _=_
   rw [e1]
   show(if (PyData.canLayAll0 (fs.map dB) && PyData.canLay0 (.bool false) && decide ((PyData.bool false).depth<50))=true then _ else _)=_
   rw [e2];rfl
  unfold oIn
  rw [e3];rfl
 refine aP (cT (aV h1 (Lp.mk e (Lf.mk rfl ?_))))
 cases c:(fs.map dB).any λy=>PyData.eqv y (.bool false) with
 |true=>exact q2
 |false=>
  refine q1 λv hv=>?_
  have:=List.any_eq_false.mp c (dB v) (List.mem_map.mpr ⟨v,hv,rfl⟩)
  cases v with
  |true=>rfl
  |false=>exact absurd rfl this
end
section
variable {C:Cx}{H B:MH}{K Q:SK}{lo:Lo}
structure LD where
 rg:Nat
 rk:Nat
 rm:Nat
 ra:Nat
 rb:Nat
 rc:Nat
 rr:Nat
 ro:Nat
 ps:List (Nat×List Op)
 bs:List (Nat×List Op)
 a:List Int
 b:List Int
 l:List Op
noncomputable def LD.gs(D:LD):List (List Op):=D.ps.map Prod.snd
theorem LD.len(D:LD):D.gs.length=D.ps.length:=List.length_map ..
structure WD(D:LD)(B:MH):Prop where
 g:B[D.rg]? =some (.list (D.ps.map gv))
 hg:HG B D.ps
 k:B[D.rk]? =some (.list (D.bs.map gv))
 hb:HG B D.bs
 m:B[D.rm]? =some (.list ((D.gs.map mor).map V.int))
 a:B[D.ra]? =some (.list (D.a.map V.int))
 b:B[D.rb]? =some (.list (D.b.map V.int))
 c:B[D.rc]? =some (.list ((chg D.l).map Op.v))
 r:B[D.rr]? =some (.list ((D.gs.map sI).map pv))
 no:B[D.ro]? =none
 gl:GL D.a D.b false 0 0 D.gs
 sw:D.bs.map Prod.snd=D.ps.map λp=>p.2.map Op.sw
 ch:chg D.gs.flatten=chg D.l
 al:D.a.length<64
 bl:D.b.length<64
 pl:D.ps.length<100000
structure LF(D:LD)(rw:Nat)(lo:Lo):Prop where
 g:lo "groups" =some (.ref D.rg)
 k:lo "back" =some (.ref D.rk)
 m:lo "more" =some (.ref D.rm)
 a:lo "first" =some (.ref D.ra)
 b:lo "second" =some (.ref D.rb)
 c:lo "changes" =some (.ref D.rc)
 r:lo "reach" =some (.ref D.rr)
 o:lo "on" =some (.ref D.ro)
 w:lo "work" =some (.ref rw)
structure LS(D:LD)(B:MH)(rl:Nat)(ks:List Nat)(rw:Nat)(fs:List Bool)(w:List Int)(H:MH):Prop where
 hx:Hx B H
 o:H[D.ro]? =some (.list (fs.map bv))
 l:H[rl]? =some (.list (ks.map nv))
 w:H[rw]? =some (.list (w.map V.int))
 nw:rw≠D.ro
 nl:rl≠D.ro
 fl:fs.length=D.ps.length
theorem LS.up{D:LD}{rl rw:Nat}{ks:List Nat}{fs:List Bool}{w:List Int}{H':MH}(h:LS D B rl ks rw fs w H)(x:Hx H H'):LS D B rl ks rw fs w H':=⟨h.hx.trans x,x _ _ h.o,x _ _ h.l,x _ _ h.w,h.nw,h.nl,h.fl⟩
theorem Lo.ne{x y:Str}{v:V}(h:y≠x):upd lo x v y=lo y:=if_neg h
theorem LF.up{D:LD}{rw:Nat}(h:LF D rw lo)(x:Str)(v:V)(hx:x="k" ∨x="place"):LF D rw (upd lo x v):=by
 rcases hx with rfl |rfl<;>exact⟨(Lo.ne (by decide+kernel)).trans h.g,(Lo.ne (by decide+kernel)).trans h.k,(Lo.ne (by decide+kernel)).trans h.m,(Lo.ne (by decide+kernel)).trans h.a,(Lo.ne (by decide+kernel)).trans h.b,(Lo.ne (by decide+kernel)).trans h.c,(Lo.ne (by decide+kernel)).trans h.r,(Lo.ne (by decide+kernel)).trans h.o,(Lo.ne (by decide+kernel)).trans h.w⟩
theorem LF.upw{D:LD}{rw r:Nat}(h:LF D rw lo):LF D r (upd lo "work" (.ref r)):=
 ⟨(Lo.ne (by decide+kernel)).trans h.g,(Lo.ne (by decide+kernel)).trans h.k,(Lo.ne (by decide+kernel)).trans h.m,(Lo.ne (by decide+kernel)).trans h.a,(Lo.ne (by decide+kernel)).trans h.b,(Lo.ne (by decide+kernel)).trans h.c,(Lo.ne (by decide+kernel)).trans h.r,(Lo.ne (by decide+kernel)).trans h.o,bM⟩
theorem GL.wlen{a b:List Int}{s:Bool}{e f:Int}{gs:List (List Op)}(h:GL a b s e f gs):0<=e->0<=f->∀ {fs:List Bool},gs.length=fs.length->((wk a b e gs fs).length:Int)<=(a.length-e)+(b.length-f):=by
 induction h with
 | @nil s e f k k0 m ei ej=>
  intro e0 f0 fs _
  have:((a.drop e.toNat).length:Int)<=(a.length-e)+(b.length-f):=by rw[List.length_drop];exact A289 k0 ei ej
  cases fs<;>exact this
 | @cons s e f t x y g gs t0 st m c ne h ih=>
  intro e0 f0 fs hl
  cases fs with
  |nil=>cases hl
  |cons v fs=>
   have e1:=Int.add_nonneg e0 t0
   have f1:=Int.add_nonneg f0 t0
   have i:=ih (Int.le_trans e1 c.le.1) (Int.le_trans f1 c.le.2) (Nat.succ.inj hl)
   have l1:=eZ e0 (cX e t0) (Int.le_trans c.le.1 h.le.1)
   have l2:((Xf a b v g).length:Int)<=(x-(e+t))+(y-(f+t)):=by
    unfold Xf
    have:=c.le
    rw [(c.hd ne).1,(c.hd ne).2,(c.last ne).1,(c.last ne).2]
    cases v with
    |false=>rw [cond_false,eZ e1 c.le.1 h.le.1];exact A290 this
    |true=>rw [cond_true,eZ f1 c.le.2 h.le.2];exact A291 this
   rw [wk_c,List.length_append,List.length_append,(c.hd ne).1,(c.last ne).1]
   exact A292 i l1 l2
section
variable {D:LD}{rl rw k:Nat}{ks:List Nat}{fs:List Bool}{w:List Int}
theorem WD.at(W:WD D B)(hk:k<D.ps.length):∃ p q:Nat×List Op,D.ps[k]? =some p/\D.bs[k]? =some q/\D.gs[k]? =some p.2/\q.2=p.2.map Op.sw/\p∈D.ps/\q∈D.bs:=by
 have e1:D.ps[k]? =some D.ps[k]:=List.getElem?_eq_getElem hk
 have e2:D.gs[k]? =some D.ps[k].2:=by unfold LD.gs;rw[List.getElem?_map,e1];rfl
 have e3:(D.bs.map Prod.snd)[k]? =some (D.ps[k].2.map Op.sw):=by rw[W.sw,List.getElem?_map,e1];rfl
 rw [List.getElem?_map]at e3
 refine xEA (Option.map_eq_some_iff.mp e3) λq h1 h2=>?_
 exact⟨_,q,e1,h1,e2,h2,List.mem_of_getElem? e1,List.mem_of_getElem? h1⟩
noncomputable def lS1:SF:=aX "place" (aB aH (aB aI (aB aI (aB aI (eN "groups") (eN "k")) (eK (.int 0))) (eK (.int 1))) (eSum (C:=C)))
theorem lS1_i{p:Nat×List Op}(W:WD D B)(F:LF D rw lo)(hk:lo "k" =some (nv k))(S:LS D B rl ks rw fs w H)(e:D.ps[k]? =some p)(ne:p.2≠ [])(q:∀ {H'},Hx H H'->K .next (upd lo "place" (.int (s1 p.2+smr fs (D.gs.map mor) k))) H'):lS1 (C:=C) lo H K:=by
 have kl:=(List.getElem?_eq_some_iff.mp e).1
 have pl:=W.pl
 refine dD (aP (aP (aP (aP (aV F.g (aV hk (qT (v:=gv p) (S.hx _ _ W.g) (by rw[List.getElem?_map,e];rfl) (by rw[fC];exact pl) (cT (mV (S.hx _ _ (W.hg p (List.mem_of_getElem? e))) ne λo e1 _=>cT (o_i1 (eSum_i hk F.o F.m S.o (S.hx _ _ W.m) (by rw[S.fl,List.length_map,D.len]) (by rw[S.fl];exact kl) (by rw[S.fl];exact pl) λ{H'} hx=>qU ?_)))))))))))
 rw [e1]
 exact q hx
end
end
section
variable {C:Cx}{H B:MH}{K Q:SK}{lo:Lo}
theorem r7{P A S two:List Int}{place n j y:Int}(hp:(P.length:Int)=place)(hn:(A.length:Int)=n):turned ((P++A)++S) two place n j y=(P++sl two j y)++S:=by
 subst hp;subst hn
 unfold turned
 rw [Int.toNat_natCast,show ((P.length:Int)+(A.length:Int)).toNat=(P++A).length from by rw[List.length_append];omega,List.drop_left,List.append_assoc P A S,List.take_left]
theorem aDf{fs:List Bool}{k:Nat}{v:Bool}(h:fs[k]? =some v):fs.set k v=fs:=by
 refine xE (List.getElem?_eq_some_iff.mp h) λh1 h2=>?_
 rw [<-h2]
 exact List.set_getElem_self h1
section
variable {D:LD}{rl rw k:Nat}{ks:List Nat}{fs:List Bool}{w:List Int}
noncomputable def lS2(X:XX C):SF:=sIf (tE (aB aI (eN "on") (eN "k"))) (aD (aX "work" (aM (d8 X) (esC (eN "work") (esC (eN "place") (esC (aB aI (eN "back") (eN "k")) (esC (eN "second") (esC (eN "first") esN))))))) (sK .next)) (aD (aX "work" (aM (d8 X) (esC (eN "work") (esC (eN "place") (esC (aB aI (eN "groups") (eN "k")) (esC (eN "first") (esC (eN "second") esN))))))) (sK .next))
theorem ne_map{g:List Op}(h:g≠ []):g.map Op.sw≠ []:=λe=>h (List.map_eq_nil_iff.mp e)
theorem lS2_i(X:XX C){p:Nat×List Op}{v:Bool}(W:WD D B)(F:LF D rw lo)(hk:lo "k" =some (nv k))(hp:lo "place" =some (.int (s1 p.2+smr fs (D.gs.map mor) k)))(S:LS D B rl ks rw fs w H)(ew:w=wk D.a D.b 0 D.gs fs)(e:D.ps[k]? =some p)(hv:fs[k]? =some v)
  (q:∀ {H' r'},Hx H H'->H'[r']? =some (.list ((wk D.a D.b 0 D.gs (fs.set k (!v))).map V.int))->H[r']? =none->K .next (upd lo "work" (.ref r')) H'):lS2 X lo H K:=by
 have kl:=(List.getElem?_eq_some_iff.mp e).1
 have pl:=W.pl
 have al:=W.al
 have bl:=W.bl
 refine uV (W.at kl) λp' q' e1 e2 e3 e4 m1 m2=>?_
 rw [e]at e1
 cases e1
 have T:=W.gl.turn (Int.le_refl 0) (Int.le_refl 0) (fs:=fs) (k:=k) (g:=p.2) (by rw[D.len,S.fl]) e3
 have wl:=W.gl.wlen (Int.le_refl 0) (Int.le_refl 0) (fs:=fs) (by rw[D.len,S.fl])
 rw [<-ew]at wl
 cases T with
 | @mk P T i j x y hpl hw c ne i0 j0 xa yb=>
 have hw0:=hw v
 rw [aDf hv,<-ew]at hw0
 have place:(P.length:Int)=s1 p.2+smr fs (D.gs.map mor) k:=by rw[hpl,Int.sub_zero]
 have lA:((Xf D.a D.b false p.2).length:Int)=x-i:=by
  unfold Xf
  rw [cond_false,(c.hd ne).1,(c.last ne).1,eZ i0 c.le.1 xa]
 have lB:((Xf D.a D.b true p.2).length:Int)=y-j:=by
  unfold Xf
  rw [cond_true,(c.hd ne).2,(c.last ne).2,eZ j0 c.le.2 yb]
 have xA:Xf D.a D.b false p.2=sl D.a i x:=by
  unfold Xf
  rw [cond_false,(c.hd ne).1,(c.last ne).1]
 have xB:Xf D.a D.b true p.2=sl D.b j y:=by
  unfold Xf
  rw [cond_true,(c.hd ne).2,(c.last ne).2]
 have bsl:D.bs.length=D.ps.length:=by
  have:=congrArg List.length W.sw
  rw [List.length_map,List.length_map]at this
  exact this
 have fl:(fs.map bv).length<100000:=by rw[List.length_map,S.fl];exact pl
 have wlen:(w.length:Int)=P.length+(Xf D.a D.b v p.2).length+T.length:=by rw[hw0,List.length_append,List.length_append];exact A293
 have p0:0<=s1 p.2+smr fs (D.gs.map mor) k:=by rw[<-place];exact Int.natCast_nonneg _
 refine aDh (aP (aV F.o (aV hk (qT (v:=bv v) S.o (by rw[List.getElem?_map,hv];rfl) fl (Lf.mk (p:=v) rfl ?_)))))
 cases v with
 |true=>
  refine bY (aS (dD (dW (aZ (aV F.w (aZ (aV hp (aZ (aP (aV F.k (aV hk (qT (v:=gv q') (S.hx _ _ W.k) (by rw[List.getElem?_map,e2];rfl) (by rw[fC,bsl];exact pl) (aZ (aV F.b (aZ (aV F.a (d3 (y6 X S.w (S.hx _ _ (W.hb q' m2)) (aF (S.hx _ _ W.b)) (aF (S.hx _ _ W.a)) (A294 al bl wl) (A275 bl) (A275 al) (e4▸c.sw) ?_ j0 i0 yb xa p0 (by rw[<-place,<-lB];exact A295 wlen) λ{H' r'} hx h' nf=>?_))))))))))))))))))
  ·rw[e4];exact ne_map ne
  refine q hx ?_ nf
  rw [hw0,r7 place lB,<-xA]at h'
  rw [hw (!true)]
  exact h'
 |false=>
  refine bL (aS (dD (dW (aZ (aV F.w (aZ (aV hp (aZ (aP (aV F.g (aV hk (qT (v:=gv p) (S.hx _ _ W.g) (by rw[List.getElem?_map,e];rfl) (by rw[fC];exact pl) (aZ (aV F.a (aZ (aV F.b (d3 (y6 X S.w (S.hx _ _ (W.hg p m1)) (aF (S.hx _ _ W.a)) (aF (S.hx _ _ W.b)) (A294 al bl wl) (A275 al) (A275 bl) c ne i0 j0 xa yb p0 (by rw[<-place,<-lA];exact A295 wlen) λ{H' r'} hx h' nf=>?_))))))))))))))))))
  refine q hx ?_ nf
  rw [hw0,r7 place lA,<-xB]at h'
  rw [hw (!false)]
  exact h'
end
end
section
variable {C:Cx}{H B:MH}{K Q:SK}{lo:Lo}
section
variable {D:LD}{rl rw k:Nat}{ks:List Nat}{fs:List Bool}
noncomputable def rNo:SF:=aD (fM (eK (.bool false))) (sK .next)
noncomputable def lS4(X:XX C):SF:=sIf (tE (aB (bB not) (eN "work") (aM (fU X) (esC (eN "first") (esC (eN "second") (esC (eN "changes") (esC (eN "reach") (esC (eN "on") esN)))))))) rNo (sK .next)
theorem LS.ml{w:List Int}(W:WD D B)(S:LS D B rl ks rw fs w H):D.gs.length=fs.length:=by rw[D.len,S.fl]
theorem lS4_i(X:XX C)(W:WD D B)(F:LF D rw lo)(S:LS D B rl ks rw fs (wk D.a D.b 0 D.gs fs) H)(q:∀ {H'},Hx H H'->K .next lo H'):lS4 X lo H K:=by
 have em:=W.gl.mx (Int.le_refl 0) (Int.le_refl 0) (S.ml W)
 have wl:=W.gl.wlen (Int.le_refl 0) (Int.le_refl 0) (S.ml W)
 have al:=W.al
 have bl:=W.bl
 have pl:=W.pl
 have gl:=D.len
 have MWd:MW H D.ra D.rb D.rr D.ro H.length D.a D.b (D.gs.map sI) fs (mx D.a D.b 0 (tgd D.gs fs)):=
  ⟨aF (S.hx _ _ W.a),aF (S.hx _ _ W.b),S.hx _ _ W.r,S.o,aL H,A275 al,A275 bl,by rw[List.length_map];exact A296 pl gl,by rw[S.fl];exact pl,by rw[em];exact A297 wl al bl⟩
 have hc:H[D.rc]? =some (.list (((tgd D.gs fs).map Prod.fst).map Op.v)):=by rw[y8 (S.ml W),W.ch];exact S.hx _ _ W.c
 refine pE (aV F.w (dW (aZ (aV F.a (aZ (aV F.b (aZ (aV F.c (aZ (aV F.r (aZ (aV F.o (d3 (aD0 X (cs:=tgd D.gs fs) MWd hc (W.gl.mok (Int.le_refl 0) (Int.le_refl 0)) (λc hc=>W.gl.at c hc) λ{H' r'} hx h' nf=>no_i ?_ (q hx)))))))))))))))
 rw [em]at h'
 exact eW V.int dI (aF (hx _ _ S.w)) (aF h') (λx _=>aFz x) λx _=>aF0 x
noncomputable def lS5:SF:=sIf (aU (tE (aB (oIn not) (eK (.bool false)) (eN "on"))) (aU (tE (aB (bB not) (eN "work") (eN "second"))) (tK true))) rNo (sK .next)
theorem and_i{f g:EF}{R S:SF}(q:f lo H λv H1=>Lf (tr v H1) λt=>bif t then(g lo H1 λv H2=>Lf (tr v H2) λt=>bif t then R lo H2 K else S lo H2 K) else S lo H1 K):sIf (aU (tE f) (aU (tE g) (tK true))) R S lo H K:=
 kch (B:=f lo H λv H1=>Lf (tr v H1) λt=>bif t then(g lo H1 λv H2=>Lf (tr v H2) λt=>bif t then R lo H2 K else S lo H2 K) else S lo H1 K) ⋯ q
theorem lS5_i(W:WD D B)(F:LF D rw lo)(S:LS D B rl ks rw fs (wk D.a D.b 0 D.gs fs) H)(q:K .next lo H):lS5 lo H K:=by
 refine and_i (noF_i (P:=λt H1=>bif t then(aB (bB not) (eN "work") (eN "second") lo H1 λv H2=>Lf (tr v H2) λt=>bif t then rNo lo H2 K else K .next lo H2) else K .next lo H1) F.o S.o (λall=>bY (aP (aV F.w (aV F.b (no_i ?_ q))))) (bL q))
 have e:=W.gl.on (Int.le_refl 0) (Int.le_refl 0) (S.ml W) all
 have w:=S.w
 rw [e]at w
 exact eW V.int dI (aF w) (aF (S.hx _ _ W.b)) (λx _=>aFz x) λx _=>aF0 x
noncomputable def lS3:SF:=cY (eT (sU (tE (aB aI (eN "on") (eN "k"))))) (qV (eN "on") (eN "k"))
inductive LIv(D:LD)(B:MH)(rl:Nat)(ks:List Nat)(rest:List V)(lo:Lo)(H:MH):Prop
 |mk {r:List Nat}{rw:Nat}{fs:List Bool} (er:rest=r.map nv) (F:LF D rw lo) (S:LS D B rl ks rw fs (wk D.a D.b 0 D.gs fs) H) (bd:∀ k∈r,k<D.ps.length):LIv D B rl ks rest lo H
theorem GL.ne{a b:List Int}{s:Bool}{e f:Int}{gs:List (List Op)}(h:GL a b s e f gs):∀ g∈gs,g≠ []:=by
 induction h with
 |nil=>nofun
 |cons t0 st m c ne h ih=>
  intro g hg
  rcases List.mem_cons.mp hg with rfl |hg
  ·exact ne
  ·exact ih g hg
theorem b3{g:SF}(h:g lo H K):bH g K .next lo H:=h
theorem l_step(X:XX C){v:V}{rest:List V}(W:WD D B)(I:LIv D B rl ks (v :: rest) lo H)(go:GoK (LIv D B rl ks rest) Q K):aN "k" v lo H λlo1 H1=>aD (lS1 (C:=C)) (aD (lS2 X) (aD lS3 (aD (lS4 X) (aD lS5 (sK .next))))) lo1 H1 K:=by
 cases I with
 | @mk r rw fs er F S bd=>
 cases r with
 |nil=>cases er
 |cons k r=>
 cases er
 have kl:=bd k List.mem_cons_self
 refine uV (W.at kl) λp q e1 e2 e3 e4 m1 m2=>?_
 have ne:=W.gl.ne p.2 (List.mem_of_getElem? e3)
 have kf:k<fs.length:=by rw[S.fl];exact kl
 have hv:fs[k]? =some fs[k]:=List.getElem?_eq_getElem kf
 have hk:upd lo "k" (nv k) "k" =some (nv k):=bM
 have F1:=F.up "k" (nv k) (.inl rfl)
 show aD (lS1 (C:=C)) _ (upd lo "k" (nv k)) H K
 generalize upd lo "k" (nv k)=lo1 at hk F1
 refine aS (lS1_i W F1 hk S e1 ne λ{H1} x1=>b3 (aS ?_))
 have F2:=F1.up "place" (.int (s1 p.2+smr fs (D.gs.map mor) k)) (.inr rfl)
 have hk2:upd lo1 "place" (.int (s1 p.2+smr fs (D.gs.map mor) k)) "k" =some (nv k):=(Lo.ne (by decide+kernel)).trans hk
 have hp2:upd lo1 "place" (.int (s1 p.2+smr fs (D.gs.map mor) k)) "place" =some (.int (s1 p.2+smr fs (D.gs.map mor) k)):=bM
 generalize upd lo1 "place" (.int (s1 p.2+smr fs (D.gs.map mor) k))=lo2 at hk2 hp2 F2
 have S1:=S.up x1
 refine lS2_i X W F2 hk2 hp2 S1 rfl e1 hv λ{H2 r'} x2 h2 nf=>b3 (aS ?_)
 have F3:LF D r' (upd lo2 "work" (.ref r')):=F2.upw
 have hk3:upd lo2 "work" (.ref r') "k" =some (nv k):=(Lo.ne (by decide+kernel)).trans hk2
 generalize upd lo2 "work" (.ref r')=lo3 at hk3 F3
 have S2:=S1.up x2
 refine flip_i F3.o hk3 S2.o hv (by rw[S.fl];exact W.pl) (b3 (aS ?_))
 have rn:r'≠D.ro:=λe=>by rw[e,S1.o]at nf;cases nf
 have S3:LS D B rl ks r' (fs.set k (!fs[k])) (wk D.a D.b 0 D.gs (fs.set k (!fs[k]))) (H2.set D.ro (.list ((fs.set k (!fs[k])).map bv))):=
  ⟨S2.hx.set W.no,aJ S2.o _,aG S2.l S2.nl.symm,aG h2 rn.symm,rn,S2.nl,by rw[List.length_set];exact S.fl⟩
 refine lS4_i X W F3 S3 λ{H4} x4=>b3 (aS (lS5_i W F3 (S3.up x4) (b3 (g:=sK .next) (go.nx (.mk rfl F3 (S3.up x4) λk' hk'=>bd k' (List.mem_cons_of_mem _ hk'))))))
theorem aHy{x y z:Int}{vs:List V}(h:rOk x y z=true)(hv:jX x z (mQ x y z)=vs)(hl:vs.length<1000000):uR [.rng x y z] H=some (.ref H.length,H++[.list vs]):=by
 subst hv
 show(if rOk x y z=true then mkL (jX x z (mQ x y z)) H else none)=_
 rw [if_pos h]
 exact if_pos hl
theorem aHz{n:Nat}(hl:n<100000):uR [.rng 0 n 1] H=some (.ref H.length,H++[.list ((List.range n).map nv)]):=by
 have er:mQ 0 (n:Int) 1=n:=by
  show((n:Int)-0).toNat=_
  rw [Int.sub_zero,Int.toNat_natCast]
 exact aHy (xL n (A258 hl)) (by rw[er,pH]) (by rw[List.length_map,List.length_range];exact A258 hl)
structure Bx1(P:Prop):Prop where
 un:P
theorem aHx{K:ItK C}{σ:Nat->K.σ}{n:Nat}{Q:EK}(hl:n<100000)(q:Q (.ref H.length) (H++[.list ((List.range n).map nv)])):Bx1 (d9 K σ [.rng 0 n 1] H Q):=by
 have e:isG H [.rng 0 n 1]=none:=rfl
 apply Bx1.mk
 unfold d9
 rw [e]
 unfold aF9 lf Lp
 rw [aHz hl]
 exact q
theorem aF8{g:CF}{x:Str}{r:Nat}{vs:List V}{Q:EK}(hx:lo x=some (.ref r))(h:lst H (.ref r)=some vs)(hl:vs.length<100000)(q:Bx1 (g [.rng 0 vs.length 1] H Q)):aM g (esC (eRL x) esN) lo H Q:=
 dW (aZ (dW (aZ (mS hx h hl (d3 (xM (d3 q.un)))))))
theorem law_18(X:XX C){ro rf:Nat}{os fs':List Nat}(W:WD D B)(F:LF D rw lo)(h1:lo "order" =some (.ref ro))(h2:lo "off" =some (.ref rf))(hx:Hx B H)(ho:H[D.ro]? =some (.list ((D.ps.map λ_=>false).map bv)))(hw:H[rw]? =some (.list (D.a.map V.int)))(nw:rw≠D.ro)
  (hos:H[ro]? =some (.list (os.map nv))) (hfs:H[rf]? =some (.list (fs'.map nv))) (bo:∀ o∈os,o<D.ps.length) (lo':os.length<=24) (bf:∀ o∈fs',o<D.ps.length) (lf':fs'.length<=D.ps.length)
  (k:∀ {lo' H' rw},LF D rw lo'->Hx B H'->K .next lo' H'):qH X lo H K:=by
 have pl:=W.pl
 have pm:(pk fs' none none (some (-1))).length<=fs'.length:=aDq ..
 refine sFor_i (aP (aP (aV h1 (mZ (aV h2 (cT (cT (xZ (Lf.mk (p:=none) rfl (Lf.mk (p:=none) rfl (Lf.mk (p:=some (-1)) rfl (iT (aF hfs) (by rw[List.length_map];exact A298 lf' pl) (by decide) ?_))))))))))))
 rw [tM]
 refine kF (Hx.app _ _ _ _ hos) (aY _ _) (by rw[List.length_map,List.length_map];exact A299 lo' lf' pl pm) ?_
 have x1:=(Hx.app H [.list ((pk fs' none none (some (-1))).map nv)]).trans (.app _ [.list (os.map nv++(pk fs' none none (some (-1))).map nv)])
 have g1:=aY (H++[.list ((pk fs' none none (some (-1))).map nv)]) (.list (os.map nv++(pk fs' none none (some (-1))).map nv))
 revert x1 g1
 generalize (H++[MO.list ((pk fs' none none (some (-1))).map nv)]).length=r1
 generalize H++[MO.list ((pk fs' none none (some (-1))).map nv)]++[MO.list (os.map nv++(pk fs' none none (some (-1))).map nv)]=H1
 intro x1 g1
 refine aF8 F.g (aF (x1 _ _ (hx _ _ W.g))) (by rw[fC];exact pl) ?_
 rw [fC]
 refine aHx pl ?_
 refine kF (Hx.app _ _ _ _ g1) (aY _ _) (by rw[List.length_append,List.length_map,List.length_map,List.length_map,List.length_range];exact A300 lo' lf' pl pm) ?_
 have x2:=(x1.trans (Hx.app H1 [.list ((List.range D.ps.length).map nv)])).trans (.app _ [.list ((os.map nv++(pk fs' none none (some (-1))).map nv)++(List.range D.ps.length).map nv)])
 have g2:=aY (H1++[.list ((List.range D.ps.length).map nv)]) (.list ((os.map nv++(pk fs' none none (some (-1))).map nv)++(List.range D.ps.length).map nv))
 have n2:(H1++[MO.list ((List.range D.ps.length).map nv)]).length≠D.ro:=aR (Hx.app _ _ _ _ (x1 _ _ ho))
 revert x2 g2 n2
 generalize (H1++[MO.list ((List.range D.ps.length).map nv)]).length=rl
 generalize H1++[MO.list ((List.range D.ps.length).map nv)]++[MO.list ((os.map nv++(pk fs' none none (some (-1))).map nv)++(List.range D.ps.length).map nv)]=H2
 intro x2 g2 n2
 rw [<-List.map_append,<-List.map_append]at g2
 have bd:∀ k∈(os++pk fs' none none (some (-1)))++List.range D.ps.length,k<D.ps.length:=λk hk=>by
  refine Or.elim (List.mem_append.mp hk) (λhk=>?_) λhk=>?_
  ·refine Or.elim (List.mem_append.mp hk) (λhk=>?_) λhk=>?_
   ·exact bo k hk
   ·exact bf k (pk_mem hk)
  ·exact List.mem_range.mp hk
 revert g2 bd
 generalize (os++pk fs' none none (some (-1)))++List.range D.ps.length=ks
 intro g2 bd
 refine Lf.mk (p:=rl) rfl ⟨⟨_,aF g2⟩,_,eG (LIv D B rl ks) (vs:=ks.map nv) (λI=>?_) (λI=>?_) (λI go=>l_step X W I go) (ks.map nv) 0 rfl (.mk (fs:=D.ps.map λ_=>false) rfl F ⟨hx.trans x2,x2 _ _ ho,g2,?_,nw,n2,List.length_map ..⟩ bd)⟩
 ·cases I with |mk er F S bd=>exact aF S.l
 ·cases I with |mk er F S bd=>exact k F S.hx
 ·rw[W.gl.off (by rw[D.len,List.length_map]) λv hv=>by
   refine xEA (List.mem_map.mp hv) λ_ _ e=>?_
   exact e.symm]
  exact x2 _ _ hw
end
end
section
variable {C:Cx}{H:MH}{lo:Lo}
noncomputable def Fs(l:List (Str×V))(lo:Lo):Prop:=∀ x v,l.lookup x=some v->lo x=some v
theorem Fs.cons{l:List (Str×V)}(h:Fs l lo)(x:Str)(v:V):Fs ((x,v) :: l) (upd lo x v):=λy w e=>by
 rw [List.lookup]at e
 by_cases q:y=x
 ·subst q
  rw [beq_self_eq_true]at e
  exact bM.trans e
 ·rw[show (y==x)=false by simpa using q]at e
  exact(Lo.ne q).trans (h y w e)
theorem xO(n z:Int):∀ (ps:List (Int×Int)) (lo hi:Int),(rc n z lo hi ps).length<=ps.length+1
 | [],lo,hi=>Nat.le_refl _
 |p :: ps,lo,hi=>by
  rw [rc_c]
  cases decide (max 0 (p.1-n)<=hi) with
  |true=>exact Nat.le_succ_of_le (xO n z ps _ _)
  |false=>exact Nat.succ_le_succ (xO n z ps _ _)
theorem aBj(n z:Int)(ps:List (Int×Int)):(reach n z ps).length<=ps.length:=by
 cases ps with
 |nil=>exact Nat.le_refl _
 |cons p ps=>exact xO n z ps _ _
theorem vS{g:List Op}:∀ {gs:List (List Op)},g∈gs->g.length<=gs.flatten.length
 |h :: gs,hg=>by
  rw [List.flatten_cons,List.length_append]
  rcases List.mem_cons.mp hg with rfl |hg
  ·exact Nat.le_add_right _ _
  ·exact Nat.le_trans (vS hg) (Nat.le_add_left _ _)
structure GA(n:Int)(a b:List Int)(l:List Op)(gs:List (List Op)):Prop where
 flat:chg gs.flatten=chg l
 rI:gs.map sI=reach n a.length ((chg l).map pI)
 rJ:gs.map sJ=reach n b.length ((chg l).map pJ)
 cnt:gs.flatten.length+(bare l).length=2*(chg l).length+gs.length
 gl:GL a b false 0 0 gs
 ll:l.length<=200
 len:gs.length<=200
 fl:gs.flatten.length<=600
 no:gs= []->a=b
theorem GA.of{n:Int}{a b:List Int}{l:List Op}(n0:0<=n)(O:Ops a b l)(al:a.length<64):GA n a b l (groups n l):=by
 have G:=Gp.of n0 O.cod
 have ll:=O.len al
 have cl:=oH l
 have e:=G.rI n0
 have len:(groups n l).length<=200:=by
  have:=congrArg List.length e
  rw [List.length_map]at this
  have r:=aBj n a.length ((chg l).map pI)
  rw [List.length_map]at r
  exact A301 ll cl this r
 have gl:=G.gl n0
 refine⟨G.flat,e,G.rJ n0,G.cnt,gl,ll,len,?_,λh=>?_⟩
 ·have:=G.cnt
  exact A302 ll cl len this
 ·rw[h]at gl
  have h1:=gl.on (Int.le_refl 0) (Int.le_refl 0) (fs:=[]) rfl nofun
  have h2:=gl.off (fs:=[]) rfl nofun
  exact(h2.symm.trans h1:a.drop 0=b.drop 0)
theorem aGc(l:List Op):(bare l).length<=l.length+l.length:=by
 unfold bare
 refine Nat.le_trans (oH _) ?_
 rw [List.length_append,List.length_drop]
 exact Nat.add_le_add (List.length_take_le' ..) (Nat.sub_le _ _)
theorem law_ok(X:XX C){rs:Nat}{sc:List Int}{Q:EK}(hl:sc.length<1000)(h:LI H rs sc)(k:∀ {H'},Q (.bool true) H'):c_law X [.ref rs] H Q:=by
 refine⟨rfl,?_⟩
 have F:Fs [("script",.ref rs)] (loB ["script"] [.ref rs] lo0):=Fs.cons (l:=[]) nofun "script" (.ref rs)
 show aAc X (loB ["script"] [.ref rs] lo0) H (kD Q)
 revert F
 generalize loB ["script"] [.ref rs] lo0=lo
 intro F
 unfold aAc
 refine aS (law_0 X (F _ _ ⋯) h hl λ{H1 rn ns} x1 hn nl=>b3 (aS ?_))
 have F:=F.cons "numbers" (.ref rn)
 generalize upd lo "numbers" (.ref rn)=lo at F
 refine law_1 X (F _ _ ⋯) (x1.li h) (b3 (aS ?_))
 have F:=F.cons "n" (.int ((1+sc.sum)%4))
 generalize upd lo "n" (.int ((1+sc.sum)%4))=lo at F
 have n0:0<=(1+sc.sum)%4:=Int.emod_nonneg _ (by decide)
 generalize (1+sc.sum)%4=n at F n0
 refine law_2 X (F _ _ ⋯) hn (Nat.le_of_eq nl) λ{H2 ra a} x2 ha al _=>b3 (aS ?_)
 have F:=F.cons "first" (.ref ra)
 generalize upd lo "first" (.ref ra)=lo at F
 refine law_3 X (F _ _ ⋯) (x2 _ _ hn) (Nat.le_of_eq nl) λ{H3 rb b} x3 hb bl _=>b3 (aS ?_)
 have F:=F.cons "second" (.ref rb)
 generalize upd lo "second" (.ref rb)=lo at F
 have hn:=(x2.trans x3) _ _ hn
 have ha:=x3 _ _ ha
 have al:a.length<64:=Nat.lt_of_le_of_lt al (by decide)
 have bl:b.length<64:=Nat.lt_of_le_of_lt bl (by decide)
 clear x1 x2 x3 h
 refine law_4 X (F _ _ ⋯) (F _ _ ⋯) (aF ha) (aF hb) al bl λ{H4 rd l} x4 hd _ O=>b3 (aS ?_)
 have F:=F.cons "codes" (.ref rd)
 generalize upd lo "codes" (.ref rd)=lo at F
 have A:=GA.of n0 O al
 have ll:=A.ll
 refine law_5 X (F _ _ ⋯) hd (A303 ll) λ{H5 rc} x5 hc=>b3 (aS ?_)
 have F:=F.cons "changes" (.ref rc)
 generalize upd lo "changes" (.ref rc)=lo at F
 have x:=x4.trans x5
 have hn:=x _ _ hn
 have ha:=x _ _ ha
 have hb:=x _ _ hb
 have hd:=x5 _ _ hd
 clear x x4 x5
 refine law_6 X (n:=n) (F _ _ ⋯) (F _ _ ⋯) (F _ _ ⋯) (aF ha) (aF hb) al bl λ{H6 rg rs l' it gi} x6 hg _ GG O'=>b3 (aS ?_)
 have el:=O'.uniq O
 subst el
 refine dC GG.hg λps hps e1 e2=>?_
 rw [e1]at hg
 rw [e2]at A
 clear GG e1 e2 O O'
 have F:=F.cons "groups" (.ref rg)
 generalize upd lo "groups" (.ref rg)=lo at F
 have hn:=x6 _ _ hn
 have ha:=x6 _ _ ha
 have hb:=x6 _ _ hb
 have hd:=x6 _ _ hd
 have hc:=x6 _ _ hc
 clear x6
 have pl:ps.length<=200:=by have:=A.len;rw[List.length_map]at this;exact this
 have cl:=oH l'
 refine law_7 X (F _ _ ⋯) (F _ _ ⋯) hg hps hc A.flat (A303 ll) λ{H7} x7=>b3 (aS ?_)
 have pn:∀ p∈ps,p.2≠ []:=λp hp=>A.gl.ne p.2 (List.mem_map.mpr ⟨p,hp,rfl⟩)
 have pf:∀ p∈ps,p.2.length<100000:=λp hp=>Nat.lt_of_le_of_lt (Nat.le_trans (vS (List.mem_map.mpr ⟨p,hp,rfl⟩)) A.fl) (by decide)
 refine law_8 X (n:=n) (F _ _ ⋯) (F _ _ ⋯) (F _ _ ⋯) (x7 _ _ hc) (A304 ll cl) (aF (x7 _ _ ha)) al λ{H8 rr} x8 hr=>b3 (aS ?_)
 have F:=F.cons "reach" (.ref rr)
 generalize upd lo "reach" (.ref rr)=lo at F
 have x:=x7.trans x8
 clear x7 x8
 rw [<-A.rI]at hr
 refine law_9 X (F _ _ ⋯) (F _ _ ⋯) (x _ _ hg) (hps.hx x) pn (A303 pl) hr rfl λ{H9} x9=>b3 (aS ?_)
 have hr:=x9 _ _ hr
 have x:=x.trans x9
 clear x9
 refine law_10 X (n:=n) (F _ _ ⋯) (F _ _ ⋯) (F _ _ ⋯) (F _ _ ⋯) (x _ _ hg) (hps.hx x) pn (A303 pl) (x _ _ hc) (A304 ll cl) (aF (x _ _ hb)) bl A.rJ λ{H10} x10=>b3 (aS ?_)
 have hr:=x10 _ _ hr
 have x:=x.trans x10
 clear x10
 refine law_11 X (F _ _ ⋯) (x _ _ hd) (A303 ll) λ{H11 ru} x11 hu=>b3 (aS ?_)
 have F:=F.cons "bare" (.ref ru)
 generalize upd lo "bare" (.ref ru)=lo at F
 have hr:=x11 _ _ hr
 have x:=x.trans x11
 clear x11
 have ub:=aGc l'
 refine law_12 X (F _ _ ⋯) (F _ _ ⋯) (F _ _ ⋯) (F _ _ ⋯) (x _ _ hg) (hps.hx x) (x _ _ hc) hr hu (A305 ll cl) (by rw[List.length_map,List.length_map];exact A306 pl) (A307 ll ub) (by rw[List.length_map,List.length_map];have:=A.cnt;rw[List.length_map]at this;exact this) λ{H12} x12=>b3 (aS ?_)
 have hr:=x12 _ _ hr
 have x:=x.trans x12
 clear x12 hu
 refine law_13 X (F _ _ ⋯) (x _ _ hg) (hps.hx x) pf (A303 pl) λ{H13 rk bs} x13 hk hbs ebs=>b3 (aS ?_)
 have F:=F.cons "back" (.ref rk)
 generalize upd lo "back" (.ref rk)=lo at F
 have hr:=x13 _ _ hr
 have x:=x.trans x13
 clear x13
 refine law_14 X (F _ _ ⋯) (x _ _ hg) (hps.hx x) pn (A303 pl) λ{H14 rm} x14 hm=>b3 (aS ?_)
 have F:=F.cons "more" (.ref rm)
 generalize upd lo "more" (.ref rm)=lo at F
 refine law_15 X (F _ _ ⋯) (F _ _ ⋯) ((x.trans x14) _ _ hn) (Nat.le_of_eq nl) ((x.trans x14) _ _ hg) (hps.hx (x.trans x14)) (A303 pl) λ{H15 ro os} x15 hos bo lo'=>b3 (aS ?_)
 have F:=F.cons "order" (.ref ro)
 generalize upd lo "order" (.ref ro)=lo at F
 have y:=x14.trans x15
 refine law_16 X (F _ _ ⋯) (F _ _ ⋯) ((x.trans y) _ _ hg) (A303 pl) hos λ{H16 rf fs} x16 hfs bf lf=>b3 (aS ?_)
 have F:=F.cons "off" (.ref rf)
 generalize upd lo "off" (.ref rf)=lo at F
 have y:=y.trans x16
 have z:=x.trans y
 have hm:=(x15.trans x16) _ _ hm
 have hos:=x16 _ _ hos
 clear x14 x15 x16
 refine law_17 X (F _ _ ⋯) (F _ _ ⋯) (z _ _ hg) (z _ _ ha) al (A303 pl) λ{H17 rw_ on} x17 hw ho no nw=>b3 (aS ?_)
 have F:=(F.cons "work" (.ref rw_)).cons "on" (.ref on)
 generalize upd (upd lo "work" (.ref rw_)) "on" (.ref on)=lo at F
 have W:WD ⟨rg,rk,rm,ra,rb,rc,rr,on,ps,bs,a,b,l'⟩ H16:=
  ⟨z _ _ hg,hps.hx z,y _ _ hk,hbs.hx y,hm,z _ _ ha,z _ _ hb,z _ _ hc,y _ _ hr,no,A.gl,ebs,A.flat,al,bl,Nat.lt_of_le_of_lt pl (by decide)⟩
 have L:LF ⟨rg,rk,rm,ra,rb,rc,rr,on,ps,bs,a,b,l'⟩ rw_ lo:=
  ⟨F _ _ ⋯,F _ _ ⋯,F _ _ ⋯,F _ _ ⋯,F _ _ ⋯,F _ _ ⋯,F _ _ ⋯,F _ _ ⋯,F _ _ ⋯⟩
 refine law_18 X W L (F _ _ ⋯) (F _ _ ⋯) x17 ho hw nw (x17 _ _ hos) (x17 _ _ hfs) bo lo' bf lf λ{lo2 H18 rw2} L2 x18=>b3 (aS ?_)
 exact law_19 X L2.g L2.a L2.b (x18 _ _ W.g) (W.hg.hx x18) (aF (x18 _ _ W.a)) (aF (x18 _ _ W.b)) (λe=>A.no (List.map_eq_nil_iff.mpr e)) k
end
section
theorem aBe(w:World):((KL w.params).lookup cStatics).isSome=true:=by rfl'
theorem aEf(w:World){s:Shared}(hk:∀ b o,(H1 w).get? b=some o->s.heap.get? b=some o):s.heap.NoLimit:=
 ⟨_,zL (hk _ _ (y0 w _ _ (Option.eq_some_of_isSome (aBe w)))) ⋯,by rfl'⟩
theorem uX{ρ:List Lc}{h:Heap}:∀ (ns:List Int) (ts:List Tok),ts.length=ns.length->VRs ρ h ((ns.zip ts).map λx=>Value.int x.1 x.2) (ns.map V.int)
 | [],ts,_=>by cases ts<;>exact VRs.nil
 |n :: ns,[],h=>nomatch h
 |n :: ns,t :: ts,h=>VRs.cons (VR.int _ _) (uX ns ts (Nat.succ.inj h))
theorem walk(w:World)(s₁:Shared)(a:Addr)(ns:List Int)(ts:List Tok)(hk:∀ b o,(H1 w).get? b=some o->s₁.heap.get? b=some o)(hg:s₁.gens= #[])(ht:ts.length=ns.length)(hn:ns.length<=63)
  (hl:s₁.heap.IsList a ((ns.zip ts).map λx=>Value.int x.1 x.2).toArray) (h0:(H1 w).get? a=none):
  wpAny (model pw w) callerA (call (.ref 270) [.ref a]) (λv s'=>v= .bool true/\(∀ b o,s₁.heap.get? b=some o->s'.heap.get? b=some o)/\s'.os=s₁.os/\AllBare s'.gens) (λ_ _=>False) s₁:=by
 have X:XX (mkCx pw w s₁ (aEf w hk) (gsh w.params)):=⟨w,hk,λ_ _ _ _=>rfl⟩
 have S:Sim (mkCx pw w s₁ (aEf w hk) (gsh w.params)) [.ro (ns.map V.int)] [⟨a,a,none⟩] s₁:=by
  refine⟨rfl,λ_ _ e=>e,λi m l hm hl'=>?_,λi l hl'=>?_,λi j li lj hi hj ne=>?_,λi j li lj k hi hj ne=>?_,rfl,.of_eq hg⟩
  ·cases i with
   |zero=>cases hm;cases hl';exact⟨rfl,rfl,_,hl,uX ns ts ht⟩
   |succ i=>cases hm
  ·cases i with
   |zero=>exact .inl ⟨_,rfl⟩
   |succ i=>cases hl'
  ·cases i with
   |zero=>cases j with
    |zero=>exact absurd rfl ne
    |succ j=>cases hj
   |succ i=>cases hi
  ·cases i with
   |zero=>cases j with
    |zero=>exact absurd rfl ne
    |succ j=>cases hj
   |succ i=>cases hi
 refine wmN ((cv_law X).call (A:=callerA) (vs:=[.ref 0]) (Q:=λv _=>v= .bool true) ⟨rfl,by decide+kernel,by decide+kernel⟩ S (.cons (VR.ref (l:=⟨a,a,none⟩) rfl) .nil) (law_ok X (sc:=ns) (A308 hn) rfl λ{_}=>rfl)) λx s' p=>?_
 cases p with
 |mk S' N r q=>
  subst q
  cases r
  exact⟨rfl,S'.keep,S'.os,S'.bare⟩
theorem holds05:PySem.Challenge.rw_dm0053_05.Holds:=head walk
end
end Mine
theorem PySem.Challenge.cw_dm0053_05_holds : PySem.Challenge.rw_dm0053_05.Holds :=
 Mine.holds05
