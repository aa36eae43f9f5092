import PyProof.Rows.All
import KE.KDictLaws
import KE.KFromBytes
import Wide.FinOn
import OpenK.AllK
import Wide.All
import Lean
import PySem.Challenge.RW_dm0053_04
set_option Elab.async false
set_option genInjectivity false
set_option genSizeOf false
set_option maxRecDepth 100000
set_option linter.all false
open PySem PySem.W PyProof.Rows PySem.Calls
namespace Mine
local macro_rules
| `(tactic| rfl') => `(tactic| kernel_rfl)
local macro_rules
| `(⋯) => `(by kernel_rfl)
local macro_rules
| `(def $n:declId $s:optDeclSig $v:declVal) => `(noncomputable def $n:declId $s:optDeclSig $v:declVal)
section
namespace Z
inductive T |v (i:Nat) |k (n:Nat) |o (c:Nat) (x y:T)
noncomputable abbrev Ln:=Int×List Int×List Int
noncomputable abbrev Al:=List (List Ln×Ln)
def dot(a:List Int):List Int->Int:=a.rec (λ_=>0) λc _ r x=>match x with | []=>0 |x :: xs=>c*x+r xs
def ladd(a:List Int):List Int->List Int:=a.rec (λb=>b) λc cs r b=>match b with | []=>c :: cs |x :: xs=>(c+x) :: r xs
theorem i4(a b c d:Int):a+b+(c+d)=a+c+(b+d):=by omega
theorem xN(a:List Int):∀ b x,dot (ladd a b) x=dot a x+dot b x:=by
 induction a with
 |nil=>exact λb x=>(Int.zero_add _).symm
 |cons a as ih=>
  intro b x
  cases b with
  |nil=>exact(Int.add_zero _).symm
  |cons b bs=>
   cases x with
   |nil=>rfl
   |cons x xs=>
    show(a+b)*x+dot (ladd as bs) xs=(a*x+dot as xs)+(b*x+dot bs xs)
    rw [ih,Int.add_mul,i4]
theorem xM(k:Int)(a:List Int):∀ x,dot (a.map (k* ·)) x=k*dot a x:=by
 induction a with
 |nil=>exact λx=>(Int.mul_zero _).symm
 |cons a as ih=>
  intro x
  cases x with
  |nil=>exact(Int.mul_zero _).symm
  |cons x xs=>
   show k*a*x+dot (as.map (k* ·)) xs=k*(a*x+dot as xs)
   rw [ih,Int.mul_add,Int.mul_assoc]
def un(i:Nat):List Int:=i.rec [1] λ_ r=>0 :: r
theorem aDk(i:Nat):∀ x:List Int,dot (un i) x=x.getD i 0:=by
 induction i with
 |zero=>intro x;cases x with
  |nil=>rfl
  |cons x xs=>exact(Int.add_zero _).trans (Int.one_mul _)
 |succ i ih=>intro x;cases x with
  |nil=>rfl
  |cons x xs=>exact(congrArg (·+_) (Int.zero_mul x)).trans ((Int.zero_add _).trans (ih xs))
def la(a b:Ln):Ln:=(a.1+b.1,ladd a.2.1 b.2.1,ladd a.2.2 b.2.2)
def lm(k:Int)(a:Ln):Ln:=(k*a.1,a.2.1.map (k* ·),a.2.2.map (k* ·))
def ls(a b:Ln):Ln:=la a (lm (-1) b)
def lk(k:Int):Ln:=(k,[],[])
section
variable (xs:List Int)(ns:List Nat)
def ev(l:Ln):Int:=l.1+(dot l.2.1 xs+dot l.2.2 (ns.map Nat.cast))
theorem aC9(a b:Ln):ev xs ns (la a b)=ev xs ns a+ev xs ns b:=by
 show a.1+b.1+(dot (ladd _ _) _+dot (ladd _ _) _)=a.1+(_+_)+(b.1+(_+_))
 rw [xN,xN,i4 (dot a.2.1 xs)];exact i4 ..
theorem aC8(k:Int)(a:Ln):ev xs ns (lm k a)=k*ev xs ns a:=by
 show k*a.1+(dot (List.map _ _) _+dot (List.map _ _) _)=k*(a.1+(_+_))
 rw [xM,xM,Int.mul_add,Int.mul_add]
theorem qJ(a b:Ln):ev xs ns (ls a b)=ev xs ns a-ev xs ns b:=by rw[ls,aC9,aC8,Int.neg_mul,Int.one_mul,Int.sub_eq_add_neg]
theorem n7(k:Int):ev xs ns (lk k)=k:=Int.add_zero k
def Sg(g:List Ln):Prop:=∀ q∈g,0<=ev xs ns q
def Sa(a:Al)(z:Int):Prop:=∃ p∈a,Sg xs ns p.1/\ev xs ns p.2=z
def Sd(d:List (List Ln)):Prop:=∃ g∈d,Sg xs ns g
def pr{β:Type}(f:List Ln->Ln->Ln->List β)(a b:Al):List β:=a.flatMap λp=>b.flatMap λq=>f (p.1++q.1) p.2 q.2
variable {xs ns}
theorem Sg.app{a b:List Ln}(h:Sg xs ns a)(g:Sg xs ns b):Sg xs ns (a++b):=λq m=>(List.mem_append.mp m).elim (h q) (g q)
theorem Sg.sn{a:List Ln}{l:Ln}(h:Sg xs ns a)(g:0<=ev xs ns l):Sg xs ns (a++[l]):=h.app λ_ m=>List.mem_singleton.mp m▸g
theorem Sg.nil:Sg xs ns []:=λ_ h=>absurd h List.not_mem_nil
theorem q8{β:Type}{f:List Ln->Ln->Ln->List β}{a b:Al}{x y:Int}{P:β->Prop}(h:Sa xs ns a x)(g:Sa xs ns b y)(k:∀ u v w,Sg xs ns u->ev xs ns v=x->ev xs ns w=y->∃ z∈f u v w,P z):∃ z∈pr f a b,P z:=
 h.elim λp h=>g.elim λq g=>(k _ _ _ (h.2.1.app g.2.1) h.2.2 g.2.2).elim λz m=>⟨z,List.mem_flatMap.mpr ⟨p,h.1,List.mem_flatMap.mpr ⟨q,g.1,m.1⟩⟩,m.2⟩
theorem Sa.one{l:Ln}{z:Int}(h:ev xs ns l=z):Sa xs ns [([],l)] z:=⟨_,List.mem_singleton_self _,.nil,h⟩
end
def op(c:Nat)(x y:Nat×Int):Nat×Int:=List.getD [(x.1+y.1,x.2+y.2),(x.1-y.1,x.2-y.2),(max x.1 y.1,max x.2 y.2),(min x.1 y.1,min x.2 y.2),(x.2.toNat,(x.1:Int)),(0,-x.2)] c ((c-32)*x.1,((c-32:Nat):Int)*x.2)
def aN(f:Ln->Ln->Ln):Al->Al->Al:=pr λg p q=>[(g,f p q)]
def aC(f:Ln->Ln->Ln×Ln):Al->Al->Al:=pr λg p q=>[(g++[ls p q],(f p q).1),(g++[ls q p],(f p q).2)]
def one:Al:=[([],lk 0)]
def al(c:Nat)(x y:Al×Al):Al×Al:=List.getD [(aN la x.1 y.1,aN la x.2 y.2),(aC (λp q=>(ls p q,lk 0)) x.1 y.1,aN ls x.2 y.2),(aC (λp q=>(p,q)) x.1 y.1,aC (λp q=>(p,q)) x.2 y.2),
 (aC (λp q=>(q,p)) x.1 y.1,aC (λp q=>(q,p)) x.2 y.2),(aC (λp q=>(p,lk 0)) x.2 one,x.1),(one,aN (λp _=>lm (-1) p) x.2 one)] c (aN (λp _=>lm (c-32:Nat) p) x.1 one,aN (λp _=>lm (c-32:Nat) p) x.2 one)
section
variable {xs:List Int}{ns:List Nat}{a b:Al}{x y z:Int}
def S2(xs:List Int)(ns:List Nat)(a:Al×Al)(x:Nat×Int):Prop:=Sa xs ns a.1 x.1/\Sa xs ns a.2 x.2
theorem Sa.zero:Sa xs ns Z.one 0:=.one (n7 xs ns 0)
theorem Sa.aN{f:Ln->Ln->Ln}(k:∀ p q,ev xs ns p=x->ev xs ns q=y->ev xs ns (f p q)=z)(h:Sa xs ns a x)(g:Sa xs ns b y):Sa xs ns (aN f a b) z:=q8 h g λu v w s e e'=>⟨_,List.mem_singleton_self _,s,k v w e e'⟩
theorem Sa.aC{f:Ln->Ln->Ln×Ln}(k:∀ p q,ev xs ns p=x->ev xs ns q=y->(y<=x->ev xs ns (f p q).1=z)/\(x<=y->ev xs ns (f p q).2=z))(h:Sa xs ns a x)(g:Sa xs ns b y):Sa xs ns (aC f a b) z:=
 q8 h g λu v w s e e'=>(Int.le_total y x).elim
  (λl=>⟨_,.head _,s.sn (qJ xs ns v w▸Int.sub_nonneg_of_le (e▸e'▸l)),(k v w e e').1 l⟩) λl=>⟨_,.tail _ (.head _),s.sn (qJ xs ns w v▸Int.sub_nonneg_of_le (e▸e'▸l)),(k v w e e').2 l⟩
theorem al_ok(c:Nat){a b:Al×Al}{x y:Nat×Int}(h:S2 xs ns a x)(g:S2 xs ns b y):S2 xs ns (al c a b) (op c x y):=by
 have A:∀ {x y:Int} (p q:Ln),ev xs ns p=x->ev xs ns q=y->ev xs ns (la p q)=x+y:=λp q e e'=>by rw[aC9,e,e']
 have S:∀ {x y:Int} (p q:Ln),ev xs ns p=x->ev xs ns q=y->ev xs ns (ls p q)=x-y:=λp q e e'=>by rw[qJ,e,e']
 have M:∀ (k:Int){x y:Int} (p q:Ln),ev xs ns p=x->ev xs ns q=y->ev xs ns (lm k p)=k*x:=λk _ _ p q e e'=>by rw[aC8,e]
 cases c with
 |zero=>exact⟨h.1.aN (z:=((x.1+y.1:Nat):Int)) A g.1,h.2.aN A g.2⟩
 |succ c=>cases c with
  |zero=>exact⟨Sa.aC (z:=((x.1-y.1:Nat):Int)) (f:=λp q=>(ls p q,lk 0)) (λp q e e'=>⟨λl=>(S p q e e').trans (Int.ofNat_sub (Int.ofNat_le.mp l)).symm,λl=>(n7 _ _ _).trans (congrArg Nat.cast (Nat.sub_eq_zero_of_le (Int.ofNat_le.mp l)).symm)⟩) h.1 g.1,h.2.aN S g.2⟩
  |succ c=>cases c with
   |zero=>exact⟨h.1.aC (z:=((max x.1 y.1:Nat):Int)) (f:=λp q=>(p,q)) (λp q e e'=>⟨λl=>e.trans (congrArg Nat.cast (Nat.max_eq_left (Int.ofNat_le.mp l)).symm),λl=>e'.trans (congrArg Nat.cast (Nat.max_eq_right (Int.ofNat_le.mp l)).symm)⟩) g.1,
     h.2.aC (z:=max x.2 y.2) (f:=λp q=>(p,q)) (λp q e e'=>⟨λl=>e.trans (Int.max_eq_left l).symm,λl=>e'.trans (Int.max_eq_right l).symm⟩) g.2⟩
   |succ c=>cases c with
    |zero=>exact⟨h.1.aC (z:=((min x.1 y.1:Nat):Int)) (f:=λp q=>(q,p)) (λp q e e'=>⟨λl=>e'.trans (congrArg Nat.cast (Nat.min_eq_right (Int.ofNat_le.mp l)).symm),λl=>e.trans (congrArg Nat.cast (Nat.min_eq_left (Int.ofNat_le.mp l)).symm)⟩) g.1,
      h.2.aC (z:=min x.2 y.2) (f:=λp q=>(q,p)) (λp q e e'=>⟨λl=>e'.trans (Int.min_eq_right l).symm,λl=>e.trans (Int.min_eq_left l).symm⟩) g.2⟩
    |succ c=>cases c with
     |zero=>exact⟨h.2.aC (z:=(x.2.toNat:Int)) (f:=λp q=>(p,lk 0)) (λp q e e'=>⟨λl=>e.trans (Int.toNat_of_nonneg l).symm,λl=>(n7 _ _ _).trans (congrArg Nat.cast (Int.toNat_of_nonpos l).symm)⟩) .zero,h.1⟩
     |succ c=>cases c with
      |zero=>exact⟨.zero,h.2.aN (λp q e e'=>(M (-1) p q e e').trans (by rw[Int.neg_mul,Int.one_mul];rfl)) .zero⟩
      |succ c=>exact⟨h.1.aN (M _) .zero,h.2.aN (M _) .zero⟩
end
def den(xs:List Int)(ns:List Nat)(t:T):Nat×Int:=t.rec (λi=>(ns.getD i 0,xs.getD i 0)) (λn=>(n,(n:Int))) λc _ _ x y=>op c x y
def alt(t:T):Al×Al:=t.rec (λi=>([([],0,[],un i)],[([],0,un i,[])])) (λn=>([([],lk n)],[([],lk n)])) λc _ _ x y=>al c x y
theorem aD4(xs:List Int)(ns:List Nat)(t:T):S2 xs ns (alt t) (den xs ns t):=by
 induction t with
 |v i=>
  refine⟨.one ?_,.one ?_⟩
  ·refine(Int.zero_add _).trans ((Int.zero_add _).trans ((aDk i _).trans ?_))
   show List.getD (List.map Nat.cast ns) i (Nat.cast 0)=_
   rw [List.getD_eq_getElem?_getD,List.getElem?_map];show _=((List.getD ns i 0:Nat):Int);rw[List.getD_eq_getElem?_getD];cases ns[i]? <;>rfl
  ·exact(Int.zero_add _).trans ((congrArg (_+ ·) rfl).trans ((Int.add_zero _).trans (aDk i xs)))
 |k n=>exact⟨.one (n7 ..),.one (n7 ..)⟩
 |o c x y h g=>exact al_ok c h g
def rL(a b:Al)(l:Ln->Ln->List (List Ln)):List (List Ln):=pr (λg p q=>(l p q).map (g++ ·)) a b
def dP(xs:List Int)(ns:List Nat)(t:T):Prop:=t.rec (λ_=>False) (λ_=>False) λc x y p q=>
 List.getD [(den xs ns x).1<=(den xs ns y).1,(den xs ns x).1=(den xs ns y).1,(den xs ns x).2<=(den xs ns y).2,(den xs ns x).2=(den xs ns y).2,¬p,p/\q,p∨q] c (p->q)
def cr(p q:List (List Ln)):List (List Ln):=p.flatMap λg=>q.map (g++ ·)
def aB2(p q:Ln):List (List Ln):=[[ls q p]]
def aB3(p q:Ln):List (List Ln):=[[ls (ls p q) (lk 1)]]
def aDd(p q:Ln):List (List Ln):=[[ls q p,ls p q]]
def aDe(p q:Ln):List (List Ln):=[[ls (ls p q) (lk 1)],[ls (ls q p) (lk 1)]]
def dn(t:T):List (List Ln)×List (List Ln):=t.rec (λ_=>([],[[]])) (λ_=>([],[[]])) λc x y p q=>
 List.getD [(rL (alt x).1 (alt y).1 aB2,rL (alt x).1 (alt y).1 aB3),(rL (alt x).1 (alt y).1 aDd,rL (alt x).1 (alt y).1 aDe),(rL (alt x).2 (alt y).2 aB2,rL (alt x).2 (alt y).2 aB3),
  (rL (alt x).2 (alt y).2 aDd,rL (alt x).2 (alt y).2 aDe),(p.2,p.1),(cr p.1 q.1,p.2++q.2),(p.1++q.1,cr p.2 q.2)] c (p.2++q.1,cr p.1 q.2)
section
variable {xs:List Int}{ns:List Nat}{a b:Al}{x y:Int}
theorem Sd.app{p q:List (List Ln)}(h:Sd xs ns p∨Sd xs ns q):Sd xs ns (p++q):=h.elim (fun⟨g,m,s⟩=>⟨g,List.mem_append_left _ m,s⟩) fun⟨g,m,s⟩=>⟨g,List.mem_append_right _ m,s⟩
theorem Sd.cr{p q:List (List Ln)}(h:Sd xs ns p)(k:Sd xs ns q):Sd xs ns (cr p q):=h.elim λg h=>k.elim λg' k=>⟨g++g',List.mem_flatMap.mpr ⟨g,h.1,List.mem_map.mpr ⟨g',k.1,rfl⟩⟩,h.2.app k.2⟩
theorem wM{l:Ln->Ln->List (List Ln)}(h:Sa xs ns a x)(g:Sa xs ns b y)(k:∀ p q,ev xs ns p=x->ev xs ns q=y->Sd xs ns (l p q)):Sd xs ns (rL a b l):=
 q8 h g λu v w s e e'=>(k v w e e').elim λg h=>⟨_,List.mem_map.mpr ⟨g,h.1,rfl⟩,s.app h.2⟩
theorem aBu{p q:Ln}(e:ev xs ns p=x)(e':ev xs ns q=y)(h:y<x):Sg xs ns [ls (ls p q) (lk 1)]:=λ_ m=>by rw[List.mem_singleton.mp m,qJ,qJ,n7,e,e'];exact Int.sub_nonneg_of_le (Int.le_sub_left_of_add_le h)
theorem aB1{p q:Ln}(e:ev xs ns p=x)(e':ev xs ns q=y)(h:y<=x):0<=ev xs ns (ls p q):=by rw[qJ,e,e'];exact Int.sub_nonneg_of_le h
theorem aB0(h:Sa xs ns a x)(g:Sa xs ns b y):(x<=y->Sd xs ns (rL a b aB2))/\(¬x<=y->Sd xs ns (rL a b aB3)):=
 ⟨λl=>wM h g λp q e e'=>⟨_,.head _,λ_ m=>List.mem_singleton.mp m▸aB1 e' e l⟩,λl=>wM h g λp q e e'=>⟨_,.head _,aBu e e' (Int.not_le.mp l)⟩⟩
theorem aDc(h:Sa xs ns a x)(g:Sa xs ns b y):(x=y->Sd xs ns (rL a b aDd))/\(¬x=y->Sd xs ns (rL a b aDe)):=
 ⟨λl=>wM h g λp q e e'=>⟨_,.head _,Sg.sn (a:=[_]) (λ_ m=>List.mem_singleton.mp m▸aB1 e' e (Int.le_of_eq l)) (aB1 e e' (Int.le_of_eq l.symm))⟩,
  λl=>wM h g λp q e e'=>(Int.lt_or_gt_of_ne l).elim (λl=>⟨_,.tail _ (.head _),aBu e' e l⟩) λl=>⟨_,.head _,aBu e e' l⟩⟩
theorem dn_ok(t:T):(dP xs ns t->Sd xs ns (dn t).1)/\(¬dP xs ns t->Sd xs ns (dn t).2):=by
 induction t with
 |v i=>exact⟨False.elim,λ_=>⟨_,.head _,.nil⟩⟩
 |k n=>exact⟨False.elim,λ_=>⟨_,.head _,.nil⟩⟩
 |o c x y h g=>
  have X:=aD4 xs ns x
  have Y:=aD4 xs ns y
  cases c with
  |zero=>exact⟨λl=>(aB0 X.1 Y.1).1 (Int.ofNat_le.mpr l),λl=>(aB0 X.1 Y.1).2 λz=>l (Int.ofNat_le.mp z)⟩
  |succ c=>cases c with
   |zero=>exact⟨λl=>(aDc X.1 Y.1).1 (congrArg Nat.cast l),λl=>(aDc X.1 Y.1).2 λz=>l (Int.ofNat.inj z)⟩
   |succ c=>cases c with
    |zero=>exact aB0 X.2 Y.2
    |succ c=>cases c with
     |zero=>exact aDc X.2 Y.2
     |succ c=>cases c with
      |zero=>exact⟨h.2,λl=>h.1 (Classical.not_not.mp l)⟩
      |succ c=>cases c with
       |zero=>exact⟨λl=>(h.1 l.1).cr (g.1 l.2),λl=>.app ((Classical.not_and_iff_not_or_not.mp l).imp h.2 g.2)⟩
       |succ c=>cases c with
        |zero=>exact⟨λl=>.app (l.imp h.1 g.1),λl=>(h.2 λz=>l (.inl z)).cr (g.2 λz=>l (.inr z))⟩
        |succ c=>exact⟨λl=>.app ((Classical.em _).elim (λz=>.inr (g.1 (l z))) λz=>.inl (h.2 z)),λl=>(h.1 (Classical.not_imp.mp l).1).cr (g.2 (Classical.not_imp.mp l).2)⟩
end
def sm(g:List Ln):Nat->Ln×Nat:=g.rec (λs=>(lk 0,s)) λl _ r s=>(la (lm (s%64:Nat) l) (r (s/64)).1,(r (s/64)).2)
def ng(b:Int->Bool)(l:List Int):Bool:=l.rec true λc _ r=>cond (b c) r false
def gd(l:Ln):Bool:=cond (decide (l.1<0)) (cond (ng (λc=>decide (c=0)) l.2.1) (ng (λc=>decide (c<=0)) l.2.2) false) false
def ck(d:List (List Ln)):Nat->Bool:=d.rec (λ_=>true) λg _ r s=>cond (gd (sm g s).1) (r (sm g s).2) false
section
variable {xs:List Int}{ns:List Nat}
theorem eS{a b:Bool}(h:cond a b false=true):a=true/\b=true:=by
 cases a with
 |true=>exact⟨rfl,h⟩
 |false=>exact absurd h Bool.false_ne_true
theorem sm_ok{g:List Ln}:∀ (s:Nat),Sg xs ns g->0<=ev xs ns (sm g s).1:=by
 induction g with
 |nil=>exact λs _=>Int.le_of_eq (n7 xs ns 0).symm
 |cons l g ih=>
  intro s h
  show 0<=ev xs ns (la (lm _ l) (sm g (s/64)).1)
  rw [aC9,aC8]
  exact Int.add_nonneg (Int.mul_nonneg (Int.natCast_nonneg _) (h l (.head _))) (ih _ λq m=>h q (.tail _ m))
theorem ng_le{b:Int->Bool}{l:List Int}(k:∀ c x,b c=true->0<=x->c*x<=0):∀ (x:List Int),(∀ y∈x,0<=y)->ng b l=true->dot l x<=0:=by
 induction l with
 |nil=>exact λ_ _ _=>Int.le_refl _
 |cons c l ih=>
  intro x h e
  cases x with
  |nil=>exact Int.le_refl _
  |cons x xs=>exact Int.add_nonpos (k c x (eS e).1 (h x (.head _))) (ih xs (λy m=>h y (.tail _ m)) (eS e).2)
theorem aFj{l:List Int}:∀ (x:List Int),ng (λc=>decide (c=0)) l=true->dot l x<=0:=by
 induction l with
 |nil=>exact λ_ _=>Int.le_refl _
 |cons c l ih=>
  intro x e
  cases x with
  |nil=>exact Int.le_refl _
  |cons x xs=>exact Int.add_nonpos (Int.le_of_eq (of_decide_eq_true (eS e).1▸Int.zero_mul x)) (ih xs (eS e).2)
theorem gd_no{l:Ln}(h:gd l=true): ¬0<=ev xs ns l:=λg=>
 absurd (Int.le_trans g (Int.add_le_add_left (Int.add_nonpos (aFj xs (eS (eS h).2).1)
  (ng_le (λc x e h=>Int.mul_nonpos_of_nonpos_of_nonneg (of_decide_eq_true e) h) (ns.map Nat.cast) (λy m=>by obtain⟨n,_,e⟩:=List.mem_map.mp m;exact e▸Int.natCast_nonneg n) (eS (eS h).2).2)) l.1))
  (Int.not_le.mpr (by rw[Int.add_zero];exact of_decide_eq_true (eS h).1))
theorem ck_no{d:List (List Ln)}:∀ {s:Nat},ck d s=true->¬Sd xs ns d:=by
 induction d with
 |nil=>exact λ_ ⟨_,m,_⟩=>absurd m List.not_mem_nil
 |cons g d ih=>
  intro s h ⟨g',m,k⟩
  cases m with
  |head=>exact gd_no (eS h).1 (sm_ok s k)
  |tail _ m=>exact ih (eS h).2 ⟨g',m,k⟩
end
def lit(f:Nat):Nat->Nat×Nat:=f.rec (λs=>(0,s)) λ_ r s=>cond (Nat.ble 32 (s%64)) ((s%64-32)+32*(r (s/64)).1,(r (s/64)).2) (s%64,s/64)
def dec(f:Nat):Nat->T×Nat:=f.rec (λs=>(.v 0,s)) λ_ r s=>
 cond (Nat.ble 40 (s%64)) (cond (Nat.ble 61 (s%64)) ((lit 30 (s/64)).rec λn s'=>cond (Nat.ble (s%64) 61) (.k n,s') ((r s').rec λx s=>(.o (n+32) x x,s))) (.v (s%64-40),s/64))
  ((r (s/64)).rec λx s'=>(r s').rec λy s''=>(.o (s%64) x y,s''))
theorem R(k:Nat)(xs:List Int)(ns:List Nat){P:Prop}(h:dP xs ns (dec 99 k).1=P)(c:ck (dn (dec 99 k).1).2 (dec 99 k).2=true):P:=
 h▸Classical.not_not.mp λz=>ck_no c ((dn_ok _).2 z)
end Z
end
section
theorem xA{p0:Prop}{p1:Prop}{G:Prop}(h:p0/\p1)(k:p0->p1->G):G:=k h.1 h.2
theorem xE{α:Sort _}{p0:α->Prop}{G:Prop}(h:∃ a0:α,p0 a0)(k:∀ a0,p0 a0->G):G:=h.elim λa0 h1=>k a0 h1
theorem xAA{p0:Prop}{p1:Prop}{p2:Prop}{G:Prop}(h:p0/\p1/\p2)(k:p0->p1->p2->G):G:=k h.1 h.2.1 h.2.2
theorem xAE{α:Sort _}{p0:Prop}{p1:α->Prop}{G:Prop}(h:p0/\∃ a0:α,p1 a0)(k:p0->∀ a0,p1 a0->G):G:=h.2.elim λa0 h1=>k h.1 a0 h1
theorem xEA{α:Sort _}{p0:α->Prop}{p1:α->Prop}{G:Prop}(h:∃ a0:α,p0 a0/\p1 a0)(k:∀ a0,p0 a0->p1 a0->G):G:=h.elim λa0 h1=>k a0 h1.1 h1.2
theorem xEE{α β:Sort _}{p0:α->β->Prop}{G:Prop}(h:∃ a0:α,∃ a1:β,p0 a0 a1)(k:∀ a0,∀ a1,p0 a0 a1->G):G:=h.elim λa0 h1=>h1.elim λa1 h2=>k a0 a1 h2
theorem xAAA{p0:Prop}{p1:Prop}{p2:Prop}{p3:Prop}{G:Prop}(h:p0/\p1/\p2/\p3)(k:p0->p1->p2->p3->G):G:=k h.1 h.2.1 h.2.2.1 h.2.2.2
theorem xAEA{α:Sort _}{p0:Prop}{p1:α->Prop}{p2:α->Prop}{G:Prop}(h:p0/\∃ a0:α,p1 a0/\p2 a0)(k:p0->∀ a0,p1 a0->p2 a0->G):G:=h.2.elim λa0 h1=>k h.1 a0 h1.1 h1.2
theorem c8{α:Sort _}{p0:α->Prop}{p1:α->Prop}{p2:α->Prop}{G:Prop}(h:∃ a0:α,p0 a0/\p1 a0/\p2 a0)(k:∀ a0,p0 a0->p1 a0->p2 a0->G):G:=h.elim λa0 h1=>k a0 h1.1 h1.2.1 h1.2.2
theorem bO{α β:Sort _}{p0:α->β->Prop}{p1:α->β->Prop}{G:Prop}(h:∃ a0:α,∃ a1:β,p0 a0 a1/\p1 a0 a1)(k:∀ a0,∀ a1,p0 a0 a1->p1 a0 a1->G):G:=h.elim λa0 h1=>h1.elim λa1 h2=>k a0 a1 h2.1 h2.2
theorem xEEE{α β γ:Sort _}{p0:α->β->γ->Prop}{G:Prop}(h:∃ a0:α,∃ a1:β,∃ a2:γ,p0 a0 a1 a2)(k:∀ a0,∀ a1,∀ a2,p0 a0 a1 a2->G):G:=h.elim λa0 h1=>h1.elim λa1 h2=>h2.elim λa2 h3=>k a0 a1 a2 h3
theorem xAAAA{p0:Prop}{p1:Prop}{p2:Prop}{p3:Prop}{p4:Prop}{G:Prop}(h:p0/\p1/\p2/\p3/\p4)(k:p0->p1->p2->p3->p4->G):G:=k h.1 h.2.1 h.2.2.1 h.2.2.2.1 h.2.2.2.2
theorem pU{α:Sort _}{p0:Prop}{p1:Prop}{p2:α->Prop}{p3:α->Prop}{G:Prop}(h:p0/\p1/\∃ a0:α,p2 a0/\p3 a0)(k:p0->p1->∀ a0,p2 a0->p3 a0->G):G:=h.2.2.elim λa0 h1=>k h.1 h.2.1 a0 h1.1 h1.2
theorem xEAAA{α:Sort _}{p0:α->Prop}{p1:α->Prop}{p2:α->Prop}{p3:α->Prop}{G:Prop}(h:∃ a0:α,p0 a0/\p1 a0/\p2 a0/\p3 a0)(k:∀ a0,p0 a0->p1 a0->p2 a0->p3 a0->G):G:=h.elim λa0 h1=>k a0 h1.1 h1.2.1 h1.2.2.1 h1.2.2.2
theorem wD{α β:Sort _}{p0:α->Prop}{p1:α->Prop}{p2:α->β->Prop}{G:Prop}(h:∃ a0:α,p0 a0/\p1 a0/\∃ a1:β,p2 a0 a1)(k:∀ a0,p0 a0->p1 a0->∀ a1,p2 a0 a1->G):G:=h.elim λa0 h1=>h1.2.2.elim λa1 h2=>k a0 h1.1 h1.2.1 a1 h2
theorem zI{α β:Sort _}{p0:α->Prop}{p1:α->β->Prop}{p2:α->β->Prop}{G:Prop}(h:∃ a0:α,p0 a0/\∃ a1:β,p1 a0 a1/\p2 a0 a1)(k:∀ a0,p0 a0->∀ a1,p1 a0 a1->p2 a0 a1->G):G:=h.elim λa0 h1=>h1.2.elim λa1 h2=>k a0 h1.1 a1 h2.1 h2.2
theorem cJ{α β:Sort _}{p0:α->β->Prop}{p1:α->β->Prop}{p2:α->β->Prop}{G:Prop}(h:∃ a0:α,∃ a1:β,p0 a0 a1/\p1 a0 a1/\p2 a0 a1)(k:∀ a0,∀ a1,p0 a0 a1->p1 a0 a1->p2 a0 a1->G):G:=h.elim λa0 h1=>h1.elim λa1 h2=>k a0 a1 h2.1 h2.2.1 h2.2.2
theorem iA{α β γ:Sort _}{p0:α->β->γ->Prop}{p1:α->β->γ->Prop}{G:Prop}(h:∃ a0:α,∃ a1:β,∃ a2:γ,p0 a0 a1 a2/\p1 a0 a1 a2)(k:∀ a0,∀ a1,∀ a2,p0 a0 a1 a2->p1 a0 a1 a2->G):G:=h.elim λa0 h1=>h1.elim λa1 h2=>h2.elim λa2 h3=>k a0 a1 a2 h3.1 h3.2
theorem xEEEE{α β γ δ:Sort _}{p0:α->β->γ->δ->Prop}{G:Prop}(h:∃ a0:α,∃ a1:β,∃ a2:γ,∃ a3:δ,p0 a0 a1 a2 a3)(k:∀ a0,∀ a1,∀ a2,∀ a3,p0 a0 a1 a2 a3->G):G:=h.elim λa0 h1=>h1.elim λa1 h2=>h2.elim λa2 h3=>h3.elim λa3 h4=>k a0 a1 a2 a3 h4
theorem xAAAEA{α:Sort _}{p0:Prop}{p1:Prop}{p2:Prop}{p3:α->Prop}{p4:α->Prop}{G:Prop}(h:p0/\p1/\p2/\∃ a0:α,p3 a0/\p4 a0)(k:p0->p1->p2->∀ a0,p3 a0->p4 a0->G):G:=h.2.2.2.elim λa0 h1=>k h.1 h.2.1 h.2.2.1 a0 h1.1 h1.2
theorem uP{α:Sort _}{p0:Prop}{p1:Prop}{p2:α->Prop}{p3:α->Prop}{p4:α->Prop}{G:Prop}(h:p0/\p1/\∃ a0:α,p2 a0/\p3 a0/\p4 a0)(k:p0->p1->∀ a0,p2 a0->p3 a0->p4 a0->G):G:=h.2.2.elim λa0 h1=>k h.1 h.2.1 a0 h1.1 h1.2.1 h1.2.2
theorem jI{α β:Sort _}{p0:Prop}{p1:Prop}{p2:α->β->Prop}{p3:α->β->Prop}{G:Prop}(h:p0/\p1/\∃ a0:α,∃ a1:β,p2 a0 a1/\p3 a0 a1)(k:p0->p1->∀ a0,∀ a1,p2 a0 a1->p3 a0 a1->G):G:=h.2.2.elim λa0 h1=>h1.elim λa1 h2=>k h.1 h.2.1 a0 a1 h2.1 h2.2
theorem zJ{α:Sort _}{p0:α->Prop}{p1:α->Prop}{p2:α->Prop}{p3:α->Prop}{p4:α->Prop}{G:Prop}(h:∃ a0:α,p0 a0/\p1 a0/\p2 a0/\p3 a0/\p4 a0)(k:∀ a0,p0 a0->p1 a0->p2 a0->p3 a0->p4 a0->G):G:=h.elim λa0 h1=>k a0 h1.1 h1.2.1 h1.2.2.1 h1.2.2.2.1 h1.2.2.2.2
theorem xEEAAA{α β:Sort _}{p0:α->β->Prop}{p1:α->β->Prop}{p2:α->β->Prop}{p3:α->β->Prop}{G:Prop}(h:∃ a0:α,∃ a1:β,p0 a0 a1/\p1 a0 a1/\p2 a0 a1/\p3 a0 a1)(k:∀ a0,∀ a1,p0 a0 a1->p1 a0 a1->p2 a0 a1->p3 a0 a1->G):G:=h.elim λa0 h1=>h1.elim λa1 h2=>k a0 a1 h2.1 h2.2.1 h2.2.2.1 h2.2.2.2
theorem fC{α β γ:Sort _}{p0:α->β->γ->Prop}{p1:α->β->γ->Prop}{p2:α->β->γ->Prop}{G:Prop}(h:∃ a0:α,∃ a1:β,∃ a2:γ,p0 a0 a1 a2/\p1 a0 a1 a2/\p2 a0 a1 a2)(k:∀ a0,∀ a1,∀ a2,p0 a0 a1 a2->p1 a0 a1 a2->p2 a0 a1 a2->G):G:=h.elim λa0 h1=>h1.elim λa1 h2=>h2.elim λa2 h3=>k a0 a1 a2 h3.1 h3.2.1 h3.2.2
theorem qM{α β γ δ:Sort _}{p0:α->β->γ->δ->Prop}{p1:α->β->γ->δ->Prop}{G:Prop}(h:∃ a0:α,∃ a1:β,∃ a2:γ,∃ a3:δ,p0 a0 a1 a2 a3/\p1 a0 a1 a2 a3)(k:∀ a0,∀ a1,∀ a2,∀ a3,p0 a0 a1 a2 a3->p1 a0 a1 a2 a3->G):G:=h.elim λa0 h1=>h1.elim λa1 h2=>h2.elim λa2 h3=>h3.elim λa3 h4=>k a0 a1 a2 a3 h4.1 h4.2
theorem aEi{α β:Sort _}{p0:Prop}{p1:Prop}{p2:α->Prop}{p3:α->β->Prop}{p4:α->β->Prop}{G:Prop}(h:p0/\p1/\∃ a0:α,p2 a0/\∃ a1:β,p3 a0 a1/\p4 a0 a1)(k:p0->p1->∀ a0,p2 a0->∀ a1,p3 a0 a1->p4 a0 a1->G):G:=h.2.2.elim λa0 h1=>h1.2.elim λa1 h2=>k h.1 h.2.1 a0 h1.1 a1 h2.1 h2.2
theorem qO{α β γ:Sort _}{p0:Prop}{p1:Prop}{p2:α->β->γ->Prop}{p3:α->β->γ->Prop}{G:Prop}(h:p0/\p1/\∃ a0:α,∃ a1:β,∃ a2:γ,p2 a0 a1 a2/\p3 a0 a1 a2)(k:p0->p1->∀ a0,∀ a1,∀ a2,p2 a0 a1 a2->p3 a0 a1 a2->G):G:=h.2.2.elim λa0 h1=>h1.elim λa1 h2=>h2.elim λa2 h3=>k h.1 h.2.1 a0 a1 a2 h3.1 h3.2
theorem qN{α:Sort _}{p0:α->Prop}{p1:α->Prop}{p2:α->Prop}{p3:α->Prop}{p4:α->Prop}{p5:α->Prop}{G:Prop}(h:∃ a0:α,p0 a0/\p1 a0/\p2 a0/\p3 a0/\p4 a0/\p5 a0)(k:∀ a0,p0 a0->p1 a0->p2 a0->p3 a0->p4 a0->p5 a0->G):G:=h.elim λa0 h1=>k a0 h1.1 h1.2.1 h1.2.2.1 h1.2.2.2.1 h1.2.2.2.2.1 h1.2.2.2.2.2
theorem cW{α β γ:Sort _}{p0:α->β->γ->Prop}{p1:α->β->γ->Prop}{p2:α->β->γ->Prop}{p3:α->β->γ->Prop}{G:Prop}(h:∃ a0:α,∃ a1:β,∃ a2:γ,p0 a0 a1 a2/\p1 a0 a1 a2/\p2 a0 a1 a2/\p3 a0 a1 a2)(k:∀ a0,∀ a1,∀ a2,p0 a0 a1 a2->p1 a0 a1 a2->p2 a0 a1 a2->p3 a0 a1 a2->G):G:=h.elim λa0 h1=>h1.elim λa1 h2=>h2.elim λa2 h3=>k a0 a1 a2 h3.1 h3.2.1 h3.2.2.1 h3.2.2.2
theorem mG{α β γ δ:Sort _}{p0:α->β->γ->δ->Prop}{p1:α->β->γ->δ->Prop}{p2:α->β->γ->δ->Prop}{G:Prop}(h:∃ a0:α,∃ a1:β,∃ a2:γ,∃ a3:δ,p0 a0 a1 a2 a3/\p1 a0 a1 a2 a3/\p2 a0 a1 a2 a3)(k:∀ a0,∀ a1,∀ a2,∀ a3,p0 a0 a1 a2 a3->p1 a0 a1 a2 a3->p2 a0 a1 a2 a3->G):G:=h.elim λa0 h1=>h1.elim λa1 h2=>h2.elim λa2 h3=>h3.elim λa3 h4=>k a0 a1 a2 a3 h4.1 h4.2.1 h4.2.2
theorem mT{α:Sort _}{p0:Prop}{p1:Prop}{p2:Prop}{p3:α->Prop}{p4:α->Prop}{p5:α->Prop}{p6:α->Prop}{G:Prop}(h:p0/\p1/\p2/\∃ a0:α,p3 a0/\p4 a0/\p5 a0/\p6 a0)(k:p0->p1->p2->∀ a0,p3 a0->p4 a0->p5 a0->p6 a0->G):G:=h.2.2.2.elim λa0 h1=>k h.1 h.2.1 h.2.2.1 a0 h1.1 h1.2.1 h1.2.2.1 h1.2.2.2
theorem mS{α β γ δ:Sort _}{p0:α->β->γ->δ->Prop}{p1:α->β->γ->δ->Prop}{p2:α->β->γ->δ->Prop}{p3:α->β->γ->δ->Prop}{G:Prop}(h:∃ a0:α,∃ a1:β,∃ a2:γ,∃ a3:δ,p0 a0 a1 a2 a3/\p1 a0 a1 a2 a3/\p2 a0 a1 a2 a3/\p3 a0 a1 a2 a3)(k:∀ a0,∀ a1,∀ a2,∀ a3,p0 a0 a1 a2 a3->p1 a0 a1 a2 a3->p2 a0 a1 a2 a3->p3 a0 a1 a2 a3->G):G:=h.elim λa0 h1=>h1.elim λa1 h2=>h2.elim λa2 h3=>h3.elim λa3 h4=>k a0 a1 a2 a3 h4.1 h4.2.1 h4.2.2.1 h4.2.2.2
theorem jV{α β γ δ ε ζ:Sort _}{p0:α->β->γ->δ->ε->ζ->Prop}{p1:α->β->γ->δ->ε->ζ->Prop}{G:Prop}(h:∃ a0:α,∃ a1:β,∃ a2:γ,∃ a3:δ,∃ a4:ε,∃ a5:ζ,p0 a0 a1 a2 a3 a4 a5/\p1 a0 a1 a2 a3 a4 a5)(k:∀ a0,∀ a1,∀ a2,∀ a3,∀ a4,∀ a5,p0 a0 a1 a2 a3 a4 a5->p1 a0 a1 a2 a3 a4 a5->G):G:=h.elim λa0 h1=>h1.elim λa1 h2=>h2.elim λa2 h3=>h3.elim λa3 h4=>h4.elim λa4 h5=>h5.elim λa5 h6=>k a0 a1 a2 a3 a4 a5 h6.1 h6.2
theorem gY{α β γ δ ε:Sort _}{p0:Prop}{p1:Prop}{p2:α->β->γ->δ->ε->Prop}{p3:α->β->γ->δ->ε->Prop}{p4:α->β->γ->δ->ε->Prop}{G:Prop}(h:p0/\p1/\∃ a0:α,∃ a1:β,∃ a2:γ,∃ a3:δ,∃ a4:ε,p2 a0 a1 a2 a3 a4/\p3 a0 a1 a2 a3 a4/\p4 a0 a1 a2 a3 a4)(k:p0->p1->∀ a0,∀ a1,∀ a2,∀ a3,∀ a4,p2 a0 a1 a2 a3 a4->p3 a0 a1 a2 a3 a4->p4 a0 a1 a2 a3 a4->G):G:=h.2.2.elim λa0 h1=>h1.elim λa1 h2=>h2.elim λa2 h3=>h3.elim λa3 h4=>h4.elim λa4 h5=>k h.1 h.2.1 a0 a1 a2 a3 a4 h5.1 h5.2.1 h5.2.2
theorem sO{α β γ δ ε:Sort _}{p0:α->β->γ->δ->ε->Prop}{p1:α->β->γ->δ->ε->Prop}{p2:α->β->γ->δ->ε->Prop}{p3:α->β->γ->δ->ε->Prop}{p4:α->β->γ->δ->ε->Prop}{p5:α->β->γ->δ->ε->Prop}{G:Prop}(h:∃ a0:α,∃ a1:β,∃ a2:γ,∃ a3:δ,∃ a4:ε,p0 a0 a1 a2 a3 a4/\p1 a0 a1 a2 a3 a4/\p2 a0 a1 a2 a3 a4/\p3 a0 a1 a2 a3 a4/\p4 a0 a1 a2 a3 a4/\p5 a0 a1 a2 a3 a4)(k:∀ a0,∀ a1,∀ a2,∀ a3,∀ a4,p0 a0 a1 a2 a3 a4->p1 a0 a1 a2 a3 a4->p2 a0 a1 a2 a3 a4->p3 a0 a1 a2 a3 a4->p4 a0 a1 a2 a3 a4->p5 a0 a1 a2 a3 a4->G):G:=h.elim λa0 h1=>h1.elim λa1 h2=>h2.elim λa2 h3=>h3.elim λa3 h4=>h4.elim λa4 h5=>k a0 a1 a2 a3 a4 h5.1 h5.2.1 h5.2.2.1 h5.2.2.2.1 h5.2.2.2.2.1 h5.2.2.2.2.2
theorem gX{α β γ δ:Sort _}{p0:α->β->γ->δ->Prop}{p1:α->β->γ->δ->Prop}{p2:α->β->γ->δ->Prop}{p3:α->β->γ->δ->Prop}{p4:α->β->γ->δ->Prop}{p5:α->β->γ->δ->Prop}{p6:α->β->γ->δ->Prop}{p7:α->β->γ->δ->Prop}{G:Prop}(h:∃ a0:α,∃ a1:β,∃ a2:γ,∃ a3:δ,p0 a0 a1 a2 a3/\p1 a0 a1 a2 a3/\p2 a0 a1 a2 a3/\p3 a0 a1 a2 a3/\p4 a0 a1 a2 a3/\p5 a0 a1 a2 a3/\p6 a0 a1 a2 a3/\p7 a0 a1 a2 a3)(k:∀ a0,∀ a1,∀ a2,∀ a3,p0 a0 a1 a2 a3->p1 a0 a1 a2 a3->p2 a0 a1 a2 a3->p3 a0 a1 a2 a3->p4 a0 a1 a2 a3->p5 a0 a1 a2 a3->p6 a0 a1 a2 a3->p7 a0 a1 a2 a3->G):G:=h.elim λa0 h1=>h1.elim λa1 h2=>h2.elim λa2 h3=>h3.elim λa3 h4=>k a0 a1 a2 a3 h4.1 h4.2.1 h4.2.2.1 h4.2.2.2.1 h4.2.2.2.2.1 h4.2.2.2.2.2.1 h4.2.2.2.2.2.2.1 h4.2.2.2.2.2.2.2
theorem fA{α β γ δ ε ζ η θ ι κ μ ν:Sort _}{p0:α->β->γ->δ->ε->ζ->η->θ->ι->κ->μ->ν->Prop}{G:Prop}(h:∃ a0:α,∃ a1:β,∃ a2:γ,∃ a3:δ,∃ a4:ε,∃ a5:ζ,∃ a6:η,∃ a7:θ,∃ a8:ι,∃ a9:κ,∃ a10:μ,∃ a11:ν,p0 a0 a1 a2 a3 a4 a5 a6 a7 a8 a9 a10 a11)(k:∀ a0,∀ a1,∀ a2,∀ a3,∀ a4,∀ a5,∀ a6,∀ a7,∀ a8,∀ a9,∀ a10,∀ a11,p0 a0 a1 a2 a3 a4 a5 a6 a7 a8 a9 a10 a11->G):G:=h.elim λa0 h1=>h1.elim λa1 h2=>h2.elim λa2 h3=>h3.elim λa3 h4=>h4.elim λa4 h5=>h5.elim λa5 h6=>h6.elim λa6 h7=>h7.elim λa7 h8=>h8.elim λa8 h9=>h9.elim λa9 h10=>h10.elim λa10 h11=>h11.elim λa11 h12=>k a0 a1 a2 a3 a4 a5 a6 a7 a8 a9 a10 a11 h12
end
section
variable {a b c d e f g h i j k l:Int}{m n p q r s t u v w x y:Nat}
theorem A0:m+(10*n)<=700->m<1000:=Z.R 0x417e8f41f6800057cf692bea00007 [] [m,n] ⋯ ⋯
theorem A1:m+(40*n)<=8000->m+64<9900:=Z.R 0x1049d6cf41f4283da000001fa83da41a3ea00007 [] [m,n] ⋯ ⋯
theorem A2:m<100->m<=16777216:=Z.R 0x1050820820f6800393d07da00007 [] [m] ⋯ ⋯
theorem A3:m<1000000->m<=16777216:=Z.R 0x1050820820f6801ec3283d07da00007 [] [m] ⋯ ⋯
theorem A4:m+n<1000000->p=m->q=n->p+q<=16777216:=Z.R 0x1001001050820820f6ba80029ac11e8a811dec3283d07da68000007 [] [m,n,p,q] ⋯ ⋯
theorem A5:(((0:Int)<=a+((m:Nat):Int))/\(a+((m:Nat):Int)<((m:Nat):Int)))->(a<0)/\((-((m:Nat):Int)<=a)/\((Int.toNat (a+((m:Nat):Int))=Int.toNat (a+((m:Nat):Int)))/\(Int.toNat (a+((m:Nat):Int))<m))):=Z.R 0x40041040040040000001000000040040001000001040000041040000040000001000000040041040a01f68a28128004000a28a04a00128a28128004045a28a2810508503d07da00085a28101f68a04a00002a28128000f42147 [a] [m] ⋯ ⋯
theorem A6:(((0:Int)<=a)/\(a<((m:Nat):Int)))->((0:Int)<=a)/\((Int.toNat a=Int.toNat a)/\(Int.toNat a<m)):=Z.R 0x4004104004004000000100000004004000104000004004000104000004000000100000004006807da28100028a04a2810116803d085a28101f68002a00f42147 [a] [m] ⋯ ⋯
theorem A7:m=n-> -((n:Nat):Int)<=a-> -((m:Nat):Int)<=a:=Z.R 0x1041028a28a04142a28a29105087a68047 [a] [m,n] ⋯ ⋯
theorem A8:m<1000000->¬((16777216:Nat)<m):=Z.R 0x41a2807d42082083d00011ec3283d07da00007 [] [m] ⋯ ⋯
theorem A9: ¬(m-1<n)->n<=m-1:=Z.R 0x4004004104004104004004007da01a40a2907d07da01000107 [] [m,n] ⋯ ⋯
theorem A10:((-1000000):Int)<a->b<1000000->Int.toNat (b-a)<2000000:=Z.R 0x1000001001041f61920f41f68a290440007b0ca0f41f690021e807da1ec3283d140087 [a,b] [] ⋯ ⋯
theorem A11:a<1000000->((-1000000):Int)<b->Int.toNat (b-a)<2000000->((((((-9223372036854775808):Int)<=a)/\(a<9223372036854775808))/\((((-9223372036854775808):Int)<=b)/\(b<9223372036854775808)))/\((((-9223372036854775808):Int)<=max (b-a) 0)/\(max (b-a) 0<9223372036854775808)))/\((max (b-a) 0=0)∨((((-9223372036854775808):Int)<=b)/\(b<9223372036854775808))):=Z.R 0x40000000001000000000040000000001000000000041000000001040000000040001000001000040001000000001000040001000000001040000001001001040001001000001040041000040000000001000000000040000000001000000000040001000001000040001000040001040000001001000000001001000001000000001000040001040001040001001000001041001008820820820820820820f41f69002a6822082082082082082083d142140f40f68a41083188820820820820820820f41f40f68a41080080f68a410a822082082082082082083d142148820820820820820820f41f69002a6822082082082082082083d142148820820820820820820f41f68002a2822082082082082082083d14214514507d86483d07da28a41100007a41f687b0ca0f450021dec3283d07da00087 [a,b] [] ⋯ ⋯
theorem A12:m<1000000->n=m->n<=16777216:=Z.R 0x1001050820820f69028a411dec3283d07da00007 [] [m,n] ⋯ ⋯
theorem A14: ¬(((m:Nat):Int)<0):=Z.R 0x6803d07da28100084 [] [m] ⋯ ⋯
theorem A28:m<50->n+(40*p)<=8000->n+1+(min q m)<9900:=Z.R 0x1041041001049d6cf41f68ac307da40000007ea0f6a068fa90001c1cbd07da00007 [] [m,n,p,q] ⋯ ⋯
theorem A29:m<1000000->n<=m->n<=16777216:=Z.R 0x41050820820f69028a401dec3283d07da00007 [] [m,n] ⋯ ⋯
theorem A30:m+(10*(n+1))<=700->m+1+(10*n)<=700:=Z.R 0x1055f3da4af81f68000015f3d07da402bea00007 [] [m,n] ⋯ ⋯
theorem A31:m+(40*(n+1))<=8000->m+3+(40*n)<=8000:=Z.R 0x1047ea0f69068f83f68000007ea0f41f69001a3ea00007 [] [m,n] ⋯ ⋯
theorem A32:m+1<=n->m<=n:=Z.R 0x41a6802907da00007 [] [m,n] ⋯ ⋯
theorem A33:m=n->n<1000000->m<=16777216:=Z.R 0x1040050820820f6801ec3283d07da40007a68047 [] [m,n] ⋯ ⋯
theorem A34:m+(10*(n+1))<=700->m+0+1+(10*n)<=700:=Z.R 0x4157cf692be07d03da00000015f3d07da402bea00007 [] [m,n] ⋯ ⋯
theorem A35:m+(40*(n+1))<=8000->m+0+3+(40*n)<=8000:=Z.R 0x411fa83da41a3e0fd03da00000007ea0f41f69001a3ea00007 [] [m,n] ⋯ ⋯
theorem A36:m+(10*(n+1))<=700->m+(1+0)+0+(10*n)<=700:=Z.R 0x1055f3da4af80f40f41f40a00000015f3d07da402bea00007 [] [m,n] ⋯ ⋯
theorem A37:m+(40*(n+1))<=8000->m+(3+0)+0+(40*n)<=8000:=Z.R 0x1047ea0f69068f80f40f43f40a00000007ea0f41f69001a3ea00007 [] [m,n] ⋯ ⋯
theorem A38:m+(10*(n+2))<=700->m+(10*(n+1))<=700:=Z.R 0x1055f3d07da402bea00015f3d0bda402bea00007 [] [m,n] ⋯ ⋯
theorem A39:m+(40*(n+2))<=8000->m+1+(40*(n+1))<=8000:=Z.R 0x411fa83d07da40068f81f68000007ea0f42f69001a3ea00007 [] [m,n] ⋯ ⋯
theorem A40:m+2<=n->p+(10*n)<=700->p+(10*(m+2))<=700:=Z.R 0x41295f3d0bda002bea80015f3da4afaa0001e90bda00007 [] [m,n,p] ⋯ ⋯
theorem A41:m+2<=n->p+(40*n)<=8000->p+(40*(m+2))<=8000:=Z.R 0x41a07ea0f42f68001a3ea80007ea0f69068faa0001e90bda00007 [] [m,n,p] ⋯ ⋯
theorem A42:m+(10*(n+1))<=700->m+(10*n)<=700:=Z.R 0x4157cf692bea00015f3d07da402bea00007 [] [m,n] ⋯ ⋯
theorem A43:m+(40*(n+1))<=8000->m+1+1+(40*n)<=8000:=Z.R 0x411fa83da41a3e07d07da00000007ea0f41f69001a3ea00007 [] [m,n] ⋯ ⋯
theorem A44:m+(40*(n+1))<=8000->m+1+(40*n)<=8000:=Z.R 0x1047ea0f69068f81f68000007ea0f41f69001a3ea00007 [] [m,n] ⋯ ⋯
theorem A45:((m:Nat):Int)<a->¬(a<=((m:Nat):Int)):=Z.R 0x41a28a04a0212807da28100087 [a] [m] ⋯ ⋯
theorem A46:m+1<=n->p+(10*n)<=700->p+(10*m)<=700:=Z.R 0x104a57cf682bea80015f3da4afaa0001e907da00007 [] [m,n,p] ⋯ ⋯
theorem A47:m+1<=n->p+(40*n)<=8000->p+1+(40*m)<=8000:=Z.R 0x41a07ea0f68068f81f6a000007ea0f69068faa0001e907da00007 [] [m,n,p] ⋯ ⋯
theorem A48:m=n->n<64->m<=16777216:=Z.R 0x1040050820820f6800283d07da40007a68047 [] [m,n] ⋯ ⋯
theorem A49:m<64->n=p->p=m->n<=16777216:=Z.R 0x1001001050820820f69028a811eaa411c283d07da00007 [] [m,n,p] ⋯ ⋯
theorem A51: ¬(m<2)->(2:Nat)<=m:=Z.R 0x41a02f40a02f41f68000107 [] [m] ⋯ ⋯
theorem A52:a<b->b<c->a<c:=Z.R 0x1041a81f68002a81f690021e907da00087 [a,b,c] [] ⋯ ⋯
theorem A53:m<n->n<p->m<p:=Z.R 0x1041a81f68000a81f690001e907da00007 [] [m,n,p] ⋯ ⋯
theorem A57:(2:Nat)<=m->m=n->(1:Nat)<=n:=Z.R 0x100106907d029a011e80bd007 [] [m,n] ⋯ ⋯
theorem A59:m+(40*(n+1))<=8000->m+1<9900:=Z.R 0x1049d6cf41f41f68000007ea0f41f69001a3ea00007 [] [m,n] ⋯ ⋯
theorem A60:m<=n->p+(10*n)<=700->p+(10*m)<=700:=Z.R 0x41295f3da0afaa00057cf692bea80007a68007 [] [m,n,p] ⋯ ⋯
theorem A61:m<=n->p+(40*n)<=8000->p+(40*m)<=8000:=Z.R 0x41a07ea0f68068faa0001fa83da41a3ea80007a68007 [] [m,n,p] ⋯ ⋯
theorem A62: ¬(m<=63)->(63:Int)<((m:Nat):Int):=Z.R 0x41a28101f41ffd002a01ffda00107 [] [m] ⋯ ⋯
theorem A63:m<n+1->n<=m->m=n:=Z.R 0x1040040069a01a2900707da4007da00007 [] [m,n] ⋯ ⋯
theorem A64:m<n-1->n-1<n:=Z.R 0x100100000100004100002907d07da4100007da4107da00007 [] [m,n] ⋯ ⋯
theorem A65:m<n->n-1<=m->m=n-1:=Z.R 0x4000000104000104000100100000104000000104000104004000100000107da41a01a01f690401e907da00007 [] [m,n] ⋯ ⋯
theorem A66:m+(n+1)<=p->m<p:=Z.R 0x106a07da0002a07da40a00007 [] [m,n,p] ⋯ ⋯
theorem A67:m+(n+1)<=p->m-1<p:=Z.R 0x40041001a81f41f6804002a07da40a00007 [] [m,n,p] ⋯ ⋯
theorem A68:(1:Nat)<=m->m=m-1->False:=Z.R 0x4004004002807da01a011e807d007 [] [m] ⋯ ⋯
theorem A69:m<=m+(n+1):=Z.R 0x107da40a00a00 [] [m,n] ⋯ ⋯
theorem A70:(1:Nat)<=m+1:=Z.R 0x41f68001f40 [] [m] ⋯ ⋯
theorem A71:m+(n+1)<=p->m+1+n<=p:=Z.R 0x106aa41f6800002a07da40a00007 [] [m,n,p] ⋯ ⋯
theorem A72:(1:Nat)<=m->¬(m=m-1):=Z.R 0x4004004002807da01a0112807d007 [] [m] ⋯ ⋯
theorem A73:m<=n+1+p->m<=n+(p+1):=Z.R 0x1041f6a02902802a07da40028007 [] [m,n,p] ⋯ ⋯
theorem A74:m<n+(p+1)->m<n+1+p:=Z.R 0x106a07da40001f6800007da80a4007da00007 [] [m,n,p] ⋯ ⋯
theorem A75: ¬((0:Nat)<0):=Z.R 0x1a00f41f40f40004 [] [] ⋯ ⋯
theorem A76:(1:Nat)<=m->m-1=m->False:=Z.R 0x1000041000028a01f680411e807d007 [] [m] ⋯ ⋯
theorem A77:0+m-1-n=m-1-n:=Z.R 0x40000001000000040000001040000040000001000000040000041040000040001001000000040000001000000040001001000000040000041001000040000001000000040000001040000040000001000000040001001040000040001001001000040000041001000040001001040000040000001000000a41f68041a41f6803d001041 [] [m,n] ⋯ ⋯
theorem A78:m<n->n<p->p-1-n<p-1-m:=Z.R 0x40001040001000041001000001041000000041040000000041000000001040000000040000040001000040001040001000041001000001041000000041040040000041001000001041000000041000000001a01f6a04107da41f6a041000a81f690001e907da00007 [] [m,n,p] ⋯ ⋯
theorem A79:m<n->n-1-p<n:=Z.R 0x40001040001040040040000a41f6a07da4104002907da00007 [] [m,n,p] ⋯ ⋯
theorem A80:(1:Nat)<=m->1+(m-1)<=m:=Z.R 0x40041000a01f68041f4002807d007 [] [m] ⋯ ⋯
theorem A81:m<n->n<1->False:=Z.R 0x41a01f41f690001e907da00007 [] [m,n] ⋯ ⋯
theorem A82:(1:Nat)<=m->n<=1+(m-1)->n<=m:=Z.R 0x41001041000a29001f68041f40a401e807d007 [] [m,n] ⋯ ⋯
theorem A83:m<=1+(n-1)->(1:Nat)<m->(0:Nat)<n:=Z.R 0x4100100006907d03d000a01f41f4000707da4107d028007 [] [m,n] ⋯ ⋯
theorem A84:m<=1+(n-1)->(1:Nat)<m->m-1<n:=Z.R 0x4100000004100100000104000102907d07da01000a01f41f4000707da4107d028007 [] [m,n] ⋯ ⋯
theorem A85:(1:Nat)<m->(0:Nat)=m-1->False:=Z.R 0x104100006807da0103d047a01f41f40007 [] [m] ⋯ ⋯
theorem A86:(1:Nat)<m->(0:Nat)<m-1:=Z.R 0x104100107da0107d03d000a01f41f40007 [] [m] ⋯ ⋯
theorem A87:(1:Nat)<m->m-1<m:=Z.R 0x4104002807d07da01000a01f41f40007 [] [m] ⋯ ⋯
theorem A88:m<=1+(n-1)->(1:Nat)<m->m<=n:=Z.R 0x41001001029a00a01f41f4000707da4107d028007 [] [m,n] ⋯ ⋯
theorem A89:(1:Nat)<=m->¬((1:Nat)<m)->m=1:=Z.R 0x1001041001f68068a01f41f400041e807d007 [] [m] ⋯ ⋯
theorem A90:m<n->n<2->n=1:=Z.R 0x1001041001f69042f41f690001e907da00007 [] [m,n] ⋯ ⋯
theorem A91:m<1->m=0:=Z.R 0x4004103da0107d07da00007 [] [m] ⋯ ⋯
theorem A92:(1:Nat)<=m->¬((1:Nat)=m)->(1:Nat)<1+(m-1):=Z.R 0x41001001000001040001041f68041f4007d07d000a2807d0441e807d007 [] [m] ⋯ ⋯
theorem A93:(1:Nat)<=2:=Z.R 0x42f41f40 [] [] ⋯ ⋯
theorem A94:(1:Nat)<=m->¬((1:Nat)=m)->2+(m-(1+1))<=m:=Z.R 0x40040040000000041040000a01f41f40a010bd000a2807d0441e807d007 [] [m] ⋯ ⋯
theorem A95:m=0->¬((0:Nat)<m):=Z.R 0x1001a2807d03d000100f68047 [] [m] ⋯ ⋯
theorem A96:(1:Nat)<=m->¬((1:Nat)=m)->n<=2+(m-(1+1))->n<=m:=Z.R 0x41001001040000000001041040000a29001f41f40a010bd029007a2807d0441e807d007 [] [m,n] ⋯ ⋯
theorem A97:(2:Nat)<=m->(1:Nat)<=m:=Z.R 0x106807d0280bd007 [] [m] ⋯ ⋯
theorem A98:m<=n->m+(n-m)<=n:=Z.R 0x1001040029a29068000a68007 [] [m,n] ⋯ ⋯
theorem A99:(2:Nat)<=m->m<=n->(1:Nat)<=n:=Z.R 0x4106907d029a001e80bd007 [] [m,n] ⋯ ⋯
theorem A100:m<=n->p<=m+(n-m)->p<=n:=Z.R 0x1040041040029a80a2906802a007a68007 [] [m,n,p] ⋯ ⋯
theorem A101:m<=n->n<=p->m<=p:=Z.R 0x4106aa00aa9007a68007 [] [m,n,p] ⋯ ⋯
theorem A102:m-n<=0->n<=p->m<=p:=Z.R 0x41001041040aa802aa401c0f69a01007 [] [m,n,p] ⋯ ⋯
theorem A103:m-n<=m:=Z.R 0x1001028a68040 [] [m,n] ⋯ ⋯
theorem A104:m<=n->n-(n-m)=m:=Z.R 0x1040041000001000041001001040001000001000001000028a29069041a68007 [] [m,n] ⋯ ⋯
theorem A105:m+0=n->m=n:=Z.R 0x41001001a6806903da00047 [] [m,n] ⋯ ⋯
theorem A106:m+(n+1)=p->m<p:=Z.R 0x4006a07da0002a07da40a00047 [] [m,n,p] ⋯ ⋯
theorem A107:m-0<=m:=Z.R 0x40040a00f68040 [] [m] ⋯ ⋯
theorem A108:m<n->¬(n<=m):=Z.R 0x41a28a4012907da00007 [] [m,n] ⋯ ⋯
theorem A109:m+(n+1)=p->m+1+n=p:=Z.R 0x104004006aa41f6800006a07da40a00047 [] [m,n,p] ⋯ ⋯
theorem A110:m<n->m=p->¬(n=p):=Z.R 0x41001a2aa4112aa011e907da00007 [] [m,n,p] ⋯ ⋯
theorem A111:m<n->n<p+1->m=q->(q<n)/\(n<=p):=Z.R 0x100004004100006aa40a41f6b00016ba011c1f6a001f690001e907da00007 [] [m,n,p,q] ⋯ ⋯
theorem A112:m<n->m=p->p<=n-1:=Z.R 0x1041001040040041f6906a02aa011e907da00007 [] [m,n,p] ⋯ ⋯
theorem A113:m<n->n<p+1->n-1<p:=Z.R 0x40041040040a81f41f69040001f6a001f690001e907da00007 [] [m,n,p] ⋯ ⋯
theorem A114:m<n->((p<m)/\(m<=q))->¬(n=p):=Z.R 0x1001068aa9044ae802807da800051e907da00007 [] [m,n,p,q] ⋯ ⋯
theorem A115:m<n->n<p+1->((q<m)/\(m<=p))->(q<n)/\(n<=p):=Z.R 0x40001001001001aa902907dac0005aa802807dac00051c1f6a001f690001e907da00007 [] [m,n,p,q] ⋯ ⋯
theorem A116:m<n->((p<m)/\(m<=q))->m-1<n-1:=Z.R 0x100004104000004104100000104000000107da4107d07da01000ae802807da800051e907da00007 [] [m,n,p,q] ⋯ ⋯
theorem A117:m<n+1->((p<q)/\(q<=n))->m-1<n:=Z.R 0x40041001000001a41f41f68040029ac0ac1f6a00014707da4007da00007 [] [m,n,p,q] ⋯ ⋯
theorem A118:m<n->n=p->m<p:=Z.R 0x100106a07da0002aa411e907da00007 [] [m,n,p] ⋯ ⋯
theorem A119:m<n->¬(m=p)->(¬((p<m)/\(m<=q)))->((p<n)/\(n<=q))->m<p:=Z.R 0x4004004100000100004004004000004102a07da0002ba40a41f6a000147a2ba00a01f6a0001441e8aa80441e907da00007 [] [m,n,p,q] ⋯ ⋯
theorem A120:((m<n)/\(n<=p))->q<m->q<n-1:=Z.R 0x41001040040041f69041f6b000a01f6b0001eaa40a41f68000147 [] [m,n,p,q] ⋯ ⋯
theorem A121:((m<n)/\(n<=p))->n-1<p:=Z.R 0x40041040040a81f41f6904002aa40a41f68000147 [] [m,n,p] ⋯ ⋯
theorem A122:m<=n->p<n+1->¬(p=m)->(¬((m<p)/\(p<=n)))->p<n:=Z.R 0x4004004004004004004000104002907da80028a6a02a07da00005107a28a8110707da4007da80007a68007 [] [m,n,p] ⋯ ⋯
theorem A123:(1:Nat)<=m->max m 1=m:=Z.R 0x104004004100004002807da0206807d007 [] [m] ⋯ ⋯
theorem A124:m<n->m+(n-m)=n:=Z.R 0x1040041040001000a68a41a0006907da00007 [] [m,n] ⋯ ⋯
theorem A125:m<=n->¬(m<n)->m=n:=Z.R 0x41001001a68068a41f68000107a68007 [] [m,n] ⋯ ⋯
theorem A126:a<b->b<a->False:=Z.R 0x1068a01f690021e907da00087 [a,b] [] ⋯ ⋯
theorem A127: ¬(a<b)->¬(b=a)->b<a:=Z.R 0x104000106807da400a8a290c41e8a41f68002107 [a,b] [] ⋯ ⋯
theorem A128:a<=b+1->a<=b-0+1:=Z.R 0x4107d03da41028081f69028087 [a,b] [] ⋯ ⋯
theorem A129:a-(b+1)=a-1-b:=Z.R 0x106907da01041f69028043 [a,b] [] ⋯ ⋯
theorem A130:a=b->c-1-b+1+a=c:=Z.R 0x104004006aa01f6907da81040003a680c7 [a,b,c] [] ⋯ ⋯
theorem A131:a-1-b+1+c=a->d-1-b+1+c=d:=Z.R 0x104004006ba81f6907dac1040003a2a07da41f680410000c7 [a,b,c,d] [] ⋯ ⋯
theorem A132:a<b+1->¬(a=b)->a<b:=Z.R 0x41000041a41f68002a29a0310707da4007da00087 [a,b] [] ⋯ ⋯
theorem A133:a<b->(0:Int)<=b-1-a:=Z.R 0x41a01f6904103d0a907da00087 [a,b] [] ⋯ ⋯
theorem A134:(0:Int)<=a->b-1-a<b:=Z.R 0x41a41f6807da410400a803d087 [a,b] [] ⋯ ⋯
theorem A135:a+b=c+1->a+(b-1-d)=c-d:=Z.R 0x104004006ba81ac1f69041a000c1f6a029a000c7 [a,b,c,d] [] ⋯ ⋯
theorem A136:a<b->c+(b-1-a)=d-a->e<=c->e<=d-a:=Z.R 0x41001068ac1b02aac087a2b06807da4106a0031e907da00087 [a,b,c,d,e] [] ⋯ ⋯
theorem A137:a<=b->a+0<=b:=Z.R 0x41a40f68002a68087 [a,b] [] ⋯ ⋯
theorem A138:(0:Int)<a->(0:Int)<=a-1:=Z.R 0x1041f68040f42a01f40f40087 [a] [] ⋯ ⋯
theorem A139:a-1<a:=Z.R 0x6807d07da01002 [a] [] ⋯ ⋯
theorem A140:((a+b<=c)∨((a+b=c+1)/\(d+b<=e)))->(¬((a+b<=c)∨((a+b=c+1)/\(d+b<=f))))->a+(b-1)=c:=Z.R 0x40040000040000001040040000001040000040040000001000001000041000041000041000041000041000041a81f69068003a2da6b00207da80a6800316aa680021841eca6b00207da80a6800316aa68002187 [a,b,c,d,e,f] [] ⋯ ⋯
theorem A141:(¬((a+b<=c)∨((a+b=c+1)/\(d+b<=e))))->a+(b-1)=c->e<=d+(b-1):=Z.R 0x100004000100100000104007da41ac0b02a81f690680031e8b29ac0081f6a029a000c5aa9a00086107 [a,b,c,d,e] [] ⋯ ⋯
theorem A142:((a+b<=c)∨((a+b=c+1)/\(d+b<=e)))->a+(b-1)=c->d+(b-1)<e:=Z.R 0x100004000004006c07d07da41ac0002a81f690680031eca6b00207da80a6800316aa68002187 [a,b,c,d,e] [] ⋯ ⋯
theorem A143:(0:Int)<a->b<=c->b<=c+(a-1):=Z.R 0x104107da01a80a42aa9087a01f40f40087 [a,b,c] [] ⋯ ⋯
theorem A144:a+b<=c->a+(b-1)<c:=Z.R 0x106a07d07da41a00002aa9a00087 [a,b,c] [] ⋯ ⋯
theorem A145:a<b->a-c+1+c<=b:=Z.R 0x1069a81f6aa010000a907da00087 [a,b,c] [] ⋯ ⋯
theorem A146:(0:Int)<a->a=0->False:=Z.R 0x41a00f680c7a01f40f40087 [a] [] ⋯ ⋯
theorem A147:a-b+1+b=a+1:=Z.R 0x1041f6802907da68040003 [a,b] [] ⋯ ⋯
theorem A148:a-b+1+b<=a+1:=Z.R 0x41f6802907da68040002 [a,b] [] ⋯ ⋯
theorem A149:((a+b=c+1)/\(d+b=e+1))->b=f->c-f+1=a:=Z.R 0x41000000041001000040a01f6da81003b690c707db00a6b00307da80a68003147 [a,b,c,d,e,f] [] ⋯ ⋯
theorem A150:((a+b=c+1)/\(d+b=e+1))->b=f->e-f+1<=d:=Z.R 0x1001040000ac1f6db01002b690c707db00a6b00307da80a68003147 [a,b,c,d,e,f] [] ⋯ ⋯
theorem A151:((a+b=c+1)/\(d+b<=e))->d+b<=e+1:=Z.R 0x1040001f6c029ac00aca6b00207da80a68003147 [a,b,c,d,e] [] ⋯ ⋯
theorem A152:((a+b=c+1)/\(d+b=e+1))->b=f->g+f<=c->g<a:=Z.R 0x41001000040a01f6e002aadb80087b690c707db00a6b00307da80a68003147 [a,b,c,d,e,f,g] [] ⋯ ⋯
theorem A153:((a+b=c+1)/\(d+b=e+1))->b=f->((g+f=c+1)/\(h+f<=e))->g=a:=Z.R 0x40040040000001040001001000040a2e0ecb6f00207da80b6e003147b690c707db00a6b00307da80a68003147 [a,b,c,d,e,f,g,h] [] ⋯ ⋯
theorem A154:((a+b=c+1)/\(d+b=e+1))->b=f->((g+f=c+1)/\(h+f<=e))->h<=d:=Z.R 0x41000001040000aef0acb6f00207da80b6e003147b690c707db00a6b00307da80a68003147 [a,b,c,d,e,f,g,h] [] ⋯ ⋯
theorem A155:a<=b->((c<=d)/\((d<a)/\((e<=f)/\(g=h))))->d<b:=Z.R 0x4000004006907dac00afb83b6c085a01f6b00216ba82147a68087 [a,b,c,d,e,f,g,h] [] ⋯ ⋯
theorem A156:a<a+1:=Z.R 0x41f68001f68002 [a] [] ⋯ ⋯
theorem A157:((a<=b)/\((b<c)/\((d<=e)/\(f=g))))->b<c+1:=Z.R 0x4000004007da8007da400aeb43b2b085a81f69002169a02147 [a,b,c,d,e,f,g] [] ⋯ ⋯
theorem A158: ¬(a=b)->((c<=a)/\((a<b+1)/\((d<=e)/\(f=g))))->a<b:=Z.R 0x40000000040000001001a41f68002bad0ecac2141f69001f68002168a82147a29a03107 [a,b,c,d,e,f,g] [] ⋯ ⋯
theorem A159:a<=b->a<=b-1+1:=Z.R 0x1041f41f69040a02a68087 [a,b] [] ⋯ ⋯
theorem A160:a<b->a-1<b:=Z.R 0x41a41f41f680400a907da00087 [a,b] [] ⋯ ⋯
theorem A161:((a<b)∨(c<=d))->¬((d<=e)/\((e<c)/\((b<=a)/\(f=g)))):=Z.R 0x41040001000068bad0e8a4216a07db00085b2b08512ba82a41f68002187 [a,b,c,d,e,f,g] [] ⋯ ⋯
theorem A162:a+((0:Nat):Int)=b->a=b:=Z.R 0x41001001a680e9a00f44a000c7 [a,b] [] ⋯ ⋯
theorem A163:a+((m+1:Nat):Int)=b->a<b:=Z.R 0x4006907da000a9a01f68004a000c7 [a,b] [m] ⋯ ⋯
theorem A164:a+((m+1:Nat):Int)=b->a+1+((m:Nat):Int)=b:=Z.R 0x1040040069a28101f680000e9a01f68004a000c7 [a,b] [m] ⋯ ⋯
theorem A165:(0:Int)<=a->((-1000000):Int)<a:=Z.R 0x106807da1ec3283d1400a803d087 [a] [] ⋯ ⋯
theorem A166:a<((m:Nat):Int)->m<1000000->a<1000000:=Z.R 0x10417b0ca0f41f680027b0ca0f41f680001e8a0407da00087 [a] [m] ⋯ ⋯
theorem A167:a<=b->b+1+((m:Nat):Int)<=((n:Nat):Int)->a+((m+1:Nat):Int)<=((n:Nat):Int):=Z.R 0x41068a44a01f68004a000a8a44a28101f69000087a68087 [a,b] [m,n] ⋯ ⋯
theorem A168:a<=b->a+((Int.toNat (b-a):Nat):Int)=b:=Z.R 0x1040040041000040029a28a29044128003a68087 [a,b] [] ⋯ ⋯
theorem A169:a<b->a<=b-1:=Z.R 0x1041f690680a907da00087 [a,b] [] ⋯ ⋯
theorem A170:a+b<=c->a-1+(b+1)<=c:=Z.R 0x106a07da4007da01002aa9a00087 [a,b,c] [] ⋯ ⋯
theorem A171:(0:Int)<=a->(0:Int)<=a+1:=Z.R 0x4107da0003d0a803d087 [a] [] ⋯ ⋯
theorem A172:(0:Int)<=a->(0:Int)<a+1:=Z.R 0x1041f68001f40f400a803d087 [a] [] ⋯ ⋯
theorem A173:(0:Int)<=a->¬(a=0)->(0:Int)<=a-1:=Z.R 0x41041001f68040f42a00f680c41e803d087 [a] [] ⋯ ⋯
theorem A174:a<b+1->a-1<b:=Z.R 0x106907d07da0100207da4007da00087 [a,b] [] ⋯ ⋯
theorem A175:a-1+b=a+(b-1):=Z.R 0x1041f6906802907da01003 [a,b] [] ⋯ ⋯
theorem A176:a<=b->a<=b:=Z.R 0x1069a02a68087 [a,b] [] ⋯ ⋯
theorem A177:a+b<c->a+(b+1)<=c:=Z.R 0x106a07da40a000aa07da68000087 [a,b,c] [] ⋯ ⋯
theorem A178:(0:Int)<=a->a<b->(0:Int)<=b-1:=Z.R 0x41041f69040f42a41f680021e803d087 [a,b] [] ⋯ ⋯
theorem A179:a+b<=c->(0:Int)<=b->c<=((m:Nat):Int)->a-1<((m:Nat):Int):=Z.R 0x41041a28101f41f680400a8a04a821e903d087aa9a00087 [a,b,c] [m] ⋯ ⋯
theorem A180:a<=b->(0:Int)<=c->(0:Int)<=a->(0:Int)<=b+c:=Z.R 0x41041aa9000f42a00f421ea03d087a68087 [a,b,c] [] ⋯ ⋯
theorem A181:a<=((m:Nat):Int)->b+c<a->b+c<((m:Nat):Int):=Z.R 0x41068a0407daa90000a807daa9000087a28128087 [a,b,c] [m] ⋯ ⋯
theorem A182:m<200->¬((200:Int)<=((m:Nat):Int)):=Z.R 0x41a28a041a8f42106a3d07da00007 [] [m] ⋯ ⋯
theorem A183:(0:Int)<a->b<=c->c+a<=d->m<=2*(Int.toNat (c-b))+1+n->p<=2*(Int.toNat (d-(c+a)))+1+m->q=2*(Int.toNat (d-b))+1+n->p+1<=q:=Z.R 0x400000010410410000400400820800000400000010410410000400400020800000400000410010410000400400800800000400000410010410000400400000ab07da8002907da29ac1102f8002b047a01f68a2a02b0440be000a801e907da29a81102f80028007ae8a80087aa9087a01f40f40087 [a,b,c,d] [m,n,p,q] ⋯ ⋯
theorem A184:m+n<=1000->p<=n->p<1000000:=Z.R 0x10417b0ca0f41f6a000a6a0077e8f69a00007 [] [m,n,p] ⋯ ⋯
theorem A185:m<=n->(1:Nat)<=p->m=p+q->q<n:=Z.R 0x4100106907dac002ba80a011ea07d007a68007 [] [m,n,p,q] ⋯ ⋯
theorem A186:m+n<=1000->n=p+q->m+q<=1000:=Z.R 0x104005fa3dae8000aea0290477e8f69a00007 [] [m,n,p,q] ⋯ ⋯
theorem A187: ¬(a=0)->(0:Int)<=a->(0:Int)<a:=Z.R 0x4104006807d03d002a00f421e803da03107 [a] [] ⋯ ⋯
theorem A188:m+n<=1000->m<1000000:=Z.R 0x417b0ca0f41f680007e8f69a00007 [] [m,n] ⋯ ⋯
theorem A189:m+n<=1000->p+1<=n->m+1+p<=1000:=Z.R 0x4105fa3da81f6800002907da800077e8f69a00007 [] [m,n,p] ⋯ ⋯
theorem A190:m+(n+1)<=1000->m+n<=1000:=Z.R 0x417e8f69a0001fa3d07da40a00007 [] [m,n] ⋯ ⋯
theorem A191:m+(n+1)<=1000->m<1000000:=Z.R 0x105ec3283d07da0001fa3d07da40a00007 [] [m,n] ⋯ ⋯
theorem A192:m+(n+1)<=1000->m+1+n<=1000:=Z.R 0x105fa3da41f6800001fa3d07da40a00007 [] [m,n] ⋯ ⋯
theorem A193:m+0<=1000->m<999999:=Z.R 0x105ec31ffd07da0001fa3d03da00007 [] [m] ⋯ ⋯
theorem A194:m+n<=1000->p<=1->q=m+p->q+1<1000000:=Z.R 0x10010417b0ca0f41f41f6b00002aa00ac11c1f6a0077e8f69a00007 [] [m,n,p,q] ⋯ ⋯
theorem A197:m+(2*(n+1))<=100000->m<999999:=Z.R 0x105ec31ffd07da0000387583d07da400bea00007 [] [m,n] ⋯ ⋯
theorem A198:m+(2*(n+1))<=100000->p<=1->q<=1->m+(p+q)+(2*n)<=100000:=Z.R 0x410410e1d60f690beaea028000001f6b00707da801c387583d07da400bea00007 [] [m,n,p,q] ⋯ ⋯
theorem A200:m<=1000->0+(2*m)<=100000:=Z.R 0x420e1d60f680be03d0007e8f68007 [] [m] ⋯ ⋯
theorem A201:a<=b->b+c+((m:Nat):Int)<=((n:Nat):Int)->(0:Int)<c->a+((m+1:Nat):Int)<=((n:Nat):Int):=Z.R 0x41041a2912807da00128002a81f40f40087a29128a04aa9000087a68087 [a,b,c] [m,n] ⋯ ⋯
theorem A202:0+((m:Nat):Int)<=((n:Nat):Int)->m<=n:=Z.R 0x41a68028a44a28100f40087 [] [m,n] ⋯ ⋯
theorem A204: ¬(((m+1+1:Nat):Int)=1):=Z.R 0x1a01f6807d07da000040c4 [] [m] ⋯ ⋯
theorem A205:m+0<=1000->m<1000000:=Z.R 0x105ec3283d07da0001fa3d03da00007 [] [m] ⋯ ⋯
theorem A206:m<=900->1+(m-n)<=1000:=Z.R 0x400010017e8f69a0107d000724f68007 [] [m,n] ⋯ ⋯
theorem A207:m<=n->p<=900->n<q->q<=p->m<1000000:=Z.R 0x4104105ec3283d07da0002aac01eb07da40007724f6a007a68007 [] [m,n,p,q] ⋯ ⋯
theorem A208:m-n<p+1->n<q->q<=m->m-q<p:=Z.R 0x104004000104004100104100100004102a07dae8040028ac01eb07da4000707da8007da68040007 [] [m,n,p,q] ⋯ ⋯
theorem A209:m<=n->n<p->m+1<=p:=Z.R 0x4106a07da0002a07da40007a68007 [] [m,n,p] ⋯ ⋯
theorem A210:m<=n->n<=p->p<=900->m<1000000:=Z.R 0x410417b0ca0f41f68000724f6a007aa9007a68007 [] [m,n,p] ⋯ ⋯
theorem A211:(-1)+((m+1:Nat):Int)=((m:Nat):Int):=Z.R 0x1068a04a01f68004a01f45003 [] [m] ⋯ ⋯
theorem A212:((m:Nat):Int)<((m+1:Nat):Int):=Z.R 0x6807da00101f68a04002 [] [m] ⋯ ⋯
theorem A213:(0:Int)<((m+1:Nat):Int):=Z.R 0x1a01f6800407d03d002 [] [m] ⋯ ⋯
theorem A214:a+b-a=b:=Z.R 0x1069a29a00043 [a,b] [] ⋯ ⋯
theorem A215:(0:Int)<=a->¬(a+a<min b (c+a)-c):=Z.R 0x1041040068aa8a80a43041f68a0000212803d087 [a,b,c] [] ⋯ ⋯
theorem A216:a=0->a=((m:Nat):Int)->m=0:=Z.R 0x1000000041000040f68068a04a031c0f680c7 [a] [m] ⋯ ⋯
theorem A217:a=((m:Nat):Int)->a=((n:Nat):Int)->m=n:=Z.R 0x1040001040041029a01a291280c7a281280c7 [a] [m,n] ⋯ ⋯
theorem A218:a=((m:Nat):Int)->n<m->((n:Nat):Int)<a:=Z.R 0x104102807da291000a807da40007a281280c7 [a] [m,n] ⋯ ⋯
theorem A219:(0:Int)<=a->¬(a+a<b-(max c (b-a))):=Z.R 0x1001041068a2906a0a9041f68a0000212803d087 [a,b,c] [] ⋯ ⋯
theorem A248:m+(n+p)<1000000->m+n<1000000:=Z.R 0x105ec3283d07da6800001ec3283d07daa9028000007 [] [m,n,p] ⋯ ⋯
theorem A249:m+(n+p)<1000000->m+n+p<1000000:=Z.R 0x105ec3283d07daa9a0000001ec3283d07daa9028000007 [] [m,n,p] ⋯ ⋯
theorem A258:m<100000->m<1000000:=Z.R 0x105ec3283d07da0000387583d07da00007 [] [m] ⋯ ⋯
theorem A263:m<1000000->((m:Nat):Int)<1000000:=Z.R 0x105ec3283d07da2810009ec3283d07da00007 [] [m] ⋯ ⋯
theorem A264:((-1000000):Int)<((m:Nat):Int):=Z.R 0x1a28101f687b0ca0f45002 [] [m] ⋯ ⋯
theorem A265:m<100000->n<m->((n:Nat):Int)<1000000:=Z.R 0x10417b0ca0f41f68a44002a01f690001c387583d07da00007 [] [m,n] ⋯ ⋯
theorem A266:m<n->((m:Nat):Int)<((n:Nat):Int):=Z.R 0x1068a4407da281000a907da00007 [] [m,n] ⋯ ⋯
theorem A310:m<=200->m<1000000:=Z.R 0x417b0ca0f41f680001a8f68007 [] [m] ⋯ ⋯
theorem A311:m<=201->0+m<=1000:=Z.R 0x417e8f6803d0001a9f68007 [] [m] ⋯ ⋯
theorem A312:m<=201->m-n<1999:=Z.R 0x1000040041faff41f69a010001a9f68007 [] [m,n] ⋯ ⋯
theorem AF0:(-(1000000:Int))<a->b<(1000000:Int)->(Int.toNat (a-b))<(2000000:Nat)->(((((-(9223372036854775808:Int))<=a)/\(a<(9223372036854775808:Int)))/\(((-(9223372036854775808:Int))<=b)/\(b<(9223372036854775808:Int))))/\(((-(9223372036854775808:Int))<=(max (a-b) (0:Int)))/\((max (a-b) (0:Int))<(9223372036854775808:Int))))/\(((max (a-b) (0:Int))=(0:Int))∨(((-(9223372036854775808:Int))<=b)/\(b<(9223372036854775808:Int)))):=Z.R 0x40000000001000000000040000000001000000000041000000001040000000040001000001000040001000000001000040001000000001000001041000040040040041001040040000040040000000001000000000040000000001000000000040001000001000040001000000040040001000041000000001001000001000000001000001041000040041000041040040040000048820820820820820820f41f69002a6822082082082082082083d142140f40f69a01083188820820820820820820f41f40f69a01080080f69a010a822082082082082082083d142148820820820820820820f41f69002a6822082082082082082083d142148820820820820820820f41f68002a2822082082082082082083d14214514507d86483d07da29a011000077b0ca0f41f690021e807da1ec3283d140087 [a,b] [] ⋯ ⋯
theorem AF1:a<(1000000:Int)->(-(1000000:Int))<b->(Int.toNat (a-b))<(2000000:Nat):=Z.R 0x1000001001041f61920f41f68a68044000a41f687b0ca0f450021dec3283d07da00087 [a,b] [] ⋯ ⋯
end
section
inductive V where
 |none |bool (b:Bool) |int (i:Int) |str (s:Str)
 |tup (vs:List V) |mat (i j k:Int)
 |ref (n:Nat) |dget (n:Nat) |scon (n:Nat) |rng (a b c:Int) |raw (a:Addr)
 deriving Inhabited
inductive Gn where
 |fresh (lo:Str->Option V)
 |loop (it:Nat) (lo:Str->Option V)
 |last (lo:Str->Option V)
 |run
 |fin
 deriving Inhabited
inductive MO where
 |list (vs:List V) |ro (vs:List V)
 |dict (n:Nat) (f:Int->Option V) |eset
 |inst (fs:Str->Option V)
 |gen (g:Gn)
 |itr (o:Option (Nat×Nat))
 deriving Inhabited
noncomputable abbrev MH:=List MO
structure Lc where
 a:Addr
 d:Addr
 g:Option Nat:=none
def Lc.has(l:Lc)(b:Addr):Prop:=b=l.a∨b=l.d
def Own(ρ:List Lc)(b:Addr):Prop:=∃ l∈ρ,l.has b
def aS(o:Obj):Prop:=match o.data with
 | .seq _ _=>o.cls≠ .type "list"
 | .fields _=>o.cls= .type "builtin_function_or_method" ∨o.cls= .type "range"
 |_=>False
def Imm(h h':Heap):Prop:=∀ b o,h.get? b=some o->aS o->h'.get? b=some o
theorem Imm.refl(h:Heap):Imm h h:=λ_ _ e _=>e
theorem Imm.trans{h1 h2 h3:Heap}(a:Imm h1 h2)(b:Imm h2 h3):Imm h1 h3:=λx o e i=>b x o (a x o e i) i
noncomputable abbrev aE:Addr:=135
noncomputable abbrev dT:Addr:=242
mutual
inductive VR(ρ:List Lc)(h:Heap):Value->V->Prop
 |none:VR ρ h .none .none
 |bool (b):VR ρ h (.bool b) (.bool b)
 |int (i t):VR ρ h (.int i t) (.int i)
 |str (s t):VR ρ h (.str s t) (.str s)
 |tup {a xs n vs}:h.get? a=some {cls:=.type "tuple",data:=.seq xs n}->VRs ρ h xs.toList vs->VR ρ h (.ref a) (.tup vs)
 |mat {a n i j k t u v dd}:h.get? a=some {cls:=.ref aE,dict:=dd,data:=.seq #[.int i t,.int j u,.int k v] n}->VR ρ h (.ref a) (.mat i j k)
 |ref {n l}:ρ[n]? =some l->VR ρ h (.ref l.a) (.ref n)
 |dget {a n l}:ρ[n]? =some l->h.get? a=some {cls:=.type "builtin_function_or_method",data:=.fields #[.builtin "dict.get",.ref l.a]}->VR ρ h (.ref a) (.dget n)
 |scon {a n l}:ρ[n]? =some l->h.get? a=some {cls:=.type "builtin_function_or_method",data:=.fields #[.builtin "set.__contains__",.ref l.a]}->VR ρ h (.ref a) (.scon n)
 |rng {a i j k t u v}:IsRange h a i j k t u v->VR ρ h (.ref a) (.rng i j k)
 |raw (a):VR ρ h (.ref a) (.raw a)
inductive VRs(ρ:List Lc)(h:Heap):List Value->List V->Prop
 |nil:VRs ρ h [] []
 |cons {u us v vs}:VR ρ h u v->VRs ρ h us vs->VRs ρ h (u :: us) (v :: vs)
end
theorem aI{α:Type}{a:α}{P:Prop}(e:none=some a):P:=nomatch e
def VRI(ρ:List Lc)(h:Heap)(x:Value):V->Prop
 | .none=>x= .none
 | .bool b=>x= .bool b
 | .int i=>∃ t,x= .int i t
 | .str s=>∃ t,x= .str s t
 | .tup vs=>∃ a xs n,x= .ref a/\h.get? a=some {cls:=.type "tuple",data:=.seq xs n}/\VRs ρ h xs.toList vs
 | .mat i j k=>∃ a n t u v dd,x= .ref a/\h.get? a=some {cls:=.ref aE,dict:=dd,data:=.seq #[.int i t,.int j u,.int k v] n}
 | .ref n=>∃ l,x= .ref l.a/\ρ[n]? =some l
 | .dget n=>∃ a l,x= .ref a/\ρ[n]? =some l/\h.get? a=some {cls:=.type "builtin_function_or_method",data:=.fields #[.builtin "dict.get",.ref l.a]}
 | .scon n=>∃ a l,x= .ref a/\ρ[n]? =some l/\h.get? a=some {cls:=.type "builtin_function_or_method",data:=.fields #[.builtin "set.__contains__",.ref l.a]}
 | .rng i j k=>∃ a t u v,x= .ref a/\IsRange h a i j k t u v
 | .raw a=>x= .ref a
theorem VR.inv{ρ:List Lc}{h:Heap}{u:Value}{v:V}(r:VR ρ h u v):VRI ρ h u v:=by
 cases r with
 |none=>exact rfl
 |bool=>exact rfl
 |int i t=>exact⟨t,rfl⟩
 |str s t=>exact⟨t,rfl⟩
 |tup g rs=>exact⟨_,_,_,rfl,g,rs⟩
 |mat g=>exact⟨_,_,_,_,_,_,rfl,g⟩
 |ref g=>exact⟨_,rfl,g⟩
 |dget g g'=>exact⟨_,_,rfl,g,g'⟩
 |scon g g'=>exact⟨_,_,rfl,g,g'⟩
 |rng g=>exact⟨_,_,_,_,rfl,g⟩
 |raw=>exact rfl
theorem aL{ρ ρ':List Lc}(e:ρ<+:ρ'){n:Nat}{l:Lc}(h:ρ[n]? =some l):ρ'[n]? =some l:=by
 refine xE e λt z1=>?_;clear e;subst z1
 rw [List.getElem?_append_left (List.getElem?_eq_some_iff.mp h).1];exact h
theorem VR.mono{ρ ρ':List Lc}{h h':Heap}(e:ρ<+:ρ')(i:Imm h h'){u:Value}{v:V}(r:VR ρ h u v):VR ρ' h' u v:=by
 refine VR.rec (motive_1:=λu v _=>VR ρ' h' u v) (motive_2:=λus vs _=>VRs ρ' h' us vs) .none .bool .int .str ?_ ?_ ?_ ?_ ?_ ?_ .raw .nil ?_ r
 ·intro a xs n vs g _ ih;exact .tup (i _ _ g (by simp [aS])) ih
 ·intro a n x y z t u v dd g;exact .mat (i _ _ g (by simp [aS]))
 ·intro n l g;exact .ref (aL e g)
 ·intro a n l g g';exact .dget (aL e g) (i _ _ g' (by simp [aS]))
 ·intro a n l g g';exact .scon (aL e g) (i _ _ g' (by simp [aS]))
 ·intro a x y z t u v g;exact .rng (i _ _ g (by simp [aS]))
 ·intro u us v vs _ _ a b;exact .cons a b
theorem VRs.ind{ρ:List Lc}{h:Heap}{P:List Value->List V->Prop}(n:P [] [])(c:∀ {u us v vs},VR ρ h u v->VRs ρ h us vs->P us vs->P (u :: us) (v :: vs)){us:List Value}{vs:List V}(r:VRs ρ h us vs):P us vs:=
 VRs.rec (motive_1:=λ_ _ _=>True) (motive_2:=λus vs _=>P us vs) trivial (λ_=>trivial) (λ_ _=>trivial) (λ_ _=>trivial) (λ_ _ _=>trivial) (λ_=>trivial) (λ_=>trivial) (λ_ _=>trivial) (λ_ _=>trivial) (λ_=>trivial) (λ_=>trivial) n (λa b _ ih=>c a b ih) r
theorem VRs.mono{ρ ρ':List Lc}{h h':Heap}(e:ρ<+:ρ')(i:Imm h h'){us:List Value}{vs:List V}(r:VRs ρ h us vs):VRs ρ' h' us vs:=r.ind (P:=λus vs=>VRs ρ' h' us vs) .nil λa _ ih=>.cons (a.mono e i) ih
theorem VRs.length{ρ:List Lc}{h:Heap}{us:List Value}{vs:List V}(r:VRs ρ h us vs):us.length=vs.length:=r.ind (P:=λus vs=>us.length=vs.length) rfl λ_ _ ih=>congrArg Nat.succ ih
theorem VRs.get{ρ:List Lc}{h:Heap}{us:List Value}{vs:List V}(r:VRs ρ h us vs):∀ {i:Nat}{v:V},vs[i]? =some v->∃ u,us[i]? =some u/\VR ρ h u v:=
 r.ind (P:=λus vs=>∀ {i:Nat}{v:V},vs[i]? =some v->∃ u,us[i]? =some u/\VR ρ h u v) (λe=>aI (List.getElem?_nil.symm.trans e)) λ{u us v vs} a _ ih {i w} e=>by
  cases i with
  |zero=>exact⟨u,rfl,Option.some.inj e▸a⟩
  |succ i=>exact ih e
theorem VRs.append{ρ:List Lc}{h:Heap}{us us':List Value}{vs vs':List V}(r:VRs ρ h us vs)(b:VRs ρ h us' vs'):VRs ρ h (us++us') (vs++vs'):=
 r.ind (P:=λus vs=>VRs ρ h (us++us') (vs++vs')) b λa _ ih=>.cons a ih
def OV(ρ:List Lc)(h:Heap):Option Value->Option V->Prop
 |none,none=>True
 |some u,some v=>VR ρ h u v
 |_,_=>False
theorem OV.mono{ρ ρ':List Lc}{h h':Heap}(e:ρ<+:ρ')(i:Imm h h'):∀ {u:Option Value}{v:Option V},OV ρ h u v->OV ρ' h' u v
 |none,none,_=>trivial
 |some _,some _,x=>VR.mono e i x
 |none,some _,x=>x.elim
 |some _,none,x=>x.elim
def dH:List Str:=["isjunk","a","b","autojunk","matching_blocks","opcodes","fullbcount","b2j","bjunk","bpopular"]
end
section
structure Cx where
 prog:Program
 w:World
 base:Shared
 lim:base.heap.NoLimit
 GR:List Lc->Shared->Lc->Gn->Prop
 mono:∀ {ρ ρ':List Lc}{s s':Shared}{l:Lc}{g:Gn},ρ<+:ρ'->Imm s.heap s'.heap->(∀ o,s.heap.get? l.a=some o->s'.heap.get? l.a=some o)->(∀ o,s.heap.get? l.d=some o->s'.heap.get? l.d=some o)->
  (∀ k x,l.g=some k->s.gens[k]? =some x->s'.gens[k]? =some x)->GR ρ s l g->GR ρ' s' l g
 here:∀ {ρ s l g},GR ρ s l g->∃ o o',s.heap.get? l.a=some o/\s.heap.get? l.d=some o'/\¬aS o/\¬aS o'
noncomputable abbrev Cx.M(C:Cx):Model:=model C.prog C.w
def OR(C:Cx)(ρ:List Lc)(s:Shared)(l:Lc):MO->Prop
 | .list vs=>l.d=l.a/\l.g=none/\∃ xs n,IsL s.heap l.a xs n/\VRs ρ s.heap xs.toList vs
 | .ro vs=>l.d=l.a/\l.g=none/\∃ xs,C.base.heap.IsList l.a xs/\VRs ρ s.heap xs.toList vs
 | .dict n f=>l.d=l.a/\l.g=none/\∃ kvs:List (Int×Value),s.heap.DictOf (intKind C.prog C.w) l.a kvs/\kvs.length<=n/\∀ k,OV ρ s.heap (valueAt kvs k) (f k)
 | .eset=>l.d=l.a/\l.g=none/\∃ n t,s.heap.get? l.a=some {cls:=.type "set",data:=.set #[] n t}/\t.fits 0=true
 | .inst fs=>l.g=none/\l.d≠l.a/\(∃ o,s.heap.get? l.a=some o/\o.cls= .ref dT/\o.data= .plain/\o.dict=some l.d)/\∃ m,s.heap.Ns1 l.d m/\s.heap.ExactDictFk l.d/\Within m dH/\∀ x,OV ρ s.heap (m x) (fs x)
 | .gen g=>C.GR ρ s l g
 | .itr none=>l.d=l.a/\l.g=none/\∃ o,s.heap.get? l.a=some o/\¬aS o
 | .itr (some p)=>l.d=l.a/\l.g=none/\∃ li,ρ[p.1]? =some li/\s.heap.IsListIter l.a li.a p.2
structure Sim(C:Cx)(H:MH)(ρ:List Lc)(s:Shared):Prop where
 len:ρ.length=H.length
 keep:∀ b o,C.base.heap.get? b=some o->s.heap.get? b=some o
 objs:∀ (i:Nat) (m:MO) (l:Lc),H[i]? =some m->ρ[i]? =some l->OR C ρ s l m
 ro:∀ (i:Nat) (l:Lc),ρ[i]? =some l->(∃ vs,H[i]? =some (.ro vs))∨(C.base.heap.get? l.a=none/\C.base.heap.get? l.d=none)
 disj:∀ (i j:Nat) (li lj:Lc),ρ[i]? =some li->ρ[j]? =some lj->i≠j->∀ b,li.has b->¬lj.has b
 disjG:∀ (i j:Nat) (li lj:Lc) (k:Nat),ρ[i]? =some li->ρ[j]? =some lj->i≠j->li.g=some k->lj.g≠some k
 os:s.os=C.base.os
 bare:AllBare s.gens
structure Nx(ρ:List Lc)(W:Addr->Prop)(s:Shared)(ρ':List Lc)(s':Shared):Prop where
 pre:ρ<+:ρ'
 new:∀ l∈ρ'.drop ρ.length,s.heap.get? l.a=none/\s.heap.get? l.d=none
 kp:∀ b o,s.heap.get? b=some o->¬Own ρ b->¬W b->s'.heap.get? b=some o
 imm:Imm s.heap s'.heap
 al:∀ b o,s.heap.get? b=some o->∃ o',s'.heap.get? b=some o'
theorem Nx.own{ρ ρ':List Lc}{W:Addr->Prop}{s s':Shared}(N:Nx ρ W s ρ' s'){b:Addr}{o:Obj}(hb:s.heap.get? b=some o)(h: ¬Own ρ b): ¬Own ρ' b:=by
 rintro ⟨l,hl,hh⟩
 refine xE N.pre λt z2=>?_;subst z2
 refine Or.elim (List.mem_append.mp hl) (λq=>?_) λq=>?_
 ·exact h ⟨l,q,hh⟩
 ·have:=N.new l (by simpa using q)
  rcases hh with rfl |rfl
  ·rw[this.1]at hb;cases hb
  ·rw[this.2]at hb;cases hb
theorem Nx.refl{ρ:List Lc}{W:Addr->Prop}{s:Shared}:Nx ρ W s ρ s:=
 ⟨List.prefix_refl _,λl hl=>by simp at hl,λ_ _ e _ _=>e,.refl _,λ_ o e=>⟨o,e⟩⟩
theorem Nx.trans{ρ ρ1 ρ2:List Lc}{W:Addr->Prop}{s s1 s2:Shared}(a:Nx ρ W s ρ1 s1)(b:Nx ρ1 W s1 ρ2 s2):Nx ρ W s ρ2 s2:=by
 refine⟨a.pre.trans b.pre,λl hl=>?_,λx o e ho hw=>b.kp x o (a.kp x o e ho hw) (a.own e ho) hw,a.imm.trans b.imm,λx o e=>let ⟨o',e'⟩:=a.al x o e;b.al x o' e'⟩
 refine xE a.pre λt z3=>?_;subst z3
 refine xE b.pre λt' z4=>?_;subst z4
 rw [List.append_assoc,List.drop_left]at hl
 refine Or.elim (List.mem_append.mp hl) (λq=>?_) λq=>?_
 ·exact a.new l (by simpa using q)
 ·have n:=b.new l (by simpa using q)
  refine⟨?_,?_⟩
  ·cases e:s.heap.get? l.a with
   |none=>rfl
   |some o=>refine xE (a.al _ _ e) λo' e'=>?_;rw[n.1]at e';cases e'
  ·cases e:s.heap.get? l.d with
   |none=>rfl
   |some o=>refine xE (a.al _ _ e) λo' e'=>?_;rw[n.2]at e';cases e'
theorem Nx.weaken{ρ ρ':List Lc}{W W':Addr->Prop}{s s':Shared}(a:Nx ρ W s ρ' s')(h:∀ b,W b->W' b):Nx ρ W' s ρ' s':=
 ⟨a.pre,a.new,λb o e ho hw=>a.kp b o e ho λq=>hw (h b q),a.imm,a.al⟩
def noW:Addr->Prop:=λ_=>False
theorem OR.mono{C:Cx}{ρ ρ':List Lc}{s s':Shared}{l:Lc}{m:MO}(e:ρ<+:ρ')(i:Imm s.heap s'.heap)(h1:∀ o,s.heap.get? l.a=some o->s'.heap.get? l.a=some o)
  (h2:∀ o,s.heap.get? l.d=some o->s'.heap.get? l.d=some o) (h3:∀ k x,l.g=some k->s.gens[k]? =some x->s'.gens[k]? =some x) (r:OR C ρ s l m):OR C ρ' s' l m:=by
 cases m with
 |list vs=>refine jI r λa g xs n x y=>?_;exact⟨a,g,xs,n,h1 _ x,y.mono e i⟩
 |ro vs=>refine pU r λa g xs x y=>?_;exact⟨a,g,xs,x,y.mono e i⟩
 |dict n f=>refine uP r λa g kvs z5 x y=>?_;obtain⟨o,es,ep,ho,q⟩:=z5;exact⟨a,g,kvs,⟨o,es,ep,h1 _ ho,q⟩,x,λk=>(y k).mono e i⟩
 |eset=>refine jI r λa g n t x y=>?_;exact⟨a,g,n,t,h1 _ x,y⟩
 |inst fs=>refine mT r λg ne z6 m z7 z8 w y=>?_;obtain⟨o,a,b⟩:=z6;obtain⟨o',es,ep,ho,q⟩:=z7;obtain⟨od,hd,x⟩:=z8;exact⟨g,ne,⟨o,h1 _ a,b⟩,m,⟨o',es,ep,h2 _ ho,q⟩,⟨od,h2 _ hd,x⟩,w,λk=>(y k).mono e i⟩
 |gen g=>exact C.mono e i h1 h2 h3 r
 |itr p=>cases p with
  |none=>refine pU r λa g o y z=>?_;exact⟨a,g,o,h1 _ y,z⟩
  |some p=>refine aEi r λa g li x o y z=>?_;exact⟨a,g,li,aL e x,o,h1 _ y,z⟩
theorem Sim.same{C:Cx}{H:MH}{ρ:List Lc}{s s':Shared}(S:Sim C H ρ s)(hk:∀ b o,s.heap.get? b=some o->(Own ρ b∨(C.base.heap.get? b).isSome=true)->s'.heap.get? b=some o)(i:Imm s.heap s'.heap)
  (hg:∀ (k:Nat) (x:GenState),s.gens[k]? =some x->s'.gens[k]? =some x) (hos:s'.os=s.os) (hb:AllBare s'.gens):Sim C H ρ s':=by
 refine⟨S.len,λb o e=>hk b o (S.keep b o e) (.inr (by rw[e];rfl)),λj m l hm hj=>?_,S.ro,S.disj,S.disjG,hos.trans S.os,hb⟩
 have hmem:l∈ρ:=List.mem_of_getElem? hj
 exact(S.objs j m l hm hj).mono (List.prefix_refl _) i (λo e=>hk _ o e (.inl ⟨l,hmem,.inl rfl⟩)) (λo e=>hk _ o e (.inl ⟨l,hmem,.inr rfl⟩)) (λk x _ e=>hg k x e)
end
section
variable {C:Cx}
noncomputable abbrev Lo:=Str->Option V
def Wr(env:Env)(b:Addr):Prop:=b=env.locals∨∃ x,env.cells.lookup x=some b
structure Fm(C:Cx)(env:Env)(ρ:List Lc)(s:Shared)(lo:Lo):Prop where
 fn:env.scope.kind= .function
 gl:env.globals=mainGlobals
 bi:env.builtins=builtinsNs
 ns:∃ m,s.heap.Ns env.locals m/\∀ x,env.kindOf x=some .local->OV ρ s.heap (m x) (lo x)
 cl:∀ x,env.kindOf x=some .cell∨env.kindOf x=some .free->∃ c o u,env.cells.lookup x=some c/\s.heap.get? c=some o/\o.data= .cell u/\OV ρ s.heap u (lo x)
 own:∀ b,Wr env b->¬Own ρ b/\C.base.heap.get? b=none
 dis:∀ x c,env.cells.lookup x=some c->c≠env.locals
 inj:∀ x y c,env.cells.lookup x=some c->env.cells.lookup y=some c->x=y
 alv:∀ b,Wr env b->∃ o,s.heap.get? b=some o
theorem Fm.next{env:Env}{ρ ρ':List Lc}{s s':Shared}{lo:Lo}{W:Addr->Prop}(F:Fm C env ρ s lo)(N:Nx ρ W s ρ' s')(hw:∀ b,Wr env b->¬W b):Fm C env ρ' s' lo:=by
 refine xEA F.ns λm z9 hm=>?_;obtain⟨o,es,ep,ho,hr⟩:=z9
 have k:∀ b o,Wr env b->s.heap.get? b=some o->s'.heap.get? b=some o:=λb o hb e=>N.kp b o e (F.own b hb).1 (hw b hb)
 refine⟨F.fn,F.gl,F.bi,⟨m,⟨o,es,ep,k _ _ (.inl rfl) ho,hr⟩,λx hx=>(hm x hx).mono N.pre N.imm⟩,λx hx=>?_,λb hb=>⟨(let ⟨o,e⟩:=F.alv b hb;N.own e (F.own b hb).1),(F.own b hb).2⟩,F.dis,F.inj,λb hb=>let ⟨o,e⟩:=F.alv b hb;N.al b o e⟩
 refine cW (F.cl x hx) λc o u h1 h2 h3 h4=>?_
 exact⟨c,o,u,h1,k _ _ (.inr ⟨x,h1⟩) h2,h3,h4.mono N.pre N.imm⟩
def Room(r:Nat)(A:Around):Prop:=A.handled=none/\A.depth+10*r<=700/\A.units+40*r<=8000
theorem Room.lt{r:Nat}{A:Around}(h:Room r A):A.depth<recursionLimit:=by have:=h.2.1;show A.depth<1000;exact A0 this
noncomputable abbrev NoE:Value->Shared->Prop:=λ_ _=>False
noncomputable abbrev EK:=V->MH->Prop
noncomputable abbrev EF:=Lo->MH->EK->Prop
inductive EPo(C:Cx)(ρ:List Lc)(s:Shared)(H':MH)(v:V)(x:Value)(s':Shared):Prop
 |mk (ρ':List Lc) (S:Sim C H' ρ' s') (N:Nx ρ noW s ρ' s') (r:VR ρ' s'.heap x v):EPo C ρ s H' v x s'
inductive b6(C:Cx)(ρ:List Lc)(s:Shared)(Q:EK)(x:Value)(s':Shared):Prop
 |mk {ρ':List Lc}{v:V}{H':MH} (S:Sim C H' ρ' s') (N:Nx ρ noW s ρ' s') (r:VR ρ' s'.heap x v) (q:Q v H'):b6 C ρ s Q x s'
def EV(C:Cx)(r:Nat)(env:Env)(e:Expr)(f:EF):Prop:=
 ∀ ⦃A:Around⦄⦃s:Shared⦄⦃ρ:List Lc⦄⦃H:MH⦄⦃lo:Lo⦄⦃Q:EK⦄,Room r A->Sim C H ρ s->Fm C env ρ s lo->f lo H Q->
  wpAny C.M A (eval e env) (b6 C ρ s Q) NoE s
theorem wmN{M:Model}{A:Around}{α:Type}{t:Sem α}{P Q:α->Shared->Prop}{E:Value->Shared->Prop}{s:Shared}(h:wpAny M A t P NoE s)(k:∀ a s',P a s'->Q a s'):wpAny M A t Q E s:=
 wpAny_mono h k λ_ _ z=>z.elim
theorem b6.run{M:Model}{A:Around}{t:Sem Value}{E:Value->Shared->Prop}{ρ:List Lc}{s:Shared}{Q:EK}{K:Value->Shared->Prop}(h:wpAny M A t (b6 C ρ s Q) NoE s)
  (k:∀ {x s' ρ' v H'},Sim C H' ρ' s'->Nx ρ noW s ρ' s'->VR ρ' s'.heap x v->Q v H'->K x s'):wpAny M A t K E s:=wmN h λ_ _ ⟨S,N,r,q⟩=>k S N r q
theorem EV.run{env:Env}{r:Nat}{e:Expr}{f:EF}(h:EV C r env e f){A:Around}{s:Shared}{ρ:List Lc}{H:MH}{lo:Lo}{Q:EK}{K E:Value->Shared->Prop}(hr:Room r A)(S:Sim C H ρ s)(F:Fm C env ρ s lo)(q:f lo H Q)
  (k:∀ {x s' ρ' v H'},Sim C H' ρ' s'->Nx ρ noW s ρ' s'->VR ρ' s'.heap x v->Q v H'->K x s'):wpAny C.M A (eval e env) K E s:=b6.run (h hr S F q) k
theorem EPo.post{ρ:List Lc}{s:Shared}{H':MH}{v:V}{Q:EK}{x:Value}{s':Shared}(h:EPo C ρ s H' v x s')(q:Q v H'):b6 C ρ s Q x s':=let ⟨_,S,N,r⟩:=h;⟨S,N,r,q⟩
theorem Fm.nx{env:Env}{ρ ρ':List Lc}{s s':Shared}{lo:Lo}(F:Fm C env ρ s lo)(N:Nx ρ noW s ρ' s'):Fm C env ρ' s' lo:=F.next N λ_ _ z=>z
theorem VR.nx{ρ ρ':List Lc}{s s':Shared}{W:Addr->Prop}{u:Value}{v:V}(r:VR ρ s.heap u v)(N:Nx ρ W s ρ' s'):VR ρ' s'.heap u v:=r.mono N.pre N.imm
theorem VRs.nx{ρ ρ':List Lc}{s s':Shared}{W:Addr->Prop}{us:List Value}{vs:List V}(r:VRs ρ s.heap us vs)(N:Nx ρ W s ρ' s'):VRs ρ' s'.heap us vs:=r.mono N.pre N.imm
theorem b6.from{ρ ρ1:List Lc}{s s1:Shared}{Q:EK}{x:Value}{s':Shared}(N:Nx ρ noW s ρ1 s1)(p:b6 C ρ1 s1 Q x s'):b6 C ρ s Q x s':=let ⟨S,N',r,q⟩:=p;⟨S,N.trans N',r,q⟩
theorem EPo.from{ρ ρ1:List Lc}{s s1:Shared}{H':MH}{v:V}{x:Value}{s':Shared}(N:Nx ρ noW s ρ1 s1)(p:EPo C ρ1 s1 H' v x s'):EPo C ρ s H' v x s':=let ⟨ρ',S,N',r⟩:=p;⟨ρ',S,N.trans N',r⟩
theorem bG(h:Heap):h.get? h.objs.size=none:=by
 cases e:h.get? h.objs.size with
 |none=>rfl
 |some o=>exact absurd (Heap.lt_size e) (Nat.lt_irrefl _)
theorem Sim.toks{H:MH}{ρ:List Lc}{s:Shared}(S:Sim C H ρ s)(k:Nat):Sim C H ρ {s with toks:=k}:=
 S.same (λ_ _ e _=>e) (.refl _) (λ_ _ e=>e) rfl S.bare
theorem Nx.toks{ρ:List Lc}{W:Addr->Prop}{s:Shared}(k:Nat):Nx ρ W s ρ {s with toks:=k}:=
 ⟨List.prefix_refl _,λl hl=>by simp at hl,λ_ _ e _ _=>e,.refl _,λ_ o e=>⟨o,e⟩⟩
theorem iK(h:Heap)(o:Obj):Imm h (h.push o):=λb x e _=>Heap.get?_push_of_some o e
theorem Sim.push{H:MH}{ρ:List Lc}{s:Shared}(S:Sim C H ρ s)(o:Obj):Sim C H ρ {s with heap:=s.heap.push o}:=
 S.same (λ_ _ e _=>Heap.get?_push_of_some o e) (iK _ _) (λ_ _ e=>e) rfl S.bare
theorem Nx.push{ρ:List Lc}{W:Addr->Prop}{s:Shared}(o:Obj):Nx ρ W s ρ {s with heap:=s.heap.push o}:=
 ⟨List.prefix_refl _,λl hl=>by simp at hl,λ_ _ e _ _=>Heap.get?_push_of_some o e,iK _ _,λ_ x e=>⟨x,Heap.get?_push_of_some o e⟩⟩
theorem Sim.live{H:MH}{ρ:List Lc}{s:Shared}(S:Sim C H ρ s){i:Nat}{l:Lc}(hl:ρ[i]? =some l):(∃ o,s.heap.get? l.a=some o/\¬aS o)/\∃ o,s.heap.get? l.d=some o/\¬aS o:=by
 have hlt:i<H.length:=by rw[<-S.len];exact(List.getElem?_eq_some_iff.mp hl).1
 have r:=S.objs i H[i] l (List.getElem?_eq_getElem hlt) hl
 revert r
 cases H[i] with
 |list vs=>rintro ⟨a,g,xs,n,x,y⟩;rw[a];exact⟨⟨_,x,by simp [aS]⟩,⟨_,x,by simp [aS]⟩⟩
 |ro vs=>rintro ⟨a,g,xs,⟨o,x,hc,n,hd⟩,y⟩;rw[a];have:=S.keep _ _ x;exact⟨⟨_,this,by simp [aS,hd,hc]⟩,⟨_,this,by simp [aS,hd,hc]⟩⟩
 |dict n f=>rintro ⟨a,g,kvs,⟨o,es,ep,ho,hc,hd,_⟩,_⟩;rw[a];exact⟨⟨_,ho,by simp [aS,hd]⟩,⟨_,ho,by simp [aS,hd]⟩⟩
 |eset=>rintro ⟨a,g,n,t,x,y⟩;rw[a];exact⟨⟨_,x,by simp [aS]⟩,⟨_,x,by simp [aS]⟩⟩
 |inst fs=>rintro ⟨g,ne,⟨o,a,_,b,_⟩,m,⟨o',es,ep,ho,hd,q⟩,_⟩;exact⟨⟨_,a,by simp [aS,b]⟩,⟨_,ho,by simp [aS,hd]⟩⟩
 |gen g=>intro r;refine xEEAAA (C.here r) λo o' h1 h2 h3 h4=>?_;exact⟨⟨o,h1,h3⟩,⟨o',h2,h4⟩⟩
 |itr p=>cases p with
  |none=>rintro ⟨a,g,o,y,z⟩;rw[a];exact⟨⟨o,y,z⟩,⟨o,y,z⟩⟩
  |some p=>rintro ⟨a,g,li,x,o,y,z1,z2⟩;rw[a];exact⟨⟨o,y,by simp [aS,z1,z2]⟩,⟨o,y,by simp [aS,z1,z2]⟩⟩
theorem d3{h h':Heap}(hk:∀ b o,h.get? b=some o->h'.get? b=some o):Imm h h':=λb o e _=>hk b o e
theorem gP{α:Type}{ρ:List α}{l l':α}{i:Nat}(h:(ρ++[l])[i]? =some l'):ρ[i]? =some l'∨(i=ρ.length/\l'=l):=by
 refine Or.elim (Nat.lt_or_ge i ρ.length) (λq=>?_) λq=>?_
 ·rw[List.getElem?_append_left q]at h;exact .inl h
 ·rw[List.getElem?_append_right q]at h
  cases e:i-ρ.length with
  |zero=>rw [e]at h;exact .inr ⟨Nat.le_antisymm (Nat.le_of_sub_eq_zero e) q,(Option.some.inj h).symm⟩
  |succ n=>rw [e]at h;cases h
theorem jU{H:MH}{ρ:List Lc}{s:Shared}(S:Sim C H ρ s){b:Addr}(h:s.heap.get? b=none):C.base.heap.get? b=none:=by
 cases e:C.base.heap.get? b with
 |none=>rfl
 |some o=>rw [S.keep _ _ e]at h;cases h
theorem qG{H:MH}{ρ:List Lc}{s:Shared}(S:Sim C H ρ s){l:Lc}(ha:s.heap.get? l.a=none)(hd:s.heap.get? l.d=none){b:Addr}(h:l.has b): ¬Own ρ b:=by
 rintro ⟨l',hl,hb⟩
 refine xE (List.getElem?_of_mem hl) λi hi=>?_
 refine xAEA (S.live hi) λz11 o' h2 _=>?_;obtain⟨o,h1,_⟩:=z11
 have q:s.heap.get? b=none:=by rcases h with rfl |rfl<;>assumption
 rcases hb with rfl |rfl
 ·rw[q]at h1;cases h1
 ·rw[q]at h2;cases h2
theorem Sim.new{H:MH}{ρ:List Lc}{s s':Shared}{l:Lc}{m:MO}(S:Sim C H ρ s)(hk:∀ b o,s.heap.get? b=some o->s'.heap.get? b=some o)(hg:∀ (k:Nat) (x:GenState),s.gens[k]? =some x->s'.gens[k]? =some x)(hos:s'.os=s.os)(hb:AllBare s'.gens)
  (ha:s.heap.get? l.a=none) (hd:s.heap.get? l.d=none) (hf:∀ k,l.g=some k->∀ l'∈ρ,l'.g≠some k) (hm:OR C (ρ++[l]) s' l m):Sim C (H++[m]) (ρ++[l]) s'/\∀ W,Nx ρ W s (ρ++[l]) s':=by
 have fo:= @qG C H ρ s S l ha hd
 refine⟨⟨by rw[List.length_append,List.length_append,S.len];rfl,λb o e=>hk b o (S.keep b o e),λi x l' hx hl=>?_,λi l' hl=>?_,λi j li lj hi hj hne b h1 h2=>?_,λi j li lj k hi hj hne h1 h2=>?_,hos.trans S.os,hb⟩,
  λW=>⟨List.prefix_append _ _,λl' hl=>?_,λb o e _ _=>hk b o e,d3 hk,λb o e=>⟨o,hk b o e⟩⟩⟩
 ·rcases gP hl with q |⟨rfl,rfl⟩
  ·rw[List.getElem?_append_left (by rw[<-S.len];exact(List.getElem?_eq_some_iff.mp q).1)]at hx
   exact(S.objs i x l' hx q).mono (List.prefix_append _ _) (d3 hk) (λo e=>hk _ o e) (λo e=>hk _ o e) (λk y _ e=>hg k y e)
  ·rw[S.len,List.getElem?_append_right (Nat.le_refl _),Nat.sub_self]at hx
   cases hx;exact hm
 ·rcases gP hl with q |⟨rfl,rfl⟩
  ·rw[List.getElem?_append_left (by rw[<-S.len];exact(List.getElem?_eq_some_iff.mp q).1)];exact S.ro i l' q
  ·exact .inr ⟨jU S ha,jU S hd⟩
 ·rcases gP hi with q |⟨e1,rfl⟩<;>rcases gP hj with q' |⟨e2,rfl⟩
  ·exact S.disj i j li lj q q' hne b h1 h2
  ·exact fo h2 ⟨li,List.mem_of_getElem? q,h1⟩
  ·exact fo h1 ⟨lj,List.mem_of_getElem? q',h2⟩
  ·exact hne (e1.trans e2.symm)
 ·rcases gP hi with q |⟨e1,rfl⟩<;>rcases gP hj with q' |⟨e2,rfl⟩
  ·exact S.disjG i j li lj k q q' hne h1 h2
  ·exact hf k h2 li (List.mem_of_getElem? q) h1
  ·exact hf k h1 lj (List.mem_of_getElem? q') h2
  ·exact hne (e1.trans e2.symm)
 ·rw[List.drop_left]at hl;cases List.mem_singleton.mp hl;exact⟨ha,hd⟩
theorem Sim.grow{H:MH}{ρ:List Lc}{s:Shared}{h':Heap}{k:Nat}{l:Lc}{m:MO}(S:Sim C H ρ s)(hk:∀ b o,s.heap.get? b=some o->h'.get? b=some o)(ha:s.heap.get? l.a=none)(hd:s.heap.get? l.d=none)(hlg:l.g=none)
  (hm:OR C (ρ++[l]) {s with heap:=h',toks:=k} l m):Sim C (H++[m]) (ρ++[l]) {s with heap:=h',toks:=k}/\∀ W,Nx ρ W s (ρ++[l]) {s with heap:=h',toks:=k}:=
 S.new (s':= {s with heap:=h',toks:=k}) hk (λ_ _ e=>e) rfl S.bare ha hd (λk e=>by rw[hlg]at e;cases e) hm
theorem Sim.last{H:MH}{ρ:List Lc}{s:Shared}(S:Sim C H ρ s){l:Lc}:(ρ++[l])[H.length]? =some l:=by rw[<-S.len];simp
theorem Sim.alloc{H:MH}{ρ:List Lc}{s:Shared}(S:Sim C H ρ s)(o:Obj)(m:MO)(hm:OR C (ρ++[⟨s.heap.objs.size,s.heap.objs.size,none⟩]) {s with heap:=s.heap.push o} ⟨s.heap.objs.size,s.heap.objs.size,none⟩ m):
  Sim C (H++[m]) (ρ++[⟨s.heap.objs.size,s.heap.objs.size,none⟩]) {s with heap:=s.heap.push o}:=
 (S.grow (k:=s.toks) (λ_ _ e=>Heap.get?_push_of_some o e) (bG _) (bG _) rfl hm).1
theorem Nx.alloc{ρ:List Lc}{W:Addr->Prop}{s:Shared}(o:Obj):Nx ρ W s (ρ++[⟨s.heap.objs.size,s.heap.objs.size,none⟩]) {s with heap:=s.heap.push o}:=
 ⟨List.prefix_append _ _,λl hl=>by simp at hl;subst hl;exact⟨bG _,bG _⟩,λ_ _ e _ _=>Heap.get?_push_of_some o e,iK _ _,λ_ x e=>⟨x,Heap.get?_push_of_some o e⟩⟩
theorem Sim.upd{H:MH}{ρ:List Lc}{s s':Shared}(S:Sim C H ρ s){i:Nat}{l:Lc}{m m':MO}(hl:ρ[i]? =some l)(hH:H[i]? =some m)(hro:∀ vs,m≠ .ro vs)
  (hk:∀ b o,s.heap.get? b=some o->¬l.has b->s'.heap.get? b=some o) (hi:Imm s.heap s'.heap)
  (hg:s'.gens=s.gens) (hos:s'.os=s.os) (hm:OR C ρ s' l m') (hnr:∀ vs,m'≠ .ro vs):Sim C (H.set i m') ρ s':=by
 have hil:i<H.length:=(List.getElem?_eq_some_iff.mp hH).1
 have hbase:C.base.heap.get? l.a=none/\C.base.heap.get? l.d=none:=by
  rcases S.ro i l hl with ⟨vs,e⟩ |e
  ·rw[hH]at e;exact absurd (Option.some.inj e) (hro vs)
  ·exact e
 refine⟨by simp [S.len],λb o e=>hk b o (S.keep b o e) (λq=>by rcases q with rfl |rfl<;>simp_all),λj x lj hx hj=>?_,λj lj hj=>?_,S.disj,S.disjG,hos.trans S.os,by rw[hg];exact S.bare⟩
 ·by_cases e:j=i
  ·subst e
   rw [hl]at hj;cases hj
   rw [List.getElem?_set_self hil]at hx;cases hx
   exact hm
  ·rw[List.getElem?_set_ne (Ne.symm e)]at hx
   have d:=S.disj j i lj l hj hl e
   exact(S.objs j x lj hx hj).mono (List.prefix_refl _) hi (λo q=>hk _ o q (d _ (.inl rfl))) (λo q=>hk _ o q (d _ (.inr rfl))) (λk y _ q=>by rw[hg];exact q)
 ·by_cases e:j=i
  ·subst e
   rw [hl]at hj;cases hj
   exact .inr hbase
  ·rw[List.getElem?_set_ne (Ne.symm e)];exact S.ro j lj hj
end
section
variable {C:Cx}{r:Nat}{env:Env}
theorem EPo.here{ρ:List Lc}{s:Shared}{H:MH}{v:V}{x:Value}(S:Sim C H ρ s)(r:VR ρ s.heap x v):EPo C ρ s H v x s:=⟨ρ,S,.refl,r⟩
theorem EPo.tok{ρ:List Lc}{s:Shared}{H:MH}{v:V}{x:Value}{k:Nat}(S:Sim C H ρ s)(r:VR ρ s.heap x v):EPo C ρ s H v x {s with toks:=k}:=⟨ρ,S.toks _,.toks _,r⟩
theorem b6.here{ρ:List Lc}{s:Shared}{H:MH}{v:V}{Q:EK}{x:Value}(S:Sim C H ρ s)(r:VR ρ s.heap x v)(q:Q v H):b6 C ρ s Q x s:=⟨S,.refl,r,q⟩
theorem b6.tok{ρ:List Lc}{s:Shared}{H:MH}{v:V}{Q:EK}{x:Value}{k:Nat}(S:Sim C H ρ s)(r:VR ρ s.heap x v)(q:Q v H):b6 C ρ s Q x {s with toks:=k}:=⟨S.toks _,.toks _,r,q⟩
def eK(v:V):EF:=λ_ H Q=>Q v H
theorem EV.int{i:Int}{k pos}:EV C r env (.Constant (.int i) k pos) (eK (.int i)):=λ_ _ _ _ _ _ _ S _ q=>wpAny_Constant_int (.tok S (.int _ _) q)
theorem EV.none{k pos}:EV C r env (.Constant .none k pos) (eK .none):=λ_ _ _ _ _ _ _ S _ q=>wpAny_Constant_none (.here S .none q)
theorem EV.bool{b k pos}:EV C r env (.Constant (.bool b) k pos) (eK (.bool b)):=λ_ _ _ _ _ _ _ S _ q=>wpAny_Constant_bool (.here S (.bool b) q)
theorem EV.str{x:Str}{k pos}:EV C r env (.Constant (.str x) k pos) (eK (.str x)):=λ_ _ _ _ _ _ _ S _ q=>wpAny_Constant_str (.tok S (.str _ _) q)
def Lf{α:Type}(o:Option α)(Q:α->Prop):Prop:=match o with |some p=>Q p |none=>False
theorem Lf.elim{α:Type}{o:Option α}{Q:α->Prop}{P:Prop}(h:Lf o Q)(k:∀ p,o=some p->Q p->P):P:=match o,h,k with
 |some p,h,k=>k p rfl h
theorem Lf.mk{α:Type}{o:Option α}{Q:α->Prop}{p:α}(e:o=some p)(q:Q p):Lf o Q:=by subst e;exact q
def Lp(o:Option (V×MH))(Q:EK):Prop:=Lf o λp=>Q p.1 p.2
def eN(x:Str):EF:=λlo H Q=>Lf (lo x) λv=>Q v H
theorem OV.elim{ρ:List Lc}{h:Heap}{u:Option Value}{w:Option V}{v:V}{P:Prop}(e:w=some v)(o:OV ρ h u w)(k:∀ x,u=some x->VR ρ h x v->P):P:=by
 subst e
 cases u with
 |none=>exact False.elim o
 |some x=>exact k x rfl o
theorem xQ{A:Around}{s:Shared}{ρ:List Lc}{lo:Lo}{x:Str}{v:V}{P:Prop}(F:Fm C env ρ s lo)(hx:lo x=some v)(hk:env.kindOf x=some .cell∨env.kindOf x=some .free)
  (k:∀ c o u,env.cells.lookup x=some c->s.heap.get? c=some o->o.data= .cell (some u)->VR ρ s.heap u v->P):P:=by
 refine cW (F.cl x hk) λc o u h1 h2 h3 h4=>?_
 exact h4.elim hx λu e r=>k c o u h1 h2 (h3.trans (by rw[e])) r
theorem qB{A:Around}{s:Shared}{ρ:List Lc}{lo:Lo}{x:Str}{v:V}{Q E:Value->Shared->Prop}(hk:env.kindOf x=some .local∨env.kindOf x=some .cell∨env.kindOf x=some .free)(hc:(x==("__classdict__" :Str))=false)
  (F:Fm C env ρ s lo) (hx:lo x=some v) (k:∀ u,VR ρ s.heap u v->Q u s):wpAny C.M A (loadName env x) Q E s:=by
 refine Or.elim hk (λhk=>?_) λz12=>Or.elim z12 (λhk=>?_) λhk=>?_
 ·refine xEA F.ns λm hns hm=>?_
  exact(hm x hk).elim hx λu e r=>wpAny_loadName_local F.fn hk hns e (k u r)
 ·exact xQ (A:=A) F hx (.inl hk) λc o u h1 h2 h3 r=>wpAny_loadName_cell F.fn hk h1 ⟨o,h2,h3⟩ (k u r)
 ·exact xQ (A:=A) F hx (.inr hk) λc o u h1 h2 h3 r=>wpAny_loadName_free F.fn hk h1 ⟨o,h2,h3⟩ (k u r) hc
theorem EV.name{x:Str}{pos}(hk:env.kindOf x=some .local∨env.kindOf x=some .cell∨env.kindOf x=some .free)(hd:(x==("__debug__" :Str))=false)(hc:(x==("__classdict__" :Str))=false):
  EV C r env (.Name x pos) (eN x):=λ_ _ _ _ _ _ _ S F q=>q.elim λ_ hx q=>wpAny_Name (qB hk hc F hx λ_ rv=>.here S rv q) hd
noncomputable abbrev OpF:=V->V->MH->Option (V×MH)
def OpR(C:Cx)(r:Nat)(op:Value->Value->Sem Value)(g:OpF):Prop:=
 ∀ ⦃A:Around⦄⦃s:Shared⦄⦃ρ:List Lc⦄⦃H:MH⦄⦃a b:Value⦄⦃va vb:V⦄⦃Q:EK⦄,Room r A->Sim C H ρ s->VR ρ s.heap a va->VR ρ s.heap b vb->Lp (g va vb H) Q->
  wpAny C.M A (op a b) (b6 C ρ s Q) NoE s
theorem OpR.of{op:Value->Value->Sem Value}{g:OpF}(h:∀ {A:Around}{s:Shared}{ρ:List Lc}{H:MH}{a b:Value}{va vb v:V}{H':MH},Room r A->Sim C H ρ s->VR ρ s.heap a va->VR ρ s.heap b vb->g va vb H=some (v,H')->
  wpAny C.M A (op a b) (EPo C ρ s H' v) NoE s):OpR C r op g:=λ_ _ _ _ _ _ _ _ _ hr S ra rb q=>q.elim λ_ e q=>wmN (h hr S ra rb e) λ_ _ p=>p.post q
def aB(g:OpF)(f1 f2:EF):EF:=λlo H Q=>f1 lo H λa H1=>f2 lo H1 λb H2=>Lp (g a b H2) Q
theorem EV.two{e1 e2:Expr}{f1 f2:EF}(h1:EV C r env e1 f1)(h2:EV C r env e2 f2){A:Around}{s:Shared}{ρ:List Lc}{H:MH}{lo:Lo}{Q:V->V->MH->Prop}{K:Value->Value->Shared->Prop}
  (hr:Room r A) (S:Sim C H ρ s) (F:Fm C env ρ s lo) (g:f1 lo H λa H1=>f2 lo H1 λb H2=>Q a b H2)
  (k:∀ {x y s2 ρ2 a b H2},Sim C H2 ρ2 s2->Nx ρ noW s ρ2 s2->VR ρ2 s2.heap x a->VR ρ2 s2.heap y b->Q a b H2->K x y s2):
  wpAny C.M A (eval e1 env) (λx s1=>wpAny C.M A (eval e2 env) (λy s2=>K x y s2) NoE s1) NoE s:=
 h1.run hr S F g λS1 N1 r1 g=>h2.run hr S1 (F.nx N1) g λS2 N2 r2 q=>k S2 (N1.trans N2) (r1.nx N2) r2 q
theorem EV.binOp{e1 e2:Expr}{op:Operator}{pos:Pos}{f1 f2:EF}{g:OpF}(h1:EV C r env e1 f1)(h2:EV C r env e2 f2)(ho:OpR C r (binaryOp op) g):EV C r env (.BinOp e1 op e2 pos) (aB g f1 f2):=
 λ_ _ _ _ _ _ hr S F q=>wpAny_BinOp (EV.two h1 h2 hr S F q λS2 N2 rx ry q=>wmN (ho hr S2 rx ry q) λ_ _ p=>p.from N2)
def Ti(v:V):Option Int:=match v with | .int x=>some x |_=>none
theorem VR.tiE{ρ:List Lc}{h:Heap}{u:Value}{v:V}{i:Int}(r:VR ρ h u v)(e:Ti v=some i):∃ t,u= .int i t:=by
 cases v with
 |int j=>cases e;exact r.inv
 |_=>first |exact aI e |cases e
theorem VR.ti{ρ:List Lc}{h:Heap}{u:Value}{v:V}{i:Int}{P:Value->Prop}(r:VR ρ h u v)(e:Ti v=some i)(k:∀ t,P (.int i t)):P u:=let ⟨t,e⟩:=r.tiE e;e▸k t
def o2(p:Int->Int->Bool)(f:Int->Int->V):OpF:=λa b H=>match Ti a,Ti b with |some x,some y=>if p x y then some (f x y,H) else none |_,_=>none
theorem aFg{p:Int->Int->Bool}{f:Int->Int->V}{a b v:V}{H H':MH}{P:Prop}(e:o2 p f a b H=some (v,H'))(k:∀ x y,Ti a=some x->Ti b=some y->p x y=true->v=f x y->H'=H->P):P:=by
 unfold o2 at e
 split at e
 ·rename_i x y h1 h2
  split at e
  ·rename_i hp;cases e;exact k x y h1 h2 hp rfl rfl
  ·first |exact aI e |cases e
 ·first |exact aI e |cases e
def yS:OpF:=o2 (λ_ _=>true) λx y=>.int (x+y)
def cK:OpF:=o2 (λ_ _=>true) λx y=>.int (x-y)
def oDiv:OpF:=o2 (λ_ y=>decide (0<y/\y<1000000000)) λx y=>.int (x/y)
def mB:OpF:=o2 (λ_ y=>decide (0<y)) λx y=>.int (x%y)
theorem OpR.i2{op:Value->Value->Sem Value}{p:Int->Int->Bool}{f:Int->Int->V}
  (h:∀ {A:Around}{s:Shared}{ρ:List Lc}{x y:Int}{t u:Tok}{Q:Value->Shared->Prop},Room r A->p x y=true->(∀ z k,VR ρ s.heap z (f x y)->Q z {s with toks:=k})->wpAny C.M A (op (.int x t) (.int y u)) Q NoE s):OpR C r op (o2 p f):=
 by
  refine OpR.of ?_
  intro A s ρ H a b va vb v H' hr S ra rb e
  refine aFg e λx y h1 h2 hp hv hH=>?_
  subst hv hH
  exact VR.ti (P:=λa=>wpAny C.M A (op a b) _ _ _) ra h1 λt=>VR.ti (P:=λb=>wpAny C.M A (op _ b) _ _ _) rb h2 λu=>h hr hp λz k rz=>EPo.tok S rz
theorem OpR.sub:OpR C r (binaryOp .Sub) cK:=OpR.i2 λ_ _ k=>sub_int (k _ _ (.int _ _))
theorem OpR.div:OpR C r (binaryOp .FloorDiv) oDiv:=OpR.i2 λ_ hp k=>by
 have hb:=of_decide_eq_true hp
 refine floordiv_int (Int.ne_of_gt hb.1) (k _ _ ?_) (.inl (PyProof.noPylong_small (by omega)))
 rw [Int.fdiv_eq_ediv_of_nonneg _ (Int.le_of_lt hb.1)]
 exact .int _ _
theorem OpR.mod:OpR C r (binaryOp .Mod) mB:=OpR.i2 λ_ hp k=>by
 have hb:=of_decide_eq_true hp
 refine mod_int' (Int.ne_of_gt hb) (k _ _ ?_)
 rw [Int.fmod_eq_emod_of_nonneg _ (Int.le_of_lt hb)]
 exact .int _ _
def bQ(f:Int->Int->Bool):OpF:=o2 (λ_ _=>true) λx y=>.bool (f x y)
theorem OpR.lt:OpR C r (compareOp .Lt) (bQ λx y=>decide (x<y)):=OpR.i2 λ_ _ k=>lt_int (k _ _ (.bool _))
theorem OpR.le:OpR C r (compareOp .LtE) (bQ λx y=>decide (x<=y)):=OpR.i2 λ_ _ k=>le_int (k _ _ (.bool _))
theorem OpR.gt:OpR C r (compareOp .Gt) (bQ λx y=>decide (x>y)):=OpR.i2 λ_ _ k=>gt_int (k _ _ (.bool _))
theorem OpR.ge:OpR C r (compareOp .GtE) (bQ λx y=>decide (x>=y)):=OpR.i2 λ_ _ k=>ge_int (k _ _ (.bool _))
end
section
open PySem PySem.W PyProof.Rows PySem.Calls PyProof
variable {C:Cx}{r:Nat}{env:Env}
def MO.vs:MO->Option (List V) | .list vs=>some vs | .ro vs=>some vs |_=>none
def MO.own:MO->Option (List V) | .list vs=>some vs |_=>none
def V.rf:V->Option Nat | .ref i=>some i |_=>Option.none
def lst(H:MH)(v:V):Option (List V):=v.rf.bind λi=>H[i]?.bind MO.vs
def own(H:MH)(v:V):Option (List V):=v.rf.bind λi=>H[i]?.bind MO.own
theorem VR.toRef{ρ:List Lc}{h:Heap}{u:Value}{v:V}{i:Nat}(r:VR ρ h u v)(e:v.rf=some i):∃ l,v= .ref i/\u= .ref l.a/\ρ[i]? =some l:=by
 cases v with
 |ref n=>cases e;refine xEA r.inv λl h1 h2=>?_;exact⟨l,rfl,h1,h2⟩
 |_=>first |exact aI e |cases e
theorem lst_mo{H:MH}{i:Nat}{vs:List V}(e:H[i]?.bind MO.vs=some vs):H[i]? =some (.list vs)∨H[i]? =some (.ro vs):=by
 refine xEA (Option.bind_eq_some_iff.mp e) λm h1 h2=>?_
 cases m with
 |list ws=>cases h2;exact .inl h1
 |ro ws=>cases h2;exact .inr h1
 |_=>cases h2
theorem jL{H:MH}{i:Nat}{vs:List V}(e:H[i]?.bind MO.own=some vs):H[i]? =some (.list vs):=by
 refine xEA (Option.bind_eq_some_iff.mp e) λm h1 h2=>?_
 cases m with
 |list ws=>cases h2;exact h1
 |_=>cases h2
theorem cZ{H:MH}{ρ:List Lc}{s:Shared}(S:Sim C H ρ s){u:Value}{v:V}{vs:List V}(r:VR ρ s.heap u v)(e:lst H v=some vs):
  ∃ a xs,u= .ref a/\s.heap.IsList a xs/\VRs ρ s.heap xs.toList vs:=by
 refine xEA (Option.bind_eq_some_iff.mp e) λi hi e=>?_
 refine c8 (r.toRef hi) λl hv hu g=>?_
 refine Or.elim (lst_mo (i:=i) e) (λh=>?_) λh=>?_
 ·refine jI (S.objs i _ l h g) λ_ _ xs k hx rs=>?_;exact⟨_,xs,hu,⟨_,hx,rfl,_,rfl⟩,rs⟩
 ·refine pU (S.objs i _ l h g) λ_ _ xs z13 rs=>?_;obtain⟨o,hx,q⟩:=z13;exact⟨_,xs,hu,⟨o,S.keep _ _ hx,q⟩,rs⟩
structure i8(H:MH)(ρ:List Lc)(s:Shared)(i:Nat)(l:Lc)(vs:List V)(xs:Array Value)(n:Nat):Prop where
 g:ρ[i]? =some l
 d:l.d=l.a
 gn:l.g=none
 h:H[i]? =some (.list vs)
 x:IsL s.heap l.a xs n
 r:VRs ρ s.heap xs.toList vs
theorem g8{H:MH}{ρ:List Lc}{s:Shared}(S:Sim C H ρ s){i:Nat}{l:Lc}{vs:List V}(g:ρ[i]? =some l)(h:H[i]? =some (.list vs)):∃ xs n,i8 H ρ s i l vs xs n:=
 let ⟨h1,h2,xs,k,hx,rs⟩:=S.objs i _ l h g;⟨xs,k,g,h1,h2,h,hx,rs⟩
theorem own_is{H:MH}{ρ:List Lc}{s:Shared}(S:Sim C H ρ s){u:Value}{v:V}{vs:List V}(r:VR ρ s.heap u v)(e:own H v=some vs):
  ∃ i l xs n,v= .ref i/\u= .ref l.a/\i8 H ρ s i l vs xs n:=by
 refine xEA (Option.bind_eq_some_iff.mp e) λi hi e=>?_
 refine c8 (r.toRef hi) λl hv hu g=>?_
 refine xEE (g8 S g (jL (i:=i) e)) λxs n h=>?_;exact⟨i,l,xs,n,hv,hu,h⟩
theorem VRs.sz{ρ:List Lc}{h:Heap}{xs:Array Value}{vs:List V}(r:VRs ρ h xs.toList vs):xs.size=vs.length:=by rw[<-r.length];exact Array.length_toList.symm
def aBz:V->Option PyData | .none=>some .none | .bool b=>some (.bool b) | .int i=>some (.int i) | .str s=>some (.str s) |_=>none
def rd(H:MH):Nat->V->Option PyData
 |0,v=>aBz v
 |n+1,.tup vs=>(vs.mapM (rd H n)).map .tuple
 |n+1,.ref i=>(lst H (.ref i)).bind λvs=>(vs.mapM (rd H n)).map .list
 |_+1,v=>aBz v
theorem eO{ρ:List Lc}{h:Heap}{u:Value}{v:V}{d:PyData}(r:VR ρ h u v)(e:aBz v=some d):∃ as,Reads h u d as:=by
 cases v with
 |none=>cases e;cases(show u= .none from r.inv);exact⟨_,.none⟩
 |bool b=>cases e;cases(show u= .bool b from r.inv);exact⟨_,.bool b⟩
 |int i=>cases e;refine xE r.inv λt z14=>?_;subst z14;exact⟨_,.int i t⟩
 |str x=>cases e;refine xE r.inv λt z15=>?_;subst z15;exact⟨_,.str x t⟩
 |_=>first |exact aI e |cases e
theorem lU{H:MH}{ρ:List Lc}{h:Heap}{n:Nat}(ih:∀ {u:Value}{v:V}{d:PyData},VR ρ h u v->rd H n v=some d->∃ as,Reads h u d as)
  {us:List Value}{vs:List V} (r:VRs ρ h us vs):∀ {ds:List PyData},vs.mapM (rd H n)=some ds->∃ as,ReadsAll h us ds as:=
 r.ind (P:=λus vs=>∀ {ds:List PyData},vs.mapM (rd H n)=some ds->∃ as,ReadsAll h us ds as) (λe=>by cases e;exact⟨_,.nil⟩) λa _ ih2 ds e=>by
  simp only[List.mapM_cons,Option.bind_eq_bind,Option.bind_eq_some_iff,Option.pure_def,Option.some.injEq]at e
  refine zI e λd h1 ds h2 z16=>?_;clear e;subst z16
  refine xE (ih a h1) λas r1=>?_
  refine xE (ih2 h2) λbs r2=>?_
  exact⟨_,.cons r1 r2⟩
theorem gQ{H:MH}{ρ:List Lc}{s:Shared}(S:Sim C H ρ s):∀ (n:Nat){u:Value}{v:V}{d:PyData},VR ρ s.heap u v->rd H n v=some d->∃ as,Reads s.heap u d as
 |0,_,_,_,r,e=>eO r e
 |n+1,u,v,d,r,e=>by
  cases r with
  |tup g rs=>
   refine xEA (Option.map_eq_some_iff.mp e) λds hm z17=>?_;subst z17
   refine xE (lU (gQ S n) rs hm) λas r2=>?_
   exact⟨_,.tuple g rfl rfl r2⟩
  |ref g=>
   refine xEA (Option.bind_eq_some_iff.mp e) λvs hl e=>?_
   refine xEA (Option.map_eq_some_iff.mp e) λds hm z18=>?_;subst z18
   refine cJ (cZ S (.ref g) hl) λa xs hu z19 rs=>?_;obtain⟨o,hx,hc,k,hd⟩:=z19
   refine xE (lU (gQ S n) rs hm) λas r2=>?_
   cases hu
   exact⟨_,.list hx hc hd r2⟩
  |none=>exact eO (ρ:=ρ) .none e
  |bool b=>exact eO (ρ:=ρ) (.bool b) e
  |int i t=>exact eO (ρ:=ρ) (.int i t) e
  |str x t=>exact eO (ρ:=ρ) (.str x t) e
  |_=>first |exact aI e |cases e
def eqD:Nat:=8
def eqv(H:MH)(a b:V):Option Bool:=(rd H eqD a).bind λda=>(rd H eqD b).bind λdb=>if PySem.SeqAt.shaped da && PySem.SeqAt.shaped db then some (PyData.eqv da db) else none
def bE(f:Bool->Bool):OpF:=λa b H=>(eqv H a b).map λt=>(.bool (f t),H)
theorem Room.units{r:Nat}{A:Around}(h:Room r A):A.units+64<cLine:=by have:=h.2.2;show A.units+64<9900;exact A1 this
theorem eqv_ok{H:MH}{ρ:List Lc}{s:Shared}{a b:Value}{va vb:V}{t:Bool}{P:Prop}(S:Sim C H ρ s)(ra:VR ρ s.heap a va)(rb:VR ρ s.heap b vb)(e:eqv H va vb=some t)
  (k:∀ da db as bs,Reads s.heap a da as->Reads s.heap b db bs->PySem.SeqAt.shaped da=true->PySem.SeqAt.shaped db=true->t=PyData.eqv da db->P):P:=by
 refine xEA (Option.bind_eq_some_iff.mp e) λda h1 e=>?_
 refine xEA (Option.bind_eq_some_iff.mp e) λdb h2 e=>?_
 refine xE (gQ S _ ra h1) λas r1=>?_
 refine xE (gQ S _ rb h2) λbs r2=>?_
 split at e
 ·rename_i hs
  exact k da db as bs r1 r2 (Bool.and_eq_true_iff.mp hs).1 (Bool.and_eq_true_iff.mp hs).2 (Option.some.inj e).symm
 ·first |exact aI e |cases e
theorem OpR.eqB{op:Value->Value->Sem Value}{f:Bool->Bool}(h:∀ {A:Around}{s:Shared}{a b:Value}{da db:PyData}{as bs:List Addr}{Q:Value->Shared->Prop},Room r A->Reads s.heap a da as->Reads s.heap b db bs->PySem.SeqAt.shaped da=true->PySem.SeqAt.shaped db=true->
  Q (.bool (f (PyData.eqv da db))) s->wpAny C.M A (op a b) Q NoE s):OpR C r op (bE f):=by
 refine OpR.of ?_
 intro A s ρ H a b va vb v H' hr S ra rb e
 refine xEA (Option.map_eq_some_iff.mp e) λt e1 e2=>?_
 exact eqv_ok S ra rb e1 λda db as bs r1 r2 s1 s2 ht=>h hr r1 r2 s1 s2 (by cases e2;subst ht;exact .here S (.bool _))
theorem OpR.eq:OpR C r (compareOp .Eq) (bE id):=OpR.eqB λhr r1 r2 s1 s2 q=>eq_dataH r1 r2 s1 s2 hr.units q
theorem OpR.ne:OpR C r (compareOp .NotEq) (bE not):=OpR.eqB λhr r1 r2 s1 s2 q=>ne_dataH r1 r2 s1 s2 hr.units q
def tr(v:V)(H:MH):Option Bool:=match v with
 | .none=>some false
 | .bool b=>some b
 | .int i=>some (i != 0)
 | .str x=>if x.length<1000000 then some ((x.length:Int) != 0) else none
 | .ref i=>(lst H (.ref i)).bind λvs=>if vs.length<1000000 then some (!vs.isEmpty) else none
 |_=>none
noncomputable abbrev TF:=Lo->MH->(Bool->MH->Prop)->Prop
inductive l4(C:Cx)(ρ:List Lc)(s:Shared)(Q:Bool->MH->Prop)(b:Bool)(s':Shared):Prop
 |mk {ρ':List Lc}{H':MH} (S:Sim C H' ρ' s') (N:Nx ρ noW s ρ' s') (q:Q b H'):l4 C ρ s Q b s'
def TV(C:Cx)(r:Nat)(env:Env)(e:Expr)(f:TF):Prop:=
 ∀ ⦃A:Around⦄⦃s:Shared⦄⦃ρ:List Lc⦄⦃H:MH⦄⦃lo:Lo⦄⦃Q:Bool->MH->Prop⦄,Room r A->Sim C H ρ s->Fm C env ρ s lo->f lo H Q->
  wpAny C.M A (isTrue e env (eval e env)) (l4 C ρ s Q) NoE s
theorem TV.run{e:Expr}{f:TF}(h:TV C r env e f){A:Around}{s:Shared}{ρ:List Lc}{H:MH}{lo:Lo}{Q:Bool->MH->Prop}{K:Bool->Shared->Prop}{E:Value->Shared->Prop}(hr:Room r A)(S:Sim C H ρ s)(F:Fm C env ρ s lo)(q:f lo H Q)
  (k:∀ {b s' ρ' H'},Sim C H' ρ' s'->Nx ρ noW s ρ' s'->Q b H'->K b s'):wpAny C.M A (isTrue e env (eval e env)) K E s:=wmN (h hr S F q) λ_ _ ⟨S,N,q⟩=>k S N q
theorem l4.from{ρ ρ1:List Lc}{s s1:Shared}{Q:Bool->MH->Prop}{b:Bool}{s':Shared}(N:Nx ρ noW s ρ1 s1)(p:l4 C ρ1 s1 Q b s'):l4 C ρ s Q b s':=let ⟨S,N',q⟩:=p;⟨S,N.trans N',q⟩
theorem xY{A:Around}{s:Shared}{ρ:List Lc}{H:MH}{u:Value}{v:V}{b:Bool}{E:Value->Shared->Prop}{K:Bool->Shared->Prop}(S:Sim C H ρ s)(rv:VR ρ s.heap u v)(e:tr v H=some b)
  (k:∀ n,K b {s with toks:=n}):wpAny C.M A (truthy u) K E s:=by
 cases v with
 |none=>cases e;cases(show u= .none from rv.inv);exact PyProof.Rows.truthy_none (k s.toks)
 |bool b'=>cases e;cases(show u= .bool b from rv.inv);exact wpAny_truthy_bool (k s.toks)
 |int i=>cases e;refine xE rv.inv λt z20=>?_;subst z20;exact truthy_int (k s.toks)
 |str x=>
  refine xE rv.inv λt z21=>?_;subst z21
  have e:(if x.length<1000000 then some ((x.length:Int) != 0) else none)=some b:=e
  by_cases hl:x.length<1000000
  ·rw[if_pos hl]at e
   have e:=Option.some.inj e
   subst e
   exact PySem.P.truthy_str (by omega) (k _)
  ·rw[if_neg hl]at e;cases e
 |ref g=>
  refine xEA (Option.bind_eq_some_iff.mp e) λvs hl e=>?_
  refine cJ (cZ S rv hl) λa xs z22 h2 h3=>?_;subst z22
  by_cases hlen:vs.length<1000000
  ·rw[if_pos hlen]at e
   have hsz:=h3.sz
   refine wpAny_truthy_list h2 (by omega) ?_
   have hb:(! xs.isEmpty)=b:=by
    rw [<-Option.some.inj e]
    unfold Array.isEmpty
    rw [hsz]
    cases vs<;>rfl
   exact hb▸k _
  ·rw[if_neg hlen]at e;cases e
 |_=>first |exact aI e |cases e
def tE(f:EF):TF:=λlo H Q=>f lo H λv H1=>Lf (tr v H1) λb=>Q b H1
theorem lS{A:Around}{s s1:Shared}{ρ ρ1:List Lc}{H:MH}{u:Value}{v:V}{Q:Bool->MH->Prop}{E:Value->Shared->Prop}(S:Sim C H ρ1 s1)(N:Nx ρ noW s ρ1 s1)(rv:VR ρ1 s1.heap u v)(e:Lf (tr v H) λb=>Q b H):
  wpAny C.M A (truthy u) (l4 C ρ s Q) E s1:=e.elim λb e q=>xY S rv e λ_=>⟨S.toks _,N.trans (.toks _),q⟩
theorem TV.val{e:Expr}{f:EF}(h:EV C r env e f)(he:isTrue e env (eval e env)=(do let v<-eval e env;standAt e.pos;holding [v] (truthy v)):=by exact rfl):TV C r env e (tE f):=
 λ_ _ _ _ _ _ hr S F g=>wpAny_isTrue_value (h.run hr S F g λS1 N1 r1 q=>lS S1 N1 r1 q) he
def tNot(f:TF):TF:=λlo H Q=>f lo H λb H'=>Q (!b) H'
theorem TV.not{e:Expr}{pos:Pos}{f:TF}(h:TV C r env e f):TV C r env (.UnaryOp .Not e pos) (tNot f):=
 λ_ _ _ _ _ _ hr S F g=>wpAny_isTrue_Not (h.run hr S F g λS N q=>⟨S,N,q⟩)
theorem TV.cmp1{e1 e2:Expr}{op:CmpOp}{pos:Pos}{f1 f2:EF}{g:OpF}(h1:EV C r env e1 f1)(h2:EV C r env e2 f2)(ho:OpR C r (compareOp op) g)(hm:behindInMarks op e2=false:=by exact rfl):TV C r env (.Compare e1 [op] [e2] pos) (tE (aB g f1 f2)):=
 λ_ _ _ _ _ _ hr S F q=>wpAny_isTrue_Compare1 (EV.two h1 h2 hr S F q λS2 N2 rx ry q=>b6.run (ho hr S2 rx ry q) λS3 N3 r3 q=>lS S3 (N2.trans N3) r3 q) hm
end
section
variable {C:Cx}{r:Nat}{env:Env}
def aU(f g:TF):TF:=λlo H Q=>f lo H λb H1=>bif b then g lo H1 Q else Q false H1
def tK(b:Bool):TF:=λ_ H Q=>Q b H
def bD(C:Cx)(r:Nat)(env:Env)(op:BoolOp)(es:List Expr)(f:TF):Prop:=
 ∀ ⦃A:Around⦄⦃s:Shared⦄⦃ρ:List Lc⦄⦃H:MH⦄⦃lo:Lo⦄⦃Q:Bool->MH->Prop⦄,Room r A->Sim C H ρ s->Fm C env ρ s lo->f lo H Q->
  wpAny C.M A (allTrue op es env) (l4 C ρ s Q) NoE s
theorem bD.and_nil:bD C r env .And [] (tK true):=λ_ _ _ _ _ _ _ S _ q=>wpAny_allTrue_And_nil ⟨S,.refl,q⟩
theorem bD.and_cons{e:Expr}{es:List Expr}{f g:TF}(h:TV C r env e f)(hs:bD C r env .And es g):bD C r env .And (e :: es) (aU f g):=
 λ_ _ _ _ _ _ hr S F q=>wpAny_allTrue_And_cons (h.run hr S F q λ{b _ _ _} S1 N1 q=>match b,q with
  |true,q=>wmN (hs hr S1 (F.nx N1) q) λ_ _ p=>p.from N1
  |false,q=>⟨S1,N1,q⟩)
theorem TV.boolOp{op:BoolOp}{es:List Expr}{pos:Pos}{f:TF}(h:bD C r env op es f):TV C r env (.BoolOp op es pos) f:=λ_ _ _ _ _ _ hr S F e=>wpAny_isTrue_BoolOp (h hr S F e)
def eIf(t:TF)(f g:EF):EF:=λlo H Q=>t lo H λb H1=>bif b then f lo H1 Q else g lo H1 Q
theorem EV.ifExp{t e1 e2:Expr}{pos:Pos}{ft:TF}{f1 f2:EF}(ht:TV C r env t ft)(h1:EV C r env e1 f1)(h2:EV C r env e2 f2):EV C r env (.IfExp t e1 e2 pos) (eIf ft f1 f2):=
 λ_ _ _ _ _ _ hr S F q=>wpAny_IfExp (ht.run hr S F q λ{b _ _ _} S1 N1 q=>match b,q with
  |true,q=>wmN (h1 hr S1 (F.nx N1) q) λ_ _ p=>p.from N1
  |false,q=>wmN (h2 hr S1 (F.nx N1) q) λ_ _ p=>p.from N1)
def dR(f:EF):EF:=λlo H Q=>f lo H λv H1=>Lf (Ti v) λi=>Q (.int (-i)) H1
theorem EV.neg{e:Expr}{pos:Pos}{f:EF}(h:EV C r env e f):EV C r env (.UnaryOp .USub e pos) (dR f):=
 λ_ _ _ _ _ _ hr S F q=>wpAny_UnaryOp (h.run hr S F q λ{x s' _ _ _} S1 N1 r1 q=>q.elim λi e q=>VR.ti (P:=λx=>wpAny C.M _ (unaryOp .USub x) _ _ s') r1 e λt=>neg_int ⟨S1.toks _,N1.trans (.toks _),.int _ _,q⟩)
noncomputable abbrev EFs:=Lo->MH->(List V->MH->Prop)->Prop
def esN:EFs:=λ_ H Q=>Q [] H
def esC(f:EF)(g:EFs):EFs:=λlo H Q=>f lo H λv H1=>g lo H1 λvs H2=>Q (v :: vs) H2
inductive wC(C:Cx)(ρ:List Lc)(s:Shared)(Q:List V->MH->Prop)(xs:List Value)(s':Shared):Prop
 |mk {ρ':List Lc}{vs:List V}{H':MH} (S:Sim C H' ρ' s') (N:Nx ρ noW s ρ' s') (r:VRs ρ' s'.heap xs vs) (q:Q vs H'):wC C ρ s Q xs s'
def EVs(C:Cx)(r:Nat)(env:Env)(es:List Expr)(f:EFs):Prop:=
 ∀ ⦃A:Around⦄⦃s:Shared⦄⦃ρ:List Lc⦄⦃H:MH⦄⦃lo:Lo⦄⦃Q:List V->MH->Prop⦄⦃pos:Pos⦄,Room r A->Sim C H ρ s->Fm C env ρ s lo->f lo H Q->
  wpAny C.M A (spliced (backTo pos (starEach es env))) (wC C ρ s Q) NoE s
theorem EVs.nil:EVs C r env [] esN:=λ_ _ _ _ _ _ _ _ S _ q=>wpAny_items_nil ⟨S,.refl,.nil,q⟩
theorem EVs.cons{e:Expr}{es:List Expr}{f:EF}{g:EFs}(h:EV C r env e f)(hs:EVs C r env es g)(he:starEach (e :: es) env=(false,eval e env) :: starEach es env:=by exact rfl):EVs C r env (e :: es) (esC f g):=
 λ_ _ _ _ _ _ _ hr S F q=>wpAny_items_cons (h.run hr S F q λS1 N1 r1 q=>wmN (hs hr S1 (F.nx N1) q) λ_ _ ⟨S2,N2,r2,q⟩=>⟨S2,N1.trans N2,.cons (r1.nx N2) r2,q⟩) he
def bY(g:EFs):EF:=λlo H Q=>g lo H λvs H1=>vs.length<100/\Q (.tup vs) H1
theorem EV.tuple{es:List Expr}{k:Nat}{pos:Pos}{g:EFs}(h:EVs C r env es g):EV C r env (.Tuple es k pos) (bY g):=
 λ_ _ _ _ _ _ hr S F q=>wpAny_Tuple (wmN (h hr S F q) λxs s1 ⟨S1,N1,r1,hl,q⟩=>⟨by rw[r1.length,sizeLine_eq];exact A2 hl,S1.push _,N1.trans (.push _),.tup (Heap.get?_push_size _ rfl) (by simpa using r1.mono (List.prefix_refl _) (iK _ _)),q⟩)
def mkL(vs:List V)(H:MH):Option (V×MH):=if vs.length<1000000 then some (.ref H.length,H++[.list vs]) else none
theorem j4{vs:List V}{H:MH}{p:V×MH}{P:Prop}(e:mkL vs H=some p)(k:vs.length<1000000->p=(.ref H.length,H++[.list vs])->P):P:=by
 unfold mkL at e
 split at e
 ·rename_i h;exact k h (Option.some.inj e).symm
 ·first |exact aI e |cases e
def dF(g:EFs):EF:=λlo H Q=>g lo H λvs H1=>Lp (mkL vs H1) Q
theorem Sim.newList{H:MH}{ρ:List Lc}{s:Shared}{xs:Array Value}{vs:List V}(S:Sim C H ρ s)(hr:VRs ρ s.heap xs.toList vs):
  EPo C ρ s (H++[.list vs]) (.ref H.length) (.ref s.heap.objs.size) {s with heap:=s.heap.push {cls:=.type "list",data:=.seq xs}}:=by
 refine⟨ρ++[⟨s.heap.objs.size,s.heap.objs.size,none⟩],S.alloc {cls:=.type "list",data:=.seq xs} (.list vs) ⟨rfl,rfl,xs,0,Heap.get?_push_size _ rfl,hr.mono (List.prefix_append _ _) (iK _ _)⟩,.alloc _,?_⟩
 exact VR.ref (l:=⟨s.heap.objs.size,s.heap.objs.size,none⟩) (by rw[<-S.len];simp)
theorem EV.list{es:List Expr}{pos:Pos}{g:EFs}(h:EVs C r env es g):EV C r env (.List es pos) (dF g):=
 λ_ _ _ _ _ _ hr S F q=>wpAny_List (wmN (h hr S F q) λxs s1 ⟨S1,N1,r1,q⟩=>q.elim λp e q=>j4 e λhl e=>by
  subst e
  exact⟨by rw[r1.length,sizeLine_eq];exact A3 hl,((S1.newList (by simpa using r1)).from N1).post q⟩)
def aH:OpF:=λa b H=>match Ti a,Ti b with
 |some x,some y=>some (.int (x+y),H)
 |_,_=>(lst H a).bind λxs=>(lst H b).bind λys=>mkL (xs++ys) H
theorem OpR.add:OpR C r (binaryOp .Add) aH:=by
 refine OpR.of ?_
 intro A s ρ H a b va vb v H' hr S ra rb e
 unfold aH at e
 split at e
 ·rename_i x y h1 h2
  cases e
  exact VR.ti (P:=λa=>wpAny C.M A (binaryOp .Add a b) _ _ _) ra h1 λt=>VR.ti (P:=λb=>wpAny C.M A (binaryOp .Add _ b) _ _ _) rb h2 λu=>add_int (.tok S (.int _ _))
 ·refine xEA (Option.bind_eq_some_iff.mp e) λxs h1 e=>?_
  refine xEA (Option.bind_eq_some_iff.mp e) λys h2 e=>?_
  refine j4 e λhl e=>?_
  cases e
  refine cJ (cZ S ra h1) λi us z23 o1 r1=>?_;subst z23
  refine cJ (cZ S rb h2) λj us' z24 o2 r2=>?_;subst z24
  have e1:=r1.sz;have e2:=r2.sz
  rw [List.length_append]at hl
  obtain⟨⟨cls,dd,data,sl⟩,ho,hc,n,hd⟩:=o1
  obtain⟨⟨cls2,dd2,data2,sl2⟩,ho2,hc2,n2,hd2⟩:=o2
  cases hc;cases hd;cases hc2;cases hd2
  exact concat_meets ⟨_,ho,rfl⟩ ⟨_,ho2,rfl⟩ noFill_list_add seq_list_add PySem.F.slot_list_add PySem.F.entry_list_add (PySem.F.args_list_add_2 _ _) (list_addW i j us us' n n2 dd dd2 sl sl2 (by rw[sizeLine_eq];exact A4 hl e1 e2)) ⟨ho,ho2,S.newList (by rw[Array.toList_append];exact r1.append r2)⟩
end
section
variable {C:Cx}{r:Nat}{env:Env}
inductive Fl where
 |next |brk |cont |ret (v:V)
inductive FlR(ρ:List Lc)(h:Heap):Flow->Fl->Prop
 |next:FlR ρ h .next .next
 |brk:FlR ρ h .brk .brk
 |cont:FlR ρ h .cont .cont
 |ret {u v} (r:VR ρ h u v):FlR ρ h (.ret u) (.ret v)
noncomputable abbrev SK:=Fl->Lo->MH->Prop
noncomputable abbrev SF:=Lo->MH->SK->Prop
inductive l5(C:Cx)(env:Env)(ρ:List Lc)(s:Shared)(Q:SK)(f:Flow)(s':Shared):Prop
 |mk {ρ':List Lc}{fl:Fl}{lo':Lo}{H':MH} (S:Sim C H' ρ' s') (N:Nx ρ (Wr env) s ρ' s') (F:Fm C env ρ' s' lo') (r:FlR ρ' s'.heap f fl) (q:Q fl lo' H'):l5 C env ρ s Q f s'
def SV(C:Cx)(r:Nat)(env:Env)(st:Stmt)(f:SF):Prop:=
 ∀ ⦃A:Around⦄⦃s:Shared⦄⦃ρ:List Lc⦄⦃H:MH⦄⦃lo:Lo⦄⦃Q:SK⦄,Room r A->Sim C H ρ s->Fm C env ρ s lo->f lo H Q->
  wpAny C.M A (exec st env) (l5 C env ρ s Q) NoE s
def SVs(C:Cx)(r:Nat)(env:Env)(st:List Stmt)(f:SF):Prop:=
 ∀ ⦃A:Around⦄⦃s:Shared⦄⦃ρ:List Lc⦄⦃H:MH⦄⦃lo:Lo⦄⦃Q:SK⦄,Room r A->Sim C H ρ s->Fm C env ρ s lo->f lo H Q->
  wpAny C.M A (execs st env) (l5 C env ρ s Q) NoE s
theorem l5.from{ρ ρ1:List Lc}{s s1:Shared}{Q:SK}{f:Flow}{s':Shared}(N:Nx ρ (Wr env) s ρ1 s1)(p:l5 C env ρ1 s1 Q f s'):l5 C env ρ s Q f s':=let ⟨S,N',F,r,q⟩:=p;⟨S,N.trans N',F,r,q⟩
theorem Nx.wr{ρ ρ':List Lc}{s s':Shared}{W:Addr->Prop}(N:Nx ρ noW s ρ' s'):Nx ρ W s ρ' s':=N.weaken λ_ q=>q.elim
def upd(lo:Lo)(x:Str)(v:V):Lo:=λy=>if y=x then some v else lo y
theorem c9{h h':Heap}{a:Addr}{o:Obj}(hs:Heap.SameBut a h h')(ho:h.get? a=some o)(hi: ¬aS o):Imm h h':=λb x e i=>by
 by_cases q:b=a
 ·subst q;rw[ho]at e;cases e;exact absurd i hi
 ·rw[hs.2 b q];exact e
theorem Sim.side{H:MH}{ρ:List Lc}{s:Shared}{h':Heap}{k:Nat}{a:Addr}{o:Obj}(S:Sim C H ρ s)(hs:Heap.SameBut a s.heap h')(ho:s.heap.get? a=some o)(hi: ¬aS o)(hown: ¬Own ρ a)(hb:C.base.heap.get? a=none):
  Sim C H ρ {s with heap:=h',toks:=k}:=by
 refine S.same (λb x e q=>?_) (c9 hs ho hi) (λ_ _ e=>e) rfl S.bare
 have:b≠a:=by
  rintro rfl
  refine Or.elim q (λq=>?_) λq=>?_
  ·exact hown q
  ·rw[hb]at q;cases q
 show h'.get? b=some x
 rw [hs.2 b this];exact e
theorem Nx.side{ρ:List Lc}{W:Addr->Prop}{s:Shared}{h':Heap}{k:Nat}{a:Addr}{o:Obj}(hs:Heap.SameBut a s.heap h')(ho:s.heap.get? a=some o)(hi: ¬aS o)(hw:W a)(ha:∃ o',h'.get? a=some o'):Nx ρ W s ρ {s with heap:=h',toks:=k}:=
 ⟨List.prefix_refl _,λl hl=>by simp at hl,λb x e _ hb=>by
  have:b≠a:=by rintro rfl;exact hb hw
  show h'.get? b=some x
  rw [hs.2 b this];exact e,c9 hs ho hi,λb x e=>by
  by_cases q:b=a
  ·rw[q];exact ha
  ·exact⟨x,by show h'.get? b=some x;rw[hs.2 b q];exact e⟩⟩
inductive dS(C:Cx)(env:Env)(W:Addr->Prop)(ρ:List Lc)(s:Shared)(Q:Lo->MH->Prop)(u:Unit)(s':Shared):Prop
 |mk {ρ':List Lc}{lo':Lo}{H':MH} (S:Sim C H' ρ' s') (N:Nx ρ W s ρ' s') (F:Fm C env ρ' s' lo') (q:Q lo' H'):dS C env W ρ s Q u s'
theorem dS.from{W:Addr->Prop}{ρ ρ1:List Lc}{s s1:Shared}{Q:Lo->MH->Prop}{s':Shared}{x:Unit}(N:Nx ρ W s ρ1 s1)(p:dS C env W ρ1 s1 Q x s'):dS C env W ρ s Q x s':=let ⟨S,N',F,q⟩:=p;⟨S,N.trans N',F,q⟩
theorem dS.run{α:Type}{W:Addr->Prop}{M:Model}{A:Around}{t:Sem Unit}{ρ:List Lc}{s:Shared}{Q:Lo->MH->Prop}{K:Unit->Shared->Prop}{E:Value->Shared->Prop}(h:wpAny M A t (dS C env W ρ s Q) NoE s)
  (k:∀ {x s' ρ' lo' H'},Sim C H' ρ' s'->Nx ρ W s ρ' s'->Fm C env ρ' s' lo'->Q lo' H'->K x s'):wpAny M A t K E s:=wmN h λ_ _ ⟨S,N,F,q⟩=>k S N F q
theorem iI{A:Around}{s:Shared}{ρ:List Lc}{H:MH}{lo:Lo}{x:Str}{u:Value}{v:V}{W:Addr->Prop}{K:Unit->Shared->Prop}{E:Value->Shared->Prop}(S:Sim C H ρ s)(F:Fm C env ρ s lo)(rv:VR ρ s.heap u v)
  (hk:(env.kindOf x=some .local/\W env.locals)∨(env.kindOf x=some .cell/\∀ c,env.cells.lookup x=some c->W c)) (k:∀ s',Sim C H ρ s'->Nx ρ W s ρ s'->Fm C env ρ s' (upd lo x v)->K () s'):wpAny C.M A (storeName env x u) K E s:=by
 rcases hk with ⟨hk,hW⟩ |⟨hk,hW⟩
 ·refine xEA F.ns λm hns hm=>?_
  refine fC (id hns) λo es ep ho hd hr=>?_
  have hi: ¬aS o:=by unfold aS;rw[hd];exact id
  refine wpAny_storeName_local hk hns (λh' hn hs=>?_) (by rw[F.fn];rfl)
  have fw:=F.own _ (.inl rfl)
  have im:=c9 hs ho hi
  refine k _ (S.side hs ho hi fw.1 fw.2) (.side hs ho hi hW (let ⟨o2,_,_,g,_⟩:=hn;⟨o2,g⟩)) ⟨F.fn,F.gl,F.bi,⟨_,hn,λy hy=>?_⟩,λy hy=>?_,F.own,F.dis,F.inj,λb hb=>?_⟩
  ·by_cases q:y=x
   ·simp only[upd,if_pos q];exact rv.mono (List.prefix_refl _) im
   ·simp only[upd,if_neg q];exact(hm y hy).mono (List.prefix_refl _) im
  ·refine cW (F.cl y hy) λc o' u' h1 h2 h3 h4=>?_
   have q:y≠x:=by rintro rfl;rw[hk]at hy;refine Or.elim hy (λhy=>?_) λhy=>?_<;>cases hy
   exact⟨c,o',u',h1,(hs.2 c (F.dis y c h1)).trans h2,h3,by simp only[upd,if_neg q];exact h4.mono (List.prefix_refl _) im⟩
  ·by_cases q:b=env.locals
   ·refine iA hn λo2 _ _ g _=>?_;rw[q];exact⟨o2,g⟩
   ·refine xE (F.alv b hb) λo2 g=>?_;exact⟨o2,(hs.2 b q).trans g⟩
 ·refine cW (F.cl x (.inl hk)) λc o u' h1 h2 h3 h4=>?_
  have hi: ¬aS o:=by unfold aS;rw[h3];exact id
  refine wpAny_storeName_cell F.fn hk h1 ⟨o,h2,h3⟩ (λh' hc hs=>?_)
  have fw:=F.own c (.inr ⟨x,h1⟩)
  have im:=c9 hs h2 hi
  refine k _ (S.side (k:=s.toks) hs h2 hi fw.1 fw.2) (.side (k:=s.toks) hs h2 hi (hW c h1) (let ⟨o2,g,_⟩:=hc;⟨o2,g⟩)) ⟨F.fn,F.gl,F.bi,?_,λy hy=>?_,F.own,F.dis,F.inj,λb hb=>?_⟩
  ·refine xEA F.ns λm hns hm=>?_
   refine⟨m,hns.sameBut hs (Ne.symm (F.dis x c h1)),λy hy=>?_⟩
   have q:y≠x:=by rintro rfl;rw[hk]at hy;cases hy
   simp only[upd,if_neg q];exact(hm y hy).mono (List.prefix_refl _) im
  ·by_cases q:y=x
   ·refine xEA hc λo2 g1 g2=>?_
    exact⟨c,o2,some u,q▸h1,g1,g2,by simp only[upd,if_pos q];exact rv.mono (List.prefix_refl _) im⟩
   ·refine cW (F.cl y hy) λc' o' u'' g1 g2 g3 g4=>?_
    exact⟨c',o',u'',g1,(hs.2 c' (λz=>q (F.inj y x c' g1 (z▸h1)))).trans g2,g3,by simp only[upd,if_neg q];exact g4.mono (List.prefix_refl _) im⟩
  ·by_cases q:b=c
   ·refine xEA hc λo2 g _=>?_;rw[q];exact⟨o2,g⟩
   ·refine xE (F.alv b hb) λo2 g=>?_;exact⟨o2,(hs.2 b q).trans g⟩
theorem wE{x:Str}(hk:env.kindOf x=some .local∨env.kindOf x=some .cell):(env.kindOf x=some .local/\Wr env env.locals)∨(env.kindOf x=some .cell/\∀ c,env.cells.lookup x=some c->Wr env c):=
 hk.imp (λh=>⟨h,.inl rfl⟩) λh=>⟨h,λ_ e=>.inr ⟨_,e⟩⟩
theorem aAs{A:Around}{s:Shared}{ρ:List Lc}{H:MH}{lo:Lo}{x:Str}{u:Value}{v:V}{Q:Lo->MH->Prop}(S:Sim C H ρ s)(F:Fm C env ρ s lo)(rv:VR ρ s.heap u v)(hk:env.kindOf x=some .local∨env.kindOf x=some .cell)(q:Q (upd lo x v) H):
  wpAny C.M A (storeName env x u) (dS C env (Wr env) ρ s Q) NoE s:=iI S F rv (wE hk) λ_ S N F=>⟨S,N,F,q⟩
def sK(fl:Fl):SF:=λlo H Q=>Q fl lo H
theorem SV.brk{pos}:SV C r env (.Break pos) (sK .brk):=λ_ _ _ _ _ _ _ S F q=>wpAny_Break ⟨S,.refl,F,.brk,q⟩
theorem SV.cont{pos}:SV C r env (.Continue pos) (sK .cont):=λ_ _ _ _ _ _ _ S F q=>wpAny_Continue ⟨S,.refl,F,.cont,q⟩
def jB(f:EF):SF:=λlo H Q=>f lo H λv H1=>Q (.ret v) lo H1
theorem SV.ret{e:Expr}{pos}{f:EF}(h:EV C r env e f):SV C r env (.Return (some e) pos) (jB f):=
 λ_ _ _ _ _ _ hr S F q=>wpAny_Return_some (h.run hr S F q λS1 N1 r1 q=>⟨S1,N1.wr,F.nx N1,.ret r1,q⟩)
theorem SV.ret0{pos}:SV C r env (.Return none pos) (sK (.ret .none)):=λ_ _ _ _ _ _ _ S F q=>wpAny_Return_none ⟨S,.refl,F,.ret .none,q⟩
def bP(x:Str)(f:EF):SF:=λlo H Q=>f lo H λv H1=>Q .next (upd lo x v) H1
theorem SV.assign{x:Str}{e:Expr}{pos pos'}{f:EF}(h:EV C r env e f)(hk:env.kindOf x=some .local∨env.kindOf x=some .cell:=by exact .inl ⋯)(hs:swapsWith e (some (.Name x pos')) pos.line env=pure false:=by exact rfl):SV C r env (.Assign [.Name x pos'] e pos) (bP x f):=
 λ_ _ _ _ _ _ hr S F q=>wpAny_Assign_Name (h.run hr S F q λS1 N1 r1 q=>iI S1 (F.nx N1) r1 (wE hk) λ_ S2 N2 F2=>⟨S2,N1.wr.trans N2,F2,.next,q⟩) hs
def sIf(t:TF)(f g:SF):SF:=λlo H Q=>t lo H λb H1=>bif b then f lo H1 Q else g lo H1 Q
theorem SV.ite{t:Expr}{b1 b2:List Stmt}{pos}{ft:TF}{f g:SF}(ht:TV C r env t ft)(h1:SVs C r env b1 f)(h2:SVs C r env b2 g):SV C r env (.If t b1 b2 pos) (sIf ft f g):=
 λ_ _ _ _ _ _ hr S F q=>wpAny_If (ht.run hr S F q λ{b _ _ _} S1 N1 q=>match b,q with
  |true,q=>wmN (h1 hr S1 (F.nx N1) q) λ_ _ p=>p.from N1.wr
  |false,q=>wmN (h2 hr S1 (F.nx N1) q) λ_ _ p=>p.from N1.wr)
def bK(g:SF)(Q:SK):SK:=λfl lo H=>match fl with | .next=>g lo H Q |fl=>Q fl lo H
def aA(f g:SF):SF:=λlo H Q=>f lo H (bK g Q)
theorem SVs.nil:SVs C r env [] (sK .next):=λ_ _ _ _ _ _ _ S F q=>wpAny_execs_nil ⟨S,.refl,F,.next,q⟩
theorem SVs.cons{st:Stmt}{rest:List Stmt}{f g:SF}(h:SV C r env st f)(hs:SVs C r env rest g):SVs C r env (st :: rest) (aA f g):=by
 intro A s ρ H lo Q hr S F q
 rw [execs_cons]
 refine wpAny_bind (wmN (h hr S F q) λfw s1 p=>?_)
 obtain⟨S1,N1,F1,r1,q⟩:=p
 cases r1 with
 |next=>exact wmN (hs hr S1 F1 q) λ_ _ p=>p.from N1
 |brk=>exact wpAny_pure ⟨S1,N1,F1,.brk,q⟩
 |cont=>exact wpAny_pure ⟨S1,N1,F1,.cont,q⟩
 |ret r1=>exact wpAny_pure ⟨S1,N1,F1,.ret r1,q⟩
end
section
variable {C:Cx}{r:Nat}{env:Env}
theorem Sim.ext{H:MH}{ρ:List Lc}{s:Shared}{h':Heap}{k:Nat}(S:Sim C H ρ s)(hk:∀ b o,s.heap.get? b=some o->h'.get? b=some o):Sim C H ρ {s with heap:=h',toks:=k}:=
 S.same (λb o e _=>hk b o e) (d3 hk) (λ_ _ e=>e) rfl S.bare
theorem Nx.ext{ρ:List Lc}{W:Addr->Prop}{s:Shared}{h':Heap}{k:Nat}(hk:∀ b o,s.heap.get? b=some o->h'.get? b=some o):Nx ρ W s ρ {s with heap:=h',toks:=k}:=
 ⟨List.prefix_refl _,λl hl=>by simp at hl,λb o e _ _=>hk b o e,d3 hk,λb o e=>⟨o,hk b o e⟩⟩
theorem aC6{h h':Heap}(e:Heap.ExtBut h.objs.size h h'):∀ b o,h.get? b=some o->h'.get? b=some o:=
 λb o q=>e b o (Nat.ne_of_lt (Heap.lt_size q)) q
def at_(k:Int)(vs:List V):Option V:=if-1000000<k/\k<1000000 then(seqIndex? k vs.length).bind λj=>vs[j]? else none
def V.tp:V->Option (List V) | .tup vs=>some vs |_=>Option.none
def aM:OpF:=λa b H=>(Ti b).bind λk=>(match a.tp with |some vs=>at_ k vs |none=>(lst H a).bind (at_ k)).map λv=>(v,H)
theorem uZ{k:Int}{n j:Nat}(h:seqIndex? k n=some j):(0<=k/\j=k.toNat/\j<n)∨(k<0/\ -(n:Int)<=k/\j=(k+n).toNat/\j<n):=by
 unfold seqIndex? at h
 by_cases q:k<0
 ·simp only[q,if_true]at h
  split at h
  ·rename_i g;cases h;simp at g;right;exact A5 g
  ·cases h
 ·simp only[q,if_false]at h
  split at h
  ·rename_i g;cases h;simp at g;left;exact A6 g
  ·cases h
theorem xR{k:Int}{vs:List V}{v:V}{P:Prop}(e:at_ k vs=some v)(h:∀ j,-1000000<k->k<1000000->seqIndex? k vs.length=some j->vs[j]? =some v->P):P:=by
 unfold at_ at e
 split at e
 ·rename_i hk
  refine xEA (Option.bind_eq_some_iff.mp e) λj h1 h2=>?_
  exact h j hk.1 hk.2 h1 h2
 ·first |exact aI e |cases e
theorem VR.toTup{ρ:List Lc}{h:Heap}{u:Value}{v:V}{vs:List V}(r:VR ρ h u v)(e:v.tp=some vs):∃ a xs n,v= .tup vs/\u= .ref a/\h.get? a=some {cls:=.type "tuple",data:=.seq xs n}/\VRs ρ h xs.toList vs:=by
 cases v with
 |tup ws=>cases e;refine fC r.inv λa xs n h1 h2 h3=>?_;exact⟨a,xs,n,rfl,h1,h2,h3⟩
 |_=>first |exact aI e |cases e
theorem vO{A:Around}{s:Shared}{ρ:List Lc}{H:MH}{a b:Value}{va vb v:V}{H':MH}(S:Sim C H ρ s)(ra:VR ρ s.heap a va)(rb:VR ρ s.heap b vb)(e:aM va vb H=some (v,H')):
  H'=H/\∃ x,VR ρ s.heap x v/\(∀ Q:Value->Shared->Prop,Q x s->wpAny C.M A (getItem a b) Q NoE s)/\∃ T id,s.TypeIs a T/\typeLookup (.type T) "__getitem__" =pure (some (.builtin id)):=by
 refine xEA (Option.bind_eq_some_iff.mp e) λk hb e1=>?_
 refine xEA (Option.map_eq_some_iff.mp e1) λw e3 e2=>?_
 clear e e1
 cases e2
 refine VR.ti (P:=λb=>H=H/\∃ x,VR ρ s.heap x v/\(∀ Q:Value->Shared->Prop,Q x s->wpAny C.M A (getItem a b) Q NoE s)/\∃ T id,s.TypeIs a T/\typeLookup (.type T) "__getitem__" =pure (some (.builtin id))) rb hb λt=>⟨rfl,?_⟩
 split at e3
 ·rename_i vs hvs
  refine cW (ra.toTup hvs) λad xs n _ z25 g rs=>?_;subst z25
  refine xR e3 λj h1 h2 hj hv=>?_
  refine xEA (rs.get hv) λx hx rx=>?_
  refine⟨x,rx,λQ q=>?_,"tuple",_,⟨_,g,rfl⟩,slot_tuple_getitem.lookup⟩
  exact PyProof.Rows.getItem_tuple ⟨_,g,rfl,_,rfl⟩ (by omega) (by omega) (by rw[rs.sz];exact hj) (by simpa using hx) q
 ·refine xEA (Option.bind_eq_some_iff.mp e3) λvs hl e4=>?_
  refine cJ (cZ S ra hl) λad xs z26 h2 h3=>?_;subst z26
  have hlen:=h3.sz
  refine xR e4 λj k1 k2 hj hv=>?_
  refine xEA (h3.get hv) λx hx rx=>?_
  refine⟨x,rx,λQ q=>?_,"list",_,h2.typeIs,slot_list_getitem.lookup⟩
  rcases uZ hj with ⟨h0,rfl,hlt⟩ |⟨h0,h1,rfl,hlt⟩
  ·exact wpAny_getItem_list h2 h0 (by omega) (by simpa using hx) q
  ·exact wpAny_getItem_list_neg h2 h0 (A7 hlen h1) (by omega) (by rw[hlen];simpa using hx) q
theorem EV.idx{e1 e2:Expr}{pos:Pos}{f1 f2:EF}(h1:EV C r env e1 f1)(h2:EV C r env e2 f2)(hs:∀ o i,∃ ops,subscripted e2 false o i=operate ops (getItem o i):=by exact λ_ _=>⟨_,rfl⟩):EV C r env (.Subscript e1 e2 pos) (aB aM f1 f2):=
 λ_ _ _ _ _ _ hr S F q=>Subscript_ (EV.two h1 h2 hr S F q λ{x y s2 _ _ _ _} S2 N2 rx ry q=>q.elim λp e q=>by
  obtain⟨hH,z,rz,hz,T,id,hT,hl⟩:=vO (A:=_) S2 rx ry e
  refine xE (hs x y) λops ho=>?_
  exact tail_any hT hl (hz _ ⟨S2,N2,rz,hH▸q⟩) ho)
noncomputable abbrev AF:=V->Lo->MH->(Lo->MH->Prop)->Prop
def AVW(C:Cx)(W:Env->Addr->Prop)(r:Nat)(env:Env)(t:Expr)(f:AF):Prop:=
 ∀ ⦃A:Around⦄⦃s:Shared⦄⦃ρ:List Lc⦄⦃H:MH⦄⦃lo:Lo⦄⦃u:Value⦄⦃v:V⦄⦃Q:Lo->MH->Prop⦄,Room r A->Sim C H ρ s->Fm C env ρ s lo->VR ρ s.heap u v->f v lo H Q->
  wpAny C.M A (assign t env u) (dS C env (W env) ρ s Q) NoE s
noncomputable abbrev AV(C:Cx)(r:Nat)(env:Env)(t:Expr)(f:AF):Prop:=AVW C Wr r env t f
def aN(x:Str):AF:=λv lo H Q=>Q (upd lo x v) H
theorem AV.name{x:Str}{pos}(hk:env.kindOf x=some .local∨env.kindOf x=some .cell:=by exact .inl ⋯):AV C r env (.Name x pos) (aN x):=λ_ _ _ _ _ _ _ _ _ S F rv q=>wpAny_assign_Name (aAs S F rv hk q)
noncomputable abbrev AFs:=List V->Lo->MH->(Lo->MH->Prop)->Prop
def sN(C:Cx)(W:Env->Addr->Prop)(r:Nat)(env:Env)(ts:List Expr)(f:AFs):Prop:=
 ∀ ⦃A:Around⦄⦃s:Shared⦄⦃ρ:List Lc⦄⦃H:MH⦄⦃lo:Lo⦄⦃us:List Value⦄⦃vs:List V⦄⦃Q:Lo->MH->Prop⦄,Room r A->Sim C H ρ s->Fm C env ρ s lo->VRs ρ s.heap us vs->f vs lo H Q->
  wpAny C.M A (assignInOrder ((assignEach ts env).map (·.2)) us) (dS C env (W env) ρ s Q) NoE s
noncomputable abbrev AVs(C:Cx)(r:Nat)(env:Env)(ts:List Expr)(f:AFs):Prop:=sN C Wr r env ts f
def asN:AFs:=λvs lo H Q=>match vs with | []=>Q lo H |_=>False
def asC(f:AF)(g:AFs):AFs:=λvs lo H Q=>match vs with
 |v :: vs=>f v lo H λlo1 H1=>g vs lo1 H1 Q
 | []=>False
variable {W:Env->Addr->Prop}
theorem sN.nil:sN C W r env [] asN:=by
 intro A s ρ H lo us vs Q hr S F rv e
 cases rv with
 |nil=>exact wpAny_pure ⟨S,.refl,F,e⟩
 |cons _ _=>exact e.elim
theorem sN.cons{t:Expr}{ts:List Expr}{f:AF}{g:AFs}(h:AVW C W r env t f)(hs:sN C W r env ts g)(he:assignEach (t :: ts) env=(false,assign t env) :: assignEach ts env):sN C W r env (t :: ts) (asC f g):=by
 intro A s ρ H lo us vs Q hr S F rv e
 cases rv with
 |nil=>exact e.elim
 |cons a b=>
  rename_i u us v vs
  rw [he]
  show wpAny C.M A (do holding us (assign t env u);assignInOrder ((assignEach ts env).map (·.2)) us) _ _ s
  exact wpAny_bind (wpAny_holding (dS.run (α:=Unit) (h hr S F a e) λS1 N1 F1 q=>wmN (hs hr S1 F1 (b.nx N1) q) λ_ _ p=>p.from N1))
theorem AVs.nil:AVs C r env [] asN:=sN.nil
theorem AVs.cons{t:Expr}{ts:List Expr}{f:AF}{g:AFs}(h:AV C r env t f)(hs:AVs C r env ts g)(he:assignEach (t :: ts) env=(false,assign t env) :: assignEach ts env:=by exact rfl):AVs C r env (t :: ts) (asC f g):=sN.cons h hs he
def aTup(n:Nat)(g:AFs):AF:=λv lo H Q=>Lf v.tp λvs=>vs.length=n/\g vs lo H Q
theorem AVW.tuple{ts:List Expr}{k:Nat}{pos}{n:Nat}{g:AFs}(h:sN C W r env ts g)(hn:(assignEach ts env).length=n)(hstar:(assignEach ts env).findIdx? (·.1)=none):AVW C W r env (.Tuple ts k pos) (aTup n g):=
 λA s ρ H lo u v Q hr S F rv e=>e.elim λvs hv e=>by
  refine cW (rv.toTup hv) λa xs nn _ z27 gt rs=>?_;subst z27
  refine assign_Tuple_tuple hr.1 ⟨_,gt,rfl,_,rfl⟩ (by rw[hn,rs.sz];exact e.1.symm) hstar λh' he=>?_
  have hk:=aC6 he
  exact wmN (h hr (S.ext (k:=s.toks) hk) (F.nx (.ext hk)) (rs.mono (List.prefix_refl _) (d3 hk)) e.2) λ_ _ p=>p.from (.ext hk)
end
section
variable {C:Cx}{r:Nat}{env:Env}
structure NxI(ρ:List Lc)(X:Addr->Prop)(s:Shared)(ρ':List Lc)(s':Shared):Prop where
 pre:ρ<+:ρ'
 new:∀ l∈ρ'.drop ρ.length,s.heap.get? l.a=none/\s.heap.get? l.d=none
 kp:∀ b o,s.heap.get? b=some o->¬Own ρ b->¬X b->s'.heap.get? b=some o
 imm:Imm s.heap s'.heap
 al:∀ b o,s.heap.get? b=some o->¬X b->∃ o',s'.heap.get? b=some o'
noncomputable abbrev NK(σ:Type):=Option (V×σ)->MH->Prop
inductive oF(C:Cx){σ:Type}(mid:List Lc->Shared->σ->Value->Value->(Addr->Prop)->Prop)(ρ:List Lc)(s:Shared)(X:Addr->Prop)(x:Value)(Q:NK σ):Option Value->Shared->Prop
 |done {s' ρ' H'} (S:Sim C H' ρ' s') (I:NxI ρ X s ρ' s') (q:Q none H'):oF C mid ρ s X x Q none s'
 |item {s' ρ' H' v it' u} (S:Sim C H' ρ' s') (I:NxI ρ X s ρ' s') (r:VR ρ' s'.heap u v) (m:mid ρ' s' it' u x X) (q:Q (some (v,it')) H'):oF C mid ρ s X x Q (some u) s'
structure ItK(C:Cx) where
 σ:Type
 nx:σ->MH->NK σ->Prop
 rel:List Lc->Shared->σ->Value->(Addr->Prop)->Prop
 mid:List Lc->Shared->σ->Value->Value->(Addr->Prop)->Prop
 tg:Expr->Prop
 need:Nat
 mono:∀ {ρ ρ' s s' it x X},rel ρ s it x X->ρ<+:ρ'->Imm s.heap s'.heap->(∀ b o,X b->s.heap.get? b=some o->s'.heap.get? b=some o)->rel ρ' s' it x X
 alive:∀ {ρ s it x X},rel ρ s it x X->∀ b,X b->∃ o,s.heap.get? b=some o
 next:∀ {A:Around}{s ρ H it x X}{Q:NK σ}{r:Nat},need<=r->Room r A->Sim C H ρ s->rel ρ s it x X->(∀ b,X b->¬Own ρ b/\C.base.heap.get? b=none)->nx it H Q->
  wpAny C.M A (pyNext x) (oF C mid ρ s X x Q) NoE s
 lgo:∀ {A:Around}{s ρ H it x X u}{target:Expr}{r:Nat},Room r A->Sim C H ρ s->mid ρ s it u x X->tg target->(∀ b,X b->¬Own ρ b/\C.base.heap.get? b=none)->
  wpAny C.M A (letOwnedTupleGo target x u) (λ_ s'=>Sim C H ρ s'/\NxI ρ X s ρ s'/\rel ρ s' it x X) NoE s
noncomputable abbrev IF(K:ItK C):=Lo->MH->(K.σ->MH->Prop)->Prop
inductive wB(K:ItK C)(ρ:List Lc)(s:Shared)(Q:K.σ->MH->Prop)(y:Value)(s2:Shared):Prop
 |mk {ρ':List Lc}{X:Addr->Prop}{it:K.σ}{H':MH} (S:Sim C H' ρ' s2) (N:Nx ρ noW s ρ' s2) (R:K.rel ρ' s2 it y X) (hX:∀ b,X b->s.heap.get? b=none/\¬Own ρ' b/\C.base.heap.get? b=none) (q:Q it H'):wB K ρ s Q y s2
def IV(K:ItK C)(r:Nat)(env:Env)(e:Expr)(f:IF K):Prop:=
 ∀ ⦃A:Around⦄⦃s:Shared⦄⦃ρ:List Lc⦄⦃H:MH⦄⦃lo:Lo⦄⦃Q:K.σ->MH->Prop⦄,Room r A->Sim C H ρ s->Fm C env ρ s lo->f lo H Q->
  wpAny C.M A (eval e env) (λx s1=>wpAny C.M A (pyIter x) (wB K ρ s Q) NoE s1) NoE s
theorem dZ{H:MH}{ρ:List Lc}{s:Shared}(S:Sim C H ρ s){b:Addr}(h:s.heap.get? b=none): ¬Own ρ b:=qG (l:=⟨b,b,none⟩) S h h (.inl rfl)
theorem dL{H:MH}{ρ:List Lc}{s:Shared}(S:Sim C H ρ s){b:Addr}(h:s.heap.get? b=none):C.base.heap.get? b=none:=jU S h
theorem Sim.iterStep{H:MH}{ρ:List Lc}{s:Shared}{h':Heap}{a:Addr}(S:Sim C H ρ s)(hk:∀ b o,b≠a->s.heap.get? b=some o->h'.get? b=some o)(hi:∀ o,s.heap.get? a=some o->¬aS o)(ho: ¬Own ρ a)(hb:C.base.heap.get? a=none):
  Sim C H ρ {s with heap:=h'}/\NxI ρ (λb=>b=a) s ρ {s with heap:=h'}:=by
 have im:Imm s.heap h':=λb o e i=>by
  by_cases q:b=a
  ·subst q;exact absurd i (hi o e)
  ·exact hk b o q e
 refine⟨S.same (λb o e q=>hk b o ?_ e) im (λ_ _ e=>e) rfl S.bare,⟨List.prefix_refl _,λl hl=>by simp at hl,λb o e _ q=>hk b o q e,im,λb o e q=>⟨o,hk b o q e⟩⟩⟩
 rintro rfl
 refine Or.elim q (λq=>?_) λq=>?_
 ·exact ho q
 ·rw[hb]at q;cases q
theorem NxI.refl{ρ:List Lc}{X:Addr->Prop}{s:Shared}:NxI ρ X s ρ s:=
 ⟨List.prefix_refl _,λl hl=>by simp at hl,λ_ _ e _ _=>e,.refl _,λ_ o e _=>⟨o,e⟩⟩
def nC:List String:=["enumerate","zip","dict_itemiterator","dict_reverseitemiterator","odict_iterator","itertools.zip_longest","itertools.pairwise"]
theorem i9{M:Model}{A:Around}{s:Shared}{target:Expr}{a:Addr}{u:Value}{o:Obj}{T:String}{Q:Unit->Shared->Prop}{E:Value->Shared->Prop}(ho:s.heap.get? a=some o)(hc:o.cls= .type T)(hT:nC.contains T=false)(h:Q () s):
  wpAny M A (letOwnedTupleGo target (.ref a) u) Q E s:=by
 have key:wpAny M A (do
   let (.ref r,.ref b):=(Value.ref a,u) |return
   let o<-load r
   match o.cls,o.data with
   | .type n,.fields vs=>
    if ["enumerate","zip","dict_itemiterator","dict_reverseitemiterator","odict_iterator","itertools.zip_longest","itertools.pairwise"].contains n && vs[0]? ==some (rawInt b) then
     rule "for.unpacks-the-owned-tuple"
     updateField r 0 .none
   |_,_=>pure ():Sem Unit) Q E s:=by
  cases u with
  |ref b=>
   refine wpAny_bind (wpAny_load ho ?_)
   rw [hc]
   have hT': ["enumerate","zip","dict_itemiterator","dict_reverseitemiterator","odict_iterator","itertools.zip_longest","itertools.pairwise"].contains T=false:=hT
   cases o.data<;>first |exact wpAny_pure h | (dsimp only;rw[hT'];exact wpAny_pure h)
  |_=>exact wpAny_pure h
 cases target<;>first |exact wpAny_pure h |exact key
theorem c0{H1:MH}{ρ ρ1:List Lc}{s s1:Shared}(N1:Nx ρ noW s ρ1 s1)(S1:Sim C H1 ρ1 s1){b:Addr}(hb:s1.heap.get? b=none):s.heap.get? b=none/\¬Own ρ1 b/\C.base.heap.get? b=none:=by
 refine⟨?_,dZ S1 hb,dL S1 hb⟩
 cases e':s.heap.get? b with
 |none=>rfl
 |some o=>refine xE (N1.al _ _ e') λo' e''=>?_;rw[hb]at e'';cases e''
structure ItP(C:Cx)(σ:Type) where
 nx:σ->MH->Option (Option (V×σ))
 rel:List Lc->Shared->σ->Addr->Prop
 T:String
 own:nC.contains T=false
 mono:∀ {ρ ρ' s s' it a},rel ρ s it a->ρ<+:ρ'->Imm s.heap s'.heap->(∀ o,s.heap.get? a=some o->s'.heap.get? a=some o)->rel ρ' s' it a
 obj:∀ {ρ s it a},rel ρ s it a->∃ o,s.heap.get? a=some o/\o.cls= .type T/\¬aS o
 item:∀ {A:Around}{s ρ H it a v it'}{Q:Option Value->Shared->Prop},A.handled=none->Sim C H ρ s->rel ρ s it a->nx it H=some (some (v,it'))->
  (∀ u h' k,Heap.SameBut a s.heap h'->VR ρ s.heap u v->(∀ s':Shared,s'.heap=h'->Imm s.heap h'->rel ρ s' it' a)->Q (some u) {s with heap:=h',toks:=k})->wpAny C.M A (pyNext (.ref a)) Q NoE s
 fin:∀ {A:Around}{s ρ H it a}{Q:Option Value->Shared->Prop},A.handled=none->Sim C H ρ s->rel ρ s it a->nx it H=some none->
  (∀ h',Heap.ExtBut a s.heap h'->Q none {s with heap:=h'})->wpAny C.M A (pyNext (.ref a)) Q NoE s
theorem Sim.iterK{H:MH}{ρ:List Lc}{s:Shared}{h':Heap}{a:Addr}{k:Nat}(S:Sim C H ρ s)(hk:∀ b o,b≠a->s.heap.get? b=some o->h'.get? b=some o)(hi:∀ o,s.heap.get? a=some o->¬aS o)(ho: ¬Own ρ a)(hb:C.base.heap.get? a=none):
  Sim C H ρ {s with heap:=h',toks:=k}/\NxI ρ (λb=>b=a) s ρ {s with heap:=h',toks:=k}:=
 let ⟨S',I⟩:=S.iterStep hk hi ho hb;⟨S'.toks k,⟨I.pre,I.new,I.kp,I.imm,I.al⟩⟩
def ItP.it{σ:Type}(P:ItP C σ):ItK C where
 σ:=σ
 nx:=λit H Q=>Lf (P.nx it H) λy=>Q y H
 rel:=λρ s it x X=>∃ a,x= .ref a/\X=(λb=>b=a)/\P.rel ρ s it a
 mid:=λρ s it u x X=>∃ a,x= .ref a/\X=(λb=>b=a)/\P.rel ρ s it a
 tg:=λ_=>True
 need:=0
 mono:=λ⟨a,hx,hX,h⟩ e i hk=>⟨a,hx,hX,P.mono h e i λo q=>hk a o (hX▸rfl) q⟩
 alive:=λ⟨a,_,hX,h⟩ b hb=>by subst hX;subst hb;refine xEA (P.obj h) λo ho _=>?_;exact⟨o,ho⟩
 next:=by
  rintro A s ρ H it x X Q r _ hr S ⟨a,rfl,rfl,h⟩ hX e
  refine c8 (P.obj h) λo ho hc hi=>?_
  have hi':∀ o,s.heap.get? a=some o->¬aS o:=λo' e'=>by rw[ho]at e';cases e';exact hi
  have hXa:=hX a rfl
  refine e.elim λy ey q=>?_
  cases y with
  |some p=>
   refine P.item hr.1 S h ey λu h' k hs ru hrel=>?_
   refine xA (S.iterK (h':=h') (k:=k) (λb o hb e=>by rw[hs.2 b hb];exact e) hi' hXa.1 hXa.2) λS' I=>?_
   exact .item S' I (ru.mono (List.prefix_refl _) I.imm) ⟨a,rfl,rfl,hrel _ rfl I.imm⟩ q
  |none=>
   refine P.fin hr.1 S h ey λh' he=>?_
   refine xA (S.iterK (h':=h') (k:=s.toks) (λb o hb e=>he b o hb e) hi' hXa.1 hXa.2) λS' I=>?_
   exact .done S' I q
 lgo:=by
  rintro A s ρ H it x X u target r hr S ⟨a,rfl,rfl,h⟩ _ hX
  refine c8 (P.obj h) λo ho hc hi=>?_
  exact i9 ho hc P.own ⟨S,.refl,a,rfl,rfl,h⟩
def pList(C:Cx):ItP C (Nat×Nat) where
 nx:=λit H=>(lst H (.ref it.1)).map λvs=>(vs[it.2]?).map λv=>(v,(it.1,it.2+1))
 rel:=λρ s it a=>∃ l,ρ[it.1]? =some l/\s.heap.IsListIter a l.a it.2
 T:="list_iterator"
 own:=by decide
 mono:=λ⟨l,h1,o,h2,h3⟩ e i hk=>⟨l,aL e h1,o,hk o h2,h3⟩
 obj:=λ⟨l,h1,o,h2,h3,h4⟩=>⟨o,h2,h3,by unfold aS;rw[h4];simp [h3]⟩
 item:=λhh S ⟨l,h1,hit⟩ e k=>by
  refine xEA (Option.map_eq_some_iff.mp e) λvs hl e=>?_
  refine xEA (Option.map_eq_some_iff.mp e) λv hv e=>?_
  cases e
  refine cJ (cZ S (.ref h1) hl) λad xs q1 q2 q3=>?_
  cases q1
  refine xEA (q3.get hv) λu hu ru=>?_
  exact wpAny_pyNext_list_item hit q2 (by simpa using hu) λh' hit2 hs=>k u h' _ hs ru λs' hs' _=>⟨l,h1,hs'▸hit2⟩
 fin:=λhh S ⟨l,h1,hit⟩ e k=>by
  refine xEA (Option.map_eq_some_iff.mp e) λvs hl e=>?_
  refine cJ (cZ S (.ref h1) hl) λad xs q1 q2 q3=>?_
  cases q1
  exact wpAny_pyNext_list_end hh hit q2 (Array.getElem?_eq_none (by rw[q3.sz];exact List.getElem?_eq_none_iff.mp (Option.map_eq_none_iff.mp e))) λh' he=>k h' he
noncomputable abbrev b9(C:Cx):ItK C:=(pList C).it
def iL(f:EF):Lo->MH->(Nat×Nat->MH->Prop)->Prop:=λlo H Q=>f lo H λv H1=>Lf v.rf λi=>(∃ vs,lst H1 (.ref i)=some vs)/\Q (i,0) H1
theorem IV.list{e:Expr}{f:EF}(h:EV C r env e f):IV (b9 C) r env e (iL f):=
 λ_ _ _ _ _ _ hr S F q=>h.run hr S F q λS1 N1 r1 q=>q.elim λi hi q=>by
  refine c8 (r1.toRef hi) λl z28 z29 g=>?_;subst z28;subst z29
  refine xA q λz30 q=>?_;obtain⟨vs,hl⟩:=z30
  refine cJ (cZ S1 r1 hl) λad xs e q2 q3=>?_
  cases e
  exact wpAny_pyIter_list q2 ⟨S1.push _,N1.trans (.push _),⟨_,rfl,rfl,l,g,_,Heap.get?_push_size _ rfl,rfl,rfl⟩,λb hb=>by rw[show b=_ from hb];exact c0 N1 S1 (bG _),q⟩
def tI(again:Lo->MH->SK->Prop)(Q:SK):SK:=λfl lo H=>match fl with | .next=>again lo H Q | .cont=>again lo H Q | .brk=>Q .next lo H | .ret v=>Q (.ret v) lo H
def cY(K:ItK C)(tgt:AF)(body:SF):Nat->K.σ->Lo->MH->SK->Prop
 |0,_,_,_,_=>False
 |n+1,it,lo,H,Q=>K.nx it H λres H1=>match res with
  |none=>Q .next lo H1
  |some p=>tgt p.1 lo H1 λlo1 H2=>body lo1 H2 (tI (cY K tgt body n p.2) Q)
def xW(C:Cx)(env:Env)(ρ0:List Lc)(s0:Shared)(Q:SK):Result->Shared->Prop
 | .ok f,s'=>l5 C env ρ0 s0 Q f s'
 | .error _,_=>False
theorem Nx.stepI{ρ0 ρ ρ':List Lc}{W:Addr->Prop}{X:Addr->Prop}{s0 s s':Shared}(N:Nx ρ0 W s0 ρ s)(I:NxI ρ X s ρ' s')(hX:∀ b,X b->s0.heap.get? b=none):Nx ρ0 W s0 ρ' s':=by
 have nX:∀ {b:Addr}{o:Obj},s0.heap.get? b=some o->¬X b:=λe q=>by rw[hX _ q]at e;cases e
 refine⟨N.pre.trans I.pre,λl hl=>?_,λb o e ho hw=>I.kp b o (N.kp b o e ho hw) (N.own e ho) (nX e),N.imm.trans I.imm,λb o e=>let ⟨o',e'⟩:=N.al b o e;I.al b o' e' (nX e)⟩
 refine xE N.pre λt z31=>?_;subst z31
 refine xE I.pre λt' z32=>?_;subst z32
 rw [List.append_assoc,List.drop_left]at hl
 refine Or.elim (List.mem_append.mp hl) (λq=>?_) λq=>?_
 ·exact N.new l (by simpa using q)
 ·have n:=I.new l (by simpa using q)
  refine⟨?_,?_⟩
  ·cases e:s0.heap.get? l.a with
   |none=>rfl
   |some o=>refine xE (N.al _ _ e) λo' e'=>?_;rw[n.1]at e';cases e'
  ·cases e:s0.heap.get? l.d with
   |none=>rfl
   |some o=>refine xE (N.al _ _ e) λo' e'=>?_;rw[n.2]at e';cases e'
theorem Fm.nextI{ρ ρ':List Lc}{X:Addr->Prop}{s s':Shared}{lo:Lo}(F:Fm C env ρ s lo)(N:NxI ρ X s ρ' s')(hw:∀ b,Wr env b->¬X b):Fm C env ρ' s' lo:=by
 refine xEA F.ns λm z33 hm=>?_;obtain⟨o,es,ep,ho,hr⟩:=z33
 have k:∀ b o,Wr env b->s.heap.get? b=some o->s'.heap.get? b=some o:=λb o hb e=>N.kp b o e (F.own b hb).1 (hw b hb)
 have own:∀ {b:Addr}{o:Obj},s.heap.get? b=some o->¬Own ρ b->¬Own ρ' b:=by
  rintro b o hb h ⟨l,hl,hh⟩
  refine xE N.pre λt z34=>?_;subst z34
  refine Or.elim (List.mem_append.mp hl) (λq=>?_) λq=>?_
  ·exact h ⟨l,q,hh⟩
  ·have:=N.new l (by simpa using q)
   rcases hh with rfl |rfl
   ·rw[this.1]at hb;cases hb
   ·rw[this.2]at hb;cases hb
 refine⟨F.fn,F.gl,F.bi,⟨m,⟨o,es,ep,k _ _ (.inl rfl) ho,hr⟩,λx hx=>(hm x hx).mono N.pre N.imm⟩,λx hx=>?_,λb hb=>⟨(let ⟨o,e⟩:=F.alv b hb;own e (F.own b hb).1),(F.own b hb).2⟩,F.dis,F.inj,λb hb=>let ⟨o,e⟩:=F.alv b hb;⟨o,k b o hb e⟩⟩
 refine cW (F.cl x hx) λc o u h1 h2 h3 h4=>?_
 exact⟨c,o,u,h1,k _ _ (.inr ⟨x,h1⟩) h2,h3,h4.mono N.pre N.imm⟩
theorem NxI.owns{ρ ρ':List Lc}{X:Addr->Prop}{s s':Shared}(I:NxI ρ X s ρ' s'){b:Addr}{o:Obj}(e':s.heap.get? b=some o)(h: ¬Own ρ b): ¬Own ρ' b:=by
 rintro ⟨l,hl,hh⟩
 refine xE I.pre λt z35=>?_;subst z35
 refine Or.elim (List.mem_append.mp hl) (λz=>?_) λz=>?_
 ·exact h ⟨l,z,hh⟩
 ·have:=I.new l (by simpa using z)
  rcases hh with rfl |rfl
  ·rw[this.1]at e';cases e'
  ·rw[this.2]at e';cases e'
def Apart(C:Cx)(env:Env)(ρ:List Lc)(s0:Shared)(X:Addr->Prop):Prop:=∀ b,X b->s0.heap.get? b=none/\¬Own ρ b/\C.base.heap.get? b=none/\¬Wr env b
theorem Apart.two{ρ:List Lc}{s0:Shared}{X:Addr->Prop}(h:Apart C env ρ s0 X):∀ b,X b->¬Own ρ b/\C.base.heap.get? b=none:=λb q=>⟨(h b q).2.1,(h b q).2.2.1⟩
theorem tS{K:ItK C}{target:Expr}{body:List Stmt}{tgt:AF}{bf:SF}(ht:AV C r env target tgt)(hb:SVs C r env body bf)(htg:K.tg target/\K.need<=r):
  ∀ (n:Nat){A:Around}{s0 s:Shared}{ρ0 ρ:List Lc}{H:MH}{lo:Lo}{it:K.σ}{x:Value}{X:Addr->Prop}{Q:SK},Room r A->Nx ρ0 (Wr env) s0 ρ s->Sim C H ρ s->Fm C env ρ s lo->
   K.rel ρ s it x X->Apart C env ρ s0 X->cY K tgt bf n it lo H Q->codeAny C.M A (.forLoop target x body [] env) (xW C env ρ0 s0 Q) s
 |0,_,_,_,_,_,_,_,_,_,_,_,_,_,_,_,_,_,e=>e.elim
 |n+1,A,s0,s,ρ0,ρ,H,lo,it,x,X,Q,hr,N,S,F,R,hX,e=>by
  refine codeAny_of_tree ?_
  rw [Around.under_of_weight (c:=.forLoop target x body [] env) rfl rfl]
  show wpAny C.M A ((forTurn target x body [] env).onRaise (λx=>do noteFrame x env;theTreesLotGoes x)) _ _ s
  refine wpAny_onRaise (wpAny_mono (Q:=λfin s'=>match fin with
   | .done f=>xW C env ρ0 s0 Q (.ok f) s'
   | .again c'=>c'.quiet=true/\codeAny C.M A c' (xW C env ρ0 s0 Q) s') (E:=NoE) ?_ (λ_ _ z=>z) (λ_ _ z=>z.elim))
  unfold forTurn
  refine wpAny_bind (wpAny_standAt (wpAny_bind (wpAny_onRaise (wmN (K.next htg.2 hr S R hX.two e) λo s1 p=>?_))))
  cases p with
  |done S1 I1 q=>
   refine wpAny_pure ⟨rfl,codeAny_of_tree ?_⟩
   rw [Around.under_of_weight (c:=.block [] env) rfl rfl]
   show wpAny C.M A (do return Fin.done (<-(execs [] env).onRaise (λx=>do noteFrame x env;theTreesLotGoes x))) _ _ s1
   exact wpAny_bind (wpAny_onRaise (wpAny_execs_nil (wpAny_pure ⟨S1,N.stepI I1 (λb q=>(hX b q).1),F.nextI I1 (λb hw q=>(hX b q).2.2.2 hw),.next,q⟩)))
  |item S1 I1 ru R1 q=>
   have hX1:Apart C env _ s0 X:=λb q=>let ⟨o',e'⟩:=K.alive R b q;⟨(hX b q).1,I1.owns e' (hX b q).2.1,(hX b q).2.2⟩
   refine wpAny_bind (wmN (K.lgo (target:=target) hr S1 R1 htg.1 hX1.two) λ_ s2 p=>?_)
   refine xAA p λS2 I2 R2=>?_
   refine wpAny_bind (dS.run (α:=Unit) (ht hr S2 ((F.nextI I1 (λb hw q=>(hX b q).2.2.2 hw)).nextI I2 (λb hw q=>(hX1 b q).2.2.2 hw)) (ru.mono I2.pre I2.imm) q) λS3 N3 F3 q=>wpAny_bind (wmN (hb hr S3 F3 q) λf s4 p=>?_))
   obtain⟨S4,N4,F4,r4,q⟩:=p
   have N24:=N3.trans N4
   have N04:=((N.stepI I1 (λb q=>(hX b q).1)).stepI I2 (λb q=>(hX b q).1)).trans N24
   have go:∀ {q:cY K tgt bf n _ _ _ Q},codeAny C.M A (.forLoop target x body [] env) (xW C env ρ0 s0 Q) s4:=λ{q}=>
    tS ht hb htg n hr N04 S4 F4 (K.mono R2 N24.pre N24.imm (λb o q e'=>N24.kp b o e' (hX1 b q).2.1 (hX b q).2.2.2))
     (λb z=>let ⟨o',e'⟩:=K.alive R2 b z;⟨(hX b z).1,N24.own e' (hX1 b z).2.1,(hX b z).2.2⟩) q
   cases r4 with
   |next=>exact wpAny_pure ⟨rfl,go (q:=q)⟩
   |cont=>exact wpAny_pure ⟨rfl,go (q:=q)⟩
   |brk=>exact wpAny_pure ⟨S4,N04,F4,.next,q⟩
   |ret r4=>exact wpAny_pure ⟨S4,N04,F4,.ret r4,q⟩
def iJ(K:ItK C)(fi:IF K)(tgt:AF)(bf:SF):SF:=λlo H Q=>fi lo H λit H1=>∃ n,cY K tgt bf n it lo H1 Q
theorem SV.for_{K:ItK C}{target iter:Expr}{body:List Stmt}{pos}{fi:IF K}{tgt:AF}{bf:SF}(hi:IV K r env iter fi)(ht:AV C r env target tgt)(hb:SVs C r env body bf)(htg:K.tg target/\K.need<=r)(hs:∀ x,foldedSetIterable iter env x=pure x):
  SV C r env (.For target iter body [] pos) (iJ K fi tgt bf):=
 λ_ _ _ _ _ _ hr S F e=>wpAny_For (wmN (hi hr S F e) λx s1 h=>wmN h λy s2 ⟨S2,N2,R2,hX,q⟩=>by
  refine xE q λn q=>?_
  refine codeAny_mono (tS ht hb htg n hr N2.wr S2 (F.nx N2) R2 (λb q=>⟨(hX b q).1,(hX b q).2.1,(hX b q).2.2,λhw=>?_⟩) q) λrr s3 hL=>?_
  ·refine xE (F.alv b hw) λo e'=>?_;rw[(hX b q).1]at e';cases e'
  ·cases rr with
   |ok f=>exact hL
   |error _=>exact hL.elim) hs
end
section
variable {C:Cx}{r:Nat}{env:Env}
def runW(t:TF)(b:SF):Nat->Lo->MH->SK->Prop
 |0,_,_,_=>False
 |n+1,lo,H,Q=>t lo H λc H1=>bif c then b lo H1 (tI (runW t b n) Q) else Q .next lo H1
def lG(t:TF)(b:SF):SF:=λlo H Q=>∃ n,runW t b n lo H Q
inductive WInv(C:Cx)(env:Env)(t:TF)(b:SF)(Q:SK)(ρ:List Lc)(s:Shared)(n:Nat)(s1:Shared):Prop
 |mk {ρ1:List Lc}{H1:MH}{lo1:Lo} (S:Sim C H1 ρ1 s1) (N:Nx ρ (Wr env) s ρ1 s1) (F:Fm C env ρ1 s1 lo1) (e:runW t b n lo1 H1 Q):WInv C env t b Q ρ s n s1
theorem SV.while_{test:Expr}{body:List Stmt}{pos}{t:TF}{b:SF}(ht:TV C r env test t)(hb:SVs C r env body b):SV C r env (.While test body [] pos) (lG t b):=by
 intro A s ρ H lo Q hr S F e
 refine xE e λn e=>?_
 refine wpAny_While (codeAny_whileLoop (R:=λrr s'=>match rr with | .ok f=>l5 C env ρ s Q f s' | .error e=>cameBackBy C.M A env NoE e s') (WInv C env t b Q ρ s) ?_ n ⟨S,.refl,F,e⟩)
 intro n s1 p
 obtain⟨S1,N1,F1,e⟩:=p
 cases n with
 |zero=>exact e.elim
 |succ n=>
  refine ht.run hr S1 F1 e λ{y _ _ _} S2 N2 e=>?_
  have N02:=N1.trans N2.wr
  cases y with
  |false=>exact wpAny_execs_nil ⟨S2,N02,F1.nx N2,.next,e⟩
  |true=>
   refine wmN (hb hr S2 (F1.nx N2) e) λf s3 p=>?_
   obtain⟨S3,N3,F3,r3,e⟩:=p
   cases r3 with
   |next=>exact⟨n,Nat.lt_succ_self _,S3,N02.trans N3,F3,e⟩
   |cont=>exact⟨n,Nat.lt_succ_self _,S3,N02.trans N3,F3,e⟩
   |brk=>exact⟨S3,N02.trans N3,F3,.next,e⟩
   |ret r3=>exact⟨S3,N02.trans N3,F3,.ret r3,e⟩
def ALs(C:Cx)(r:Nat)(env:Env)(ts:List Expr)(f:AF):Prop:=
 ∀ ⦃A:Around⦄⦃s:Shared⦄⦃ρ:List Lc⦄⦃H:MH⦄⦃lo:Lo⦄⦃u:Value⦄⦃v:V⦄⦃Q:Lo->MH->Prop⦄,Room r A->Sim C H ρ s->Fm C env ρ s lo->VR ρ s.heap u v->f v lo H Q->
  wpAny C.M A (assignAll u ((assignEach ts env).map (·.2))) (dS C env (Wr env) ρ s Q) NoE s
theorem ALs.one{t:Expr}{f:AF}(h:AV C r env t f)(he:(assignEach [t] env).map (·.2)= [assign t env]:=by exact rfl):ALs C r env [t] f:=by
 intro A s ρ H lo u v Q hr S F rv e
 rw [he]
 exact h hr S F rv e
def iG(f g:AF):AF:=λv lo H Q=>f v lo H λlo1 H1=>g v lo1 H1 Q
theorem ALs.cons{t t2:Expr}{ts:List Expr}{f g:AF}(h:AV C r env t f)(hs:ALs C r env (t2 :: ts) g)(he:(assignEach (t :: t2 :: ts) env).map (·.2)=assign t env :: (assignEach (t2 :: ts) env).map (·.2))
  (hc:∃ x xs,(assignEach (t2 :: ts) env).map (·.2)=x :: xs):ALs C r env (t :: t2 :: ts) (iG f g):=by
 intro A s ρ H lo u v Q hr S F rv e
 rw [he]
 have key:wpAny C.M A (do holding [u] (assign t env u);assignAll u ((assignEach (t2 :: ts) env).map (·.2))) (dS C env (Wr env) ρ s Q) NoE s:=
  wpAny_bind (wpAny_holding (dS.run (α:=Unit) (h hr S F rv e) λS1 N1 F1 q=>wmN (hs hr S1 F1 (rv.nx N1) q) λ_ _ p=>p.from N1))
 refine xEE hc λx xs hx=>?_
 rw [hx]at key ⊢
 exact key
def cX(f:EF)(g:AF):SF:=λlo H Q=>f lo H λv H1=>g v lo H1 λlo' H2=>Q .next lo' H2
theorem SV.assigns{ts:List Expr}{e:Expr}{pos}{f:EF}{g:AF}(h:EV C r env e f)(ha:ALs C r env ts g)(hs:swapsWithSole ts e pos.line env=pure false:=by exact rfl)(hw:swappedStores ts e env=pure none:=by rfl'):
  SV C r env (.Assign ts e pos) (cX f g):=
 λ_ _ _ _ _ _ hr S F q=>wpAny_Assign_stores (h.run hr S F q λS1 N1 r1 q=>dS.run (α:=Unit) (ha hr S1 (F.nx N1) r1 q) λS2 N2 F2 q=>⟨S2,N1.wr.trans N2,F2,.next,q⟩) hs hw
def upds:List Str->List V->Lo->Option Lo
 | [],[],lo=>some lo
 |x :: xs,v :: vs,lo=>upds xs vs (upd lo x v)
 |_,_,_=>none
theorem aDx{A:Around}{Q:Lo->MH->Prop}{xs:List Str}:∀ {us:List Value}{vs:List V}{s:Shared}{ρ:List Lc}{H:MH}{lo lo':Lo},Sim C H ρ s->Fm C env ρ s lo->VRs ρ s.heap us vs->upds xs vs lo=some lo'->Q lo' H->
  (∀ x∈xs,env.kindOf x=some .local∨env.kindOf x=some .cell)->wpAny C.M A (assignInOrder (xs.map λn=>bindName env n) us) (dS C env (Wr env) ρ s Q) NoE s:=by
 induction xs with
 |nil=>
  intro us vs s ρ H lo lo' S F r e q _
  cases r with
  |nil=>cases e;exact wpAny_pure ⟨S,.refl,F,q⟩
  |cons=>exact aI e
 |cons x xs ih=>
  intro us vs s ρ H lo lo' S F r e q hk
  cases r with
  |nil=>exact aI e
  | @cons u us v vs a b=>
   show wpAny C.M A (do holding us (bindName env x u);assignInOrder (xs.map λn=>bindName env n) us) _ _ s
   exact wpAny_bind (wpAny_holding (bindName_ (iI S F a (wE (hk x (.head _))) λ_ S1 N1 F1=>wmN (ih S1 F1 (b.nx N1) e q (λy hy=>hk y (.tail _ hy))) λ_ _ p=>p.from N1)))
theorem VRs.rev{ρ:List Lc}{h:Heap}{us:List Value}{vs:List V}(r:VRs ρ h us vs):VRs ρ h us.reverse vs.reverse:=by
 induction us generalizing vs with
 |nil=>cases r;exact .nil
 |cons u us ih=>cases r with
  |cons a b=>simp only[List.reverse_cons];exact(ih b).append (.cons a .nil)
def d5(names:List Str)(f:EF):SF:=λlo H Q=>f lo H λv H1=>Lf v.tp λvs=>vs.length=names.length/\Lf (upds names.reverse vs.reverse lo) λlo'=>Q .next lo' H1
theorem SV.swap{elts:List Expr}{k:Nat}{tpos:Pos}{e:Expr}{pos}{names:List Str}{f:EF}(h:EV C r env e f)(hs:swapsWithSole [.Tuple elts k tpos] e pos.line env=pure false)(hw:swappedStores [.Tuple elts k tpos] e env=pure (some names))
  (hk:∀ x∈names,env.kindOf x=some .local∨env.kindOf x=some .cell):SV C r env (.Assign [.Tuple elts k tpos] e pos) (d5 names f):=
 λ_ _ _ _ _ _ hr S F q=>Assign_Tuple_swapped (h.run hr S F q λS1 N1 r1 q=>q.elim λvs hv q=>q.2.elim λlo1 h2 q2=>by
  refine cW (r1.toTup hv) λa xs nn _ z36 gt rs=>?_;subst z36
  rw [<-q.1,<-rs.sz]
  refine unpackItems_tuple hr.1 ⟨_,gt,rfl,_,rfl⟩ λh' he=>?_
  have hk':=aC6 he
  exact dS.run (α:=Unit) (aDx (S1.ext hk') ((F.nx N1).nx (.ext hk')) (rs.mono (List.prefix_refl _) (d3 hk')).rev h2 q2 (λx hx=>hk x (by simpa using hx))) λS2 N2 F2 q=>⟨S2,(N1.wr.trans (.ext hk')).trans N2,F2,.next,q⟩) hs hw
def sAug(x:Str)(g:OpF)(f:EF):SF:=λlo H Q=>Lf (lo x) λa=>f lo H λb H2=>Lp (g a b H2) λv H1=>Q .next (upd lo x v) H1
theorem SV.aug{x:Str}{e:Expr}{op:Operator}{pos' pos}{f:EF}{g:OpF}(h:EV C r env e f)(ho:OpR C r (inplaceOp op) g)(hk:env.kindOf x=some .local∨env.kindOf x=some .cell)(hc:(x==("__classdict__" :Str))=false):SV C r env (.AugAssign (.Name x pos') op e pos) (sAug x g f):=
 λ_ _ _ _ _ _ hr S F q=>q.elim λa hx q=>wpAny_AugAssign_Name (qB (hk.imp_right .inl) hc F hx λu ru=>h.run hr S F q λS2 N2 r2 q=>b6.run (ho hr S2 (ru.nx N2) r2 q) λS3 N3 r3 q=>
  iI S3 ((F.nx N2).nx N3) r3 (wE hk) λ_ S4 N4 F4=>⟨S4,(N2.trans N3).wr.trans N4,F4,.next,q⟩)
def aT(f:EF):SF:=λlo H Q=>f lo H λ_ H1=>Q .next lo H1
theorem SV.expr{e:Expr}{pos}{f:EF}(h:EV C r env e f)(hi:interactive env=false:=by exact rfl)(hs:swapsWith e none pos.line env=pure false:=by exact rfl):SV C r env (.Expr e pos) (aT f):=
 λ_ _ _ _ _ _ hr S F q=>wpAny_Expr_any (h.run hr S F q λS1 N1 r1 q=>⟨S1,N1.wr,F.nx N1,.next,q⟩) hi hs
def sNo:SF:=λ_ _ _=>False
theorem SVs.no{b:List Stmt}:SVs C r env b sNo:=λ_ _ _ _ _ _ _ _ _ q=>q.elim
end
section
section
variable {prog:Program}{w:World}{A:Around}{E:Value->Shared->Prop}{s:Shared}
theorem aAz{l:Addr}{items:Array Value}{n:Nat}{k:Int}{j:Nat}{t:Tok}{v:Value}{Q:Unit->Shared->Prop}(hl:IsL s.heap l items n)
  (hk: -1000000<k/\k<1000000) (hj:seqIndex? k items.size=some j)
  (hQ:Q () {s with heap:=s.heap.update l (Obj.mapSeq (·.setIfInBounds j v))}):
  wpAny (model prog w) A (setItem (.ref l) (.int k t) v) Q E s:=by
 have hl':=hl.isList
 refine wD (id hl') λo ho hc ne hd=>?_
 have hlt:j<items.size:=by refine Or.elim (uZ hj) (λh=>?_) λh=>?_<;>omega
 have hx':items[j]? =some items[j]:=Array.getElem?_eq_getElem hlt
 unfold setItem
 try with_reducible refine wpAny_holding ?_
 first |refine wpAny_bind (wpAny_pure ?_) |skip
 refine wpAny_bind (wpAny_sequenceKey hl'.typeIs (by decide) ?_)
 refine wpAny_bind (wpAny_callSpecial?_slot (name:=Str.ofString "__setitem__") hl'.typeIs slot_list_setitem
  (wpAny_call_entry slot_list_setitem hl'.typeIs entry_list_setitem ?_ (args_list_setitem _ _ _)))
 show wpAny _ _ (Builtin.List.listSubscript? (.int k t) >>=_) _ _ s
 have fin:∀ {Q':Fin->Shared->Prop},Q' (.done (.ret .none)) {s with heap:=s.heap.update l (Obj.mapSeq (·.setIfInBounds j v))}->wpAny (model prog w) A.in1 (do setSeqItemAt l j v;return<-ret .none) Q' E s:=
  λh=>wpAny_bind (wpAny_setSeqItemAt ho hd (wpAny_pure h))
 rcases uZ hj with ⟨h0,e,_⟩ |⟨h0,h1,e,_⟩
 ·refine wpAny_bind (wpAny_listSubscript_int (fitsIndex_of h0 (by omega)) ?_)
  refine xE (Int.eq_ofNat_of_zero_le h0) λj' z37=>?_;subst z37
  have:j=j':=by simpa using e
  subst this
  show wpAny _ _ ((seqItemAt l j >>=λr=>pure (r.map (j,·))) >>=_) _ _ s
  refine wpAny_bind (wpAny_bind (wpAny_seqItemAt ho hd (wpAny_pure ?_)))
  rw [hx']
  show wpAny _ _ (setSeqItemAt l j v >>=_) _ _ s
  refine wpAny_bind (wpAny_setSeqItemAt ho hd ?_)
  first
   |exact wpAny_bind (wpAny_pure (wpAny_pure ⟨.none,rfl,wpAny_pure hQ⟩))
   |exact wpAny_pure ⟨.none,rfl,wpAny_pure hQ⟩
 ·refine wpAny_bind (wpAny_listSubscript_int (fitsIndex_neg h0 (by omega)) ?_)
  have hidx:=seqIndex_neg h0 h1
  obtain⟨j',rfl⟩:∃ j:Nat,k=Int.negSucc j:=by
   cases k with
   |ofNat n=>exact absurd h0 (Int.not_lt.mpr (Int.natCast_nonneg n))
   |negSucc n=>exact⟨n,rfl⟩
  show wpAny _ _ ((Builtin.List.listItems (.ref l) >>=λxs=>pure ((seqIndex? (Int.negSucc j') xs.size).bind λi=>xs[i]?.map (i,·))) >>=_) _ _ s
  refine wpAny_bind (wpAny_bind ?_)
  show wpAny _ _ (seqItems? (.ref l) >>=_) _ _ s
  refine wpAny_bind (wpAny_seqItems ho hd (wpAny_pure (wpAny_pure ?_)))
  rw [hj]
  simp only[Option.bind_some,hx',Option.map_some]
  refine wpAny_bind (wpAny_setSeqItemAt ho hd ?_)
  first
   |exact wpAny_bind (wpAny_pure (wpAny_pure ⟨.none,rfl,wpAny_pure hQ⟩))
   |exact wpAny_pure ⟨.none,rfl,wpAny_pure hQ⟩
end
variable {C:Cx}{r:Nat}{env:Env}
theorem Sim.put{H:MH}{ρ:List Lc}{s:Shared}{h':Heap}{k:Nat}{i:Nat}{l:Lc}{m m':MO}{o:Obj}(S:Sim C H ρ s)(hl:ρ[i]? =some l)(hH:H[i]? =some m)(hd:l.d=l.a)(ho:s.heap.get? l.a=some o)(hi: ¬aS o)
  (hs:Heap.SameBut l.a s.heap h') (hn:∃ o,h'.get? l.a=some o) (h1:∀ vs,m≠ .ro vs) (h2:∀ vs,m'≠ .ro vs) (hm:Imm s.heap h'->OR C ρ {s with heap:=h',toks:=k} l m'):
  Sim C (H.set i m') ρ {s with heap:=h',toks:=k}/\∀ W,Nx ρ W s ρ {s with heap:=h',toks:=k}:=by
 have im:=c9 hs ho hi
 refine⟨S.upd (s':= {s with heap:=h',toks:=k}) hl hH h1 (λb o e hb=>(hs.2 b λq=>hb (.inl q)).trans e) im rfl rfl (hm im) h2,
  λW=>⟨List.prefix_refl _,λl hl=>by simp at hl,λb o e ho _=>(hs.2 b λq=>ho ⟨l,List.mem_of_getElem? hl,.inl q⟩).trans e,im,λb o e=>?_⟩⟩
 by_cases q:b=l.a
 ·rw[q];exact hn
 ·exact⟨o,(hs.2 b q).trans e⟩
theorem i8.put{H:MH}{ρ:List Lc}{s:Shared}{i:Nat}{l:Lc}{vs vs':List V}{xs:Array Value}{n:Nat}{k:Nat}(S:Sim C H ρ s)(O:i8 H ρ s i l vs xs n)(f:Array Value->Array Value)(hv:VRs ρ s.heap (f xs).toList vs'):
  Sim C (H.set i (.list vs')) ρ {s with heap:=s.heap.update l.a (Obj.mapSeq f),toks:=k}/\∀ W,Nx ρ W s ρ {s with heap:=s.heap.update l.a (Obj.mapSeq f),toks:=k}:=
 S.put O.g O.h O.d O.x (by simp [aS]) (Heap.SameBut.update ..) ⟨_,O.x.update f⟩ (by intro _ h;cases h) (by intro _ h;cases h) λim=>⟨O.d,O.gn,f xs,_,O.x.update f,hv.mono (List.prefix_refl _) im⟩
def dput(f:Int->Option V)(k:Int)(v:V):Int->Option V:=λx=>if x=k then some v else f x
theorem mU(kvs:List (Int×Value))(k x:Int)(v:Value):valueAt (stored kvs k v) x=if x=k then some v else valueAt kvs x:=by
 unfold stored
 by_cases hk:kvs.any (λkv=>decide (kv.1=k))=true
 ·rw[if_pos hk]
  by_cases hx:x=k
  ·subst hx
   rw [if_pos rfl]
   induction kvs with
   |nil=>simp at hk
   |cons a t ih=>
    by_cases ha:a.1=x
    ·simp [valueAt,ha]
    ·have hk2:t.any (λkv=>decide (kv.1=x))=true:=by simpa [ha] using hk
     have:=ih hk2
     simp only[valueAt,List.map_cons,ha,if_false,List.find?_cons,decide_false]at this ⊢
     exact this
  ·rw[if_neg hx]
   clear hk
   induction kvs with
   |nil=>rfl
   |cons a t ih=>
    by_cases ha:a.1=k
    ·have hax: ¬a.1=x:=by rw[ha];exact λe=>hx e.symm
     simp only[valueAt,List.map_cons,ha,if_true,List.find?_cons]at ih ⊢
     have h1:decide (k=x)=false:=by simpa using λe=>hx e.symm
     simp only[h1]
     exact ih
    ·by_cases hax:a.1=x
     ·subst hax
      simp only[valueAt,List.map_cons,ha,if_false,List.find?_cons,decide_true,Option.map_some]
     ·simp only[valueAt,List.map_cons,ha,if_false,List.find?_cons,hax,decide_false]at ih ⊢
      exact ih
 ·rw[if_neg hk]
  unfold valueAt
  rw [List.find?_append]
  by_cases hx:x=k
  ·subst hx
   have:kvs.find? (λkv=>decide (kv.1=x))=none:=by
    rw [List.find?_eq_none];intro a ha h;exact hk (List.any_eq_true.mpr ⟨a,ha,h⟩)
   simp [this]
  ·have:decide (k=x)=false:=by simpa using λe=>hx e.symm
   simp [hx,this]
theorem Sim.setD{H:MH}{ρ:List Lc}{s:Shared}{h':Heap}{tk:Nat}{i:Nat}{l:Lc}{kvs:List (Int×Value)}{n:Nat}{f:Int->Option V}{k:Int}{u:Value}{v:V}(S:Sim C H ρ s)(hl:ρ[i]? =some l)(hH:H[i]? =some (.dict n f))(hd:l.d=l.a)(hg:l.g=none)
  (hx:s.heap.DictOf (intKind C.prog C.w) l.a kvs) (hn:kvs.length<=n) (hf:∀ k,OV ρ s.heap (valueAt kvs k) (f k)) (rv:VR ρ s.heap u v)
  (hx':h'.DictOf (intKind C.prog C.w) l.a (stored kvs k u)) (hs:Heap.SameBut l.a s.heap h'):
  Sim C (H.set i (.dict (n+1) (dput f k v))) ρ {s with heap:=h',toks:=tk}/\∀ W,Nx ρ W s ρ {s with heap:=h',toks:=tk}:=by
 refine cW (id hx) λo es ep ho hc hdt _=>?_
 refine S.put hl hH hd ho (by unfold aS;rw[hdt];exact id) hs (let ⟨o,_,_,e,_⟩:=hx';⟨o,e⟩) (by intro _ h;cases h) (by intro _ h;cases h) λim=>⟨hd,hg,_,hx',Nat.le_trans (stored_length_le _ _ _) (Nat.succ_le_succ hn),λx=>?_⟩
 rw [mU]
 unfold dput
 by_cases hx:x=k
 ·rw[if_pos hx,if_pos hx];exact rv.mono (List.prefix_refl _) im
 ·rw[if_neg hx,if_neg hx];exact(hf x).mono (List.prefix_refl _) im
def setO(H:MH)(i:Nat)(k:Int)(v:V):MO->Option MH
 | .list vs=>if-1000000<k/\k<1000000 then(seqIndex? k vs.length).map λj=>H.set i (.list (vs.set j v)) else none
 | .dict n f=>if n<1000000 then some (H.set i (.dict (n+1) (dput f k v))) else none
 |_=>none
def yR(a b v:V)(H:MH):Option MH:=a.rf.bind λi=>(Ti b).bind λk=>H[i]?.bind (setO H i k v)
theorem VRs.set{ρ:List Lc}{h:Heap}{u:Value}{v:V}(r:VR ρ h u v):∀ {us:List Value}{vs:List V} (j:Nat),VRs ρ h us vs->VRs ρ h (us.set j u) (vs.set j v)
 |_,_,_,.nil=>.nil
 |_,_,0,.cons a b=>.cons r b
 |_,_,j+1,.cons a b=>.cons a (VRs.set r j b)
theorem uX{A:Around}{s:Shared}{ρ:List Lc}{H:MH}{a b u:Value}{va vb v:V}{H':MH}{K:Unit->Shared->Prop}{E:Value->Shared->Prop}(S:Sim C H ρ s)(ra:VR ρ s.heap a va)(rb:VR ρ s.heap b vb)(rv:VR ρ s.heap u v)(e:yR va vb v H=some H')
  (k:∀ s',Sim C H' ρ s'->(∀ W,Nx ρ W s ρ s')->K () s'):wpAny C.M A (setItem a b u) K E s:=by
 refine xEA (Option.bind_eq_some_iff.mp e) λi hi e1=>?_
 refine xEA (Option.bind_eq_some_iff.mp e1) λkk hk e2=>?_
 refine xEA (Option.bind_eq_some_iff.mp e2) λm hH e3=>?_
 refine c8 (ra.toRef hi) λl _ z38 g=>?_;subst z38
 refine VR.ti (P:=λb=>wpAny C.M A (setItem _ b u) _ _ s) rb hk λt=>?_
 clear e e1 e2
 cases m with
 |list vs=>
  replace e3:(if-1000000<kk/\kk<1000000 then(seqIndex? kk vs.length).map λj=>H.set i (.list (vs.set j v)) else none)=some H':=e3
  split at e3
  ·rename_i hk
   refine xEA (Option.map_eq_some_iff.mp e3) λj hj z39=>?_;subst z39
   refine xEE (g8 S g hH) λxs n O=>?_
   refine aAz O.x hk (by rw[O.r.sz];exact hj) ?_
   have:=O.put (k:=s.toks) S (λxs=>xs.setIfInBounds j u) (by simpa using VRs.set rv j O.r)
   exact k _ this.1 this.2
  ·cases e3
 |dict n f=>
  replace e3:(if n<1000000 then some (H.set i (.dict (n+1) (dput f kk v))) else none)=some H':=e3
  split at e3
  ·cases e3
   refine uP (S.objs i _ l hH g) λh1 h2 kvs hx hle hf=>?_
   refine wpAny_setItem_pairs (k:=kk) (intKind_is _ _ _ _) hx (λh' hx' hs=>?_) (by rw[sizeLine_eq];omega)
   have:=S.setD (tk:=s.toks+1) g hH h1 h2 hx hle hf rv hx' hs
   exact k _ this.1 this.2
  ·cases e3
 |_=>cases e3
def pS(f1 f2:EF):AF:=λv lo H Q=>f1 lo H λa H1=>f2 lo H1 λb H2=>Lf (yR a b v H2) λH3=>Q lo H3
theorem AV.sub{e1 e2:Expr}{pos:Pos}{f1 f2:EF}(h1:EV C r env e1 f1)(h2:EV C r env e2 f2):AV C r env (.Subscript e1 e2 pos) (pS f1 f2):=by
 intro A s ρ H lo u v Q hr S F rv e
 rw [assign_Subscript]
 exact wpAny_bind (wpAny_holding (h1.run hr S F e λS1 N1 r1 e=>wpAny_bind (wpAny_holding (h2.run hr S1 (F.nx N1) e λS2 N2 r2 e=>e.elim λH3 g3 q=>
  wpAny_bind (wpAny_standAt (wpAny_bind (wpAny_holding (uX S2 (r1.nx N2) r2 ((rv.nx N1).nx N2) g3 λ_ S3 N3=>wpAny_release ⟨S3,(N1.trans N2).wr.trans (N3 _),((F.nx N1).nx N2).nx (N3 _),q⟩))))))))
def uF:EF:=λ_ H Q=>Q (.ref H.length) (H++[.dict 0 λ_=>Option.none])
theorem EV.dict0{pos}:EV C r env (.Dict [] [] pos) uF:=λA s ρ H lo Q hr S F e=>
 wpAny_Dict_empty ⟨S.alloc {cls:=.type "dict",data:=.dict #[]} (.dict 0 λ_=>Option.none) ⟨rfl,rfl,[],⟨_,#[],0,Heap.get?_push_size _ rfl,⟨rfl,rfl,rfl⟩,rfl,λ_ he=>by simp at he,.nil,by simp⟩,Nat.le_refl _,λk=>trivial⟩,.alloc _,VR.ref (l:=⟨s.heap.objs.size,s.heap.objs.size,Option.none⟩) (by rw[<-S.len];simp),e⟩
end
section
variable {C:Cx}{r:Nat}{env:Env}
noncomputable abbrev CF:=List V->MH->EK->Prop
def Keeps(C:Cx)(f:Value):Prop:=∀ h:Heap,(∀ b o,C.base.heap.get? b=some o->h.get? b=some o)->∃ k,(k=Keeper.frame∨k=Keeper.machine∨k=Keeper.boundFrame)/\Looks C.M h (keeperOf f) k
structure CV(C:Cx)(r:Nat)(f:Value)(g:CF):Prop where
 keep:Keeps C f
 call:∀ {A:Around}{s:Shared}{ρ:List Lc}{H:MH}{us:List Value}{vs:List V}{Q:EK},Room r A->Sim C H ρ s->VRs ρ s.heap us vs->g vs H Q->
  wpAny C.M A (PySem.call f us) (b6 C ρ s Q) NoE s
theorem dM{id:String}:Keeps C (.builtin id):=λh _=>⟨.machine,.inr (.inl rfl),.now⟩
theorem dX{id:String}:Keeps C (.type id):=λh _=>⟨.machine,.inr (.inl rfl),.now⟩
def lf(g:List V->MH->Option (V×MH)):CF:=λvs H Q=>Lp (g vs H) Q
theorem CV.of{f:Value}{g:List V->MH->Option (V×MH)}(hk:Keeps C f)(h:∀ {A:Around}{s:Shared}{ρ:List Lc}{H:MH}{us:List Value}{vs:List V}{v:V}{H':MH},Room r A->Sim C H ρ s->VRs ρ s.heap us vs->g vs H=some (v,H')->
  wpAny C.M A (PySem.call f us) (EPo C ρ s H' v) NoE s):CV C r f (lf g):=⟨hk,λhr S hu q=>q.elim λp e q=>wmN (h hr S hu e) λ_ _ p=>p.post q⟩
def oH(env:Env)(es:List Expr):Prop:=(es= []∨∃ e rest,es=e :: rest/\starEach es env=(false,eval e env) :: starEach rest env)/\∀ pos,(backTo pos (starEach es env)).any (·.1)=false
theorem k4{es:List Expr}{fs:EFs}(h:EVs C r env es fs)(hf:oH env es){A:Around}{s:Shared}{ρ:List Lc}{H:MH}{lo:Lo}{Q:List V->MH->Prop}{pos:Pos}{f:Value}(hr:Room r A)(S:Sim C H ρ s)(F:Fm C env ρ s lo)(e:fs lo H Q):
  wpAny C.M A (evalArgs f true (backTo pos (starEach es env)) []) (λa s'=>a.kw= []/\wC C ρ s Q a.pos s') NoE s:=by
 have h1:=h (pos:=pos) hr S F e
 rcases hf.1 with rfl |⟨e1,rest,rfl,he⟩
 ·unfold evalArgs
  show wpAny C.M A (spliced [] >>=_) _ _ s
  refine wpAny_bind (wmN h1 λvs s' q=>wpAny_bind (wpAny_pure (wpAny_holding ?_)))
  exact wpAny_bind (wpAny_pure (wpAny_bind (wpAny_pure (wpAny_pure ⟨rfl,q⟩))))
 ·rw[he]at h1 ⊢
  exact evalArgs_plain (wmN h1 λ_ _ q=>⟨rfl,q⟩)
def Glo(C:Cx)(x:Str)(f:Value):Prop:=∃ mg,C.base.heap.Ns mainGlobals mg/\(mg x=some f∨(mg x=none/\∃ mb,C.base.heap.Ns builtinsNs mb/\mb x=some f))
theorem j3{h h':Heap}{a:Addr}{m:Str->Option Value}(hn:h.Ns a m)(hk:∀ b o,h.get? b=some o->h'.get? b=some o):h'.Ns a m:=
 let ⟨o,es,ep,ho,q⟩:=hn;⟨o,es,ep,hk _ _ ho,q⟩
theorem lL{x:Str}{f:Value}{pos:Pos}{A:Around}{s:Shared}{ρ:List Lc}{H:MH}{lo:Lo}{Q:Value->Shared->Prop}(hg:Glo C x f)(hk:env.kindOf x=some .globalImplicit)(hd:(x==("__debug__" :Str))=false)
  (S:Sim C H ρ s) (F:Fm C env ρ s lo) (h:Q f s):wpAny C.M A (eval (.Name x pos) env) Q NoE s:=by
 refine xEA hg λmg hmg hx=>?_
 have hG:s.heap.Ns env.globals mg:=by rw[F.gl];exact j3 hmg S.keep
 refine Name_function_global F.fn hk ?_ hd
 rcases hx with hx |⟨hx,mb,hmb,hb⟩
 ·exact loadGlobal_global hG hx h
 ·exact loadGlobal_builtin hG hx (by rw[F.bi];exact j3 hmb S.keep) hb h
def aO(g:CF)(fs:EFs):EF:=λlo H Q=>fs lo H λvs H1=>g vs H1 Q
theorem l3{A:Around}{s:Shared}{ρ:List Lc}{H:MH}{lo:Lo}{f:Value}{g:CF}{es:List Expr}{fs:EFs}{first:List Value}{fv:List V}{pos:Pos}{Q:EK}(hf:CV C r f g)(ha:EVs C r env es fs)(hfl:oH env es)
  (hr:Room r A) (S:Sim C H ρ s) (F:Fm C env ρ s lo) (r1:VRs ρ s.heap first fv) (q:fs lo H λvs H1=>g (fv++vs) H1 Q):
  wpAny C.M A (callWith pos f first (backTo pos (starEach es env)) []) (b6 C ρ s Q) NoE s:=
 callWith_of (P:=λh=>∀ b o,C.base.heap.get? b=some o->h.get? b=some o) (by rw[hfl.2];rfl) hf.keep (wmN (k4 ha hfl hr S F q) λa s1 p=>by
  obtain⟨ps,kw⟩:=a
  obtain⟨e,S1,N1,rs,q⟩:=p
  cases e
  exact⟨S1.keep,wmN (hf.call hr S1 ((r1.nx N1).append rs) q) λ_ _ p=>p.from N1⟩)
theorem EV.call{x:Str}{np pos:Pos}{f:Value}{g:CF}{es:List Expr}{fs:EFs}(hf:CV C r f g)(hg:Glo C x f)(ha:EVs C r env es fs)(hfl:oH env es:=by exact⟨.inr ⟨_,_,rfl,rfl⟩,λ_=>rfl⟩)(hk:env.kindOf x=some .globalImplicit:=by rfl')(hd:(x==("__debug__" :Str))=false:=by rfl'):
  EV C r env (.Call (.Name x np) es [] pos) (aO g fs):=
 λ_ _ _ _ _ _ hr S F e=>wpAny_Call_ofName (lL hg hk hd S F (l3 hf ha hfl hr S F .nil e))
theorem d0{o:Expr}{name:Str}{apos pos:Pos}{args:List Expr}{A:Around}{Q:Value->Shared->Prop}{E:Value->Shared->Prop}{s:Shared}{P:Value->Shared->Prop}
  (hbase:attributeBase o name env (eval o env)=eval o env)
  (hfew:((backTo pos (starEach args env)).all (λx=> !x.1) && (backToKw pos (keywordEach [] env)).all (λx=>x.1.isSome)
   && decide (args.length+([]:List Keyword).length+(if ([]:List Keyword).isEmpty then 0 else 1)<30))=true)
  (hline:(apos.endLine==pos.line)=true)
  (h:wpAny C.M A (eval o env) (λov s₁=>∀ pl,wpAny C.M A (getMethod ov name pl) (λq s₂=>wpAny C.M A (callWith pos q.1 q.2 (backTo pos (starEach args env)) []) Q E s₂) E s₁) E s):
  wpAny C.M A (eval (.Call (.Attribute o name apos) args [] pos) env) Q E s:=by
 rw [arm_eval_Call,hbase]
 refine wpAny_bind (wpAny_mono h (λov s₁ h₁=>?_) λ_ _ e=>e)
 refine wpAny_bind (wpAny_standAt ?_)
 have hform:methodCallForm (args.length+([]:List Keyword).length) (backTo pos (starEach args env)) (backToKw pos (keywordEach [] env))=true:=hfew
 have hpos:methodCallPos true o env apos pos=pure pos:=by unfold methodCallPos;simp [hline]
 unfold methodCall
 rw [hform]
 refine wpAny_bind (wpAny_holding (wpAny_mono (h₁ _) (λq s₂ h₂=>?_) λ_ _ e=>e))
 exact wpAny_bind (wpAny_of_eq hpos h₂)
end
section
variable {C:Cx}{r:Nat}{env:Env}
structure fZ(env:Env)(o:Expr)(name:Str)(apos pos:Pos)(args:List Expr):Prop where
 base:attributeBase o name env (eval o env)=eval o env
 few:((backTo pos (starEach args env)).all (λx=> !x.1) && (backToKw pos (keywordEach [] env)).all (λx=>x.1.isSome)
   && decide (args.length+([]:List Keyword).length+(if ([]:List Keyword).isEmpty then 0 else 1)<30))=true
 line:(apos.endLine==pos.line)=true
theorem mI{o:Expr}{f:EF}{name:Str}{id:String}{apos pos:Pos}{args:List Expr}{A:Around}{K:Value->Shared->Prop}{s:Shared}{ρ:List Lc}{H:MH}{lo:Lo}{Q:EK}
  (ho:EV C r env o f) (sh:fZ env o name apos pos args) (slot:Slot "list" name id) (hty:typeOf (.builtin id)=pure (.type "method_descriptor")) (hr:Room r A) (S:Sim C H ρ s) (F:Fm C env ρ s lo) (e:f lo H Q)
  (hQ:∀ v H1,Q v H1->∃ i vs,v.rf=some i/\H1[i]? =some (.list vs))
  (h:∀ {s1 ρ1 l i vs xs n H1},Sim C H1 ρ1 s1->Nx ρ noW s ρ1 s1->i8 H1 ρ1 s1 i l vs xs n->Q (.ref i) H1->wpAny C.M A (callWith pos (.builtin id) [.ref l.a] (backTo pos (starEach args env)) []) K NoE s1):
  wpAny C.M A (eval (.Call (.Attribute o name apos) args [] pos) env) K NoE s:=
 d0 (P:=λ_ _=>True) sh.base sh.few sh.line (ho.run hr S F e λS1 N1 r1 q pl=>by
  refine bO (hQ _ _ q) λi vs hi hv=>?_
  refine c8 (r1.toRef hi) λl hv' z40 g=>?_;subst z40
  subst hv'
  refine xEE (g8 S1 g hv) λxs n O=>?_
  exact getMethod_builtin ⟨_,O.x,rfl⟩ PySem.F.plainAttrs_list slot hty (λa e=>by cases e;exact⟨_,O.x,rfl⟩) (h S1 N1 O q))
def eM1(f g:EF)(k:Nat->List V->V->MH->EK->Prop):EF:=λlo H Q=>f lo H λa H1=>Lf a.rf λi=>(∃ vs,H1[i]? =some (.list vs))/\g lo H1 λv H2=>Lf (H2[i]?.bind MO.own) λvs=>k i vs v H2 Q
def cV(f g:EF):EF:=eM1 f g λi vs v H2 Q=>vs.length<1000000/\Q .none (H2.set i (.list (vs++[v])))
theorem EV.append{o e:Expr}{f g:EF}{apos pos:Pos}(ho:EV C r env o f)(he:EV C r env e g)(sh:fZ env o "append" apos pos [e]:=by exact⟨rfl,⋯,⋯⟩)(ht:backTo pos (starEach [e] env)= [(false,eval e env)]:=by exact rfl):
  EV C r env (.Call (.Attribute o "append" apos) [e] [] pos) (cV f g):=
 λ_ _ _ _ _ _ hr S F q=>mI ho sh PySem.F.slot_list_append PySem.F.type_list_append hr S F q (λv H1 q=>q.elim λi hi q=>⟨i,q.1.choose,hi,q.1.choose_spec⟩) λS1 N1 O q=>by
  rw [ht]
  refine PySem.P.append_list (he.run hr S1 (F.nx N1) q.2 λ{_ s2 _ _ _} S2 N2 r2 q=>q.elim λvs hv q=>?_)
  refine xEE (g8 S2 (aL N2.pre O.g) (jL hv)) λxs n O2=>?_
  have st:=O2.put (k:=s2.toks) S2 (λxs=>xs.push _) (by simpa using O2.r.append (.cons r2 .nil))
  exact⟨xs,n,by rw[sizeLine_eq,O2.r.sz];omega,O2.x,st.1,(N1.trans N2).trans (st.2 _),.none,q.2⟩
def eExt(f g:EF):EF:=eM1 f g λi vs v H2 Q=>Lf (own H2 v) λws=>vs.length+ws.length<1000000/\Q .none (H2.set i (.list (vs++ws)))
theorem rD{n:Nat}(h:n<1000000):Builtin.List.listTooLong n=false:=by
 unfold Builtin.List.listTooLong
 rw [sizeLine_eq]
 exact decide_eq_false (A8 h)
theorem EV.extend{o e:Expr}{f g:EF}{apos pos:Pos}(ho:EV C r env o f)(he:EV C r env e g)(sh:fZ env o "extend" apos pos [e])(ht:backTo pos (starEach [e] env)= [(false,eval e env)]):
  EV C r env (.Call (.Attribute o "extend" apos) [e] [] pos) (eExt f g):=
 λ_ _ _ _ _ _ hr S F q=>mI ho sh PySem.F.slot_list_extend PySem.F.type_list_extend hr S F q (λv H1 q=>q.elim λi hi q=>⟨i,q.1.choose,hi,q.1.choose_spec⟩) λS1 N1 O q=>by
  rw [ht]
  refine PySem.P.extend_list (he.run hr S1 (F.nx N1) q.2 λ{_ s2 _ _ _} S2 N2 r2 q=>q.elim λvs hv q=>q.elim λws hw q=>?_)
  refine xEE (g8 S2 (aL N2.pre O.g) (jL hv)) λxs n O2=>?_
  refine mG (own_is S2 r2 hw) λi' l' xs' n' _ z41 O3=>?_;subst z41
  have hsz:=O2.r.sz;have hsz':=O3.r.sz
  have st:=O2.put (k:=s2.toks) S2 (λxs=>xs++xs') (by simpa using O2.r.append O3.r)
  refine⟨l'.a,xs,xs',n,n',by rw[sizeLine_eq];omega,by rw[sizeLine_eq];omega,?_,rfl,O2.x,O3.x,st.1,(N1.trans N2).trans (st.2 _),.none,q.2⟩
  rw [rD (by omega)];simp
def eM0(f:EF)(k:Nat->List V->MH->EK->Prop):EF:=λlo H Q=>f lo H λa H1=>Lf a.rf λi=>Lf (H1[i]?.bind MO.own) λvs=>vs.length<1000000/\k i vs H1 Q
def ePop(f:EF):EF:=eM0 f λi vs H1 Q=>Lf vs[vs.length-1]? λv=>Q v (H1.set i (.list (vs.eraseIdx (vs.length-1))))
theorem VRs.erase{ρ:List Lc}{h:Heap}:∀ {us:List Value}{vs:List V} (j:Nat),VRs ρ h us vs->VRs ρ h (us.eraseIdx j) (vs.eraseIdx j)
 |_,_,_,.nil=>.nil
 |_,_,0,.cons a b=>b
 |_,_,j+1,.cons a b=>.cons a (VRs.erase j b)
theorem i8.same{H:MH}{ρ:List Lc}{s:Shared}{i:Nat}{l:Lc}{vs ws:List V}{xs:Array Value}{n:Nat}(O:i8 H ρ s i l vs xs n)(e:H[i]?.bind MO.own=some ws):ws=vs:=by
 rw [O.h]at e;exact(Option.some.inj e).symm
theorem EV.pop{o:Expr}{f:EF}{apos pos:Pos}(ho:EV C r env o f)(sh:fZ env o "pop" apos pos []):EV C r env (.Call (.Attribute o "pop" apos) [] [] pos) (ePop f):=
 λ_ _ _ _ _ _ hr S F q=>mI ho sh PySem.F.slot_list_pop PySem.F.type_list_pop hr S F q (λv H1 q=>q.elim λi hi q=>q.elim λvs hv _=>⟨i,vs,hi,jL hv⟩) λ{s1 ρ1 l i vs xs n H1} S1 N1 O q=>by
  refine q.elim λi' hi q=>?_
  cases hi
  refine q.elim λws hw q=>?_
  obtain rfl:=O.same hw
  refine q.2.elim λv hv q2=>?_
  refine xEA (O.r.get hv) λu hu ru=>?_
  have hsz:=O.r.sz
  refine PySem.P.pop_list O.x (y:=u) (by rw[hsz];simpa using hu) ?_ (by rw[sizeLine_eq];omega)
  have st:=O.put (k:=s1.toks) S1 (vs':=ws.eraseIdx (ws.length-1)) (λys=>ys.eraseIdxIfInBounds (xs.size-1)) (by
   rw [hsz]
   have:=VRs.erase (ws.length-1) O.r
   have e:(xs.eraseIdxIfInBounds (ws.length-1)).toList=xs.toList.eraseIdx (ws.length-1):=by
    unfold Array.eraseIdxIfInBounds
    split
    ·rw[Array.toList_eraseIdx]
    ·rename_i hh;rw[List.eraseIdx_of_length_le (by simp;exact A9 hh)]
   rw [e];exact this)
  exact⟨st.1,N1.trans (st.2 _),ru.nx (st.2 noW),q2⟩
def aCc(vs:List V):Option (List Int):=vs.mapM Ti
theorem aFt{ρ:List Lc}{h:Heap}{us:List Value}{vs:List V}(r:VRs ρ h us vs):∀ {is:List Int},aCc vs=some is->∃ ts:List Tok,ts.length=is.length/\us=(is.zip ts).map λx=>Value.int x.1 x.2:=
 r.ind (P:=λus vs=>∀ {is:List Int},aCc vs=some is->∃ ts:List Tok,ts.length=is.length/\us=(is.zip ts).map λx=>Value.int x.1 x.2) (λe=>by cases e;exact⟨[],rfl,rfl⟩) λ{u us v vs} a _ ih {is} e=>by
  simp only[aCc,List.mapM_cons,Option.bind_eq_bind,Option.bind_eq_some_iff,Option.pure_def,Option.some.injEq]at e
  refine zI e λi h1 js h2 z42=>?_;clear e;subst z42
  refine xEA (ih h2) λts h3 h4=>?_
  exact VR.ti (P:=λu=>∃ ts:List Tok,ts.length=(i :: js).length/\u :: _=((i :: js).zip ts).map λx=>Value.int x.1 x.2) a h1 λt=>⟨t :: ts,congrArg (·+1) h3,congrArg (Value.int i t :: ·) h4⟩
end
section
variable {C:Cx}{r:Nat}{env:Env}
def pRng(C:Cx):ItP C (Int×Nat×Int) where
 nx:=λit H=>some (match it with | (x,n+1,c)=>some (.int x,(x+c,n,c)) | (_,0,_)=>none)
 rel:=λρ s it a=>IsRangeIter s.heap a it.1 it.2.1 it.2.2
 T:="range_iterator"
 own:=by decide
 mono:=λh1 e i hk=>hk _ h1
 obj:=λh1=>⟨_,h1,rfl,by simp [aS]⟩
 item:=by
  rintro A s ρ H ⟨x,n,c⟩ a v it' Q hh S h1 e k
  cases n with
  |succ n=>
   cases e
   refine wpAny_pyNext_range_item h1 (by simp) λh' h2 hs=>k _ h' _ hs (.int _ _) λs' hs' im=>?_
   subst hs'
   simpa using h2
  |zero=>cases e
 fin:=by
  rintro A s ρ H ⟨x,n,c⟩ a Q hh S h1 e k
  cases n with
  |succ n=>cases e
  |zero=>exact wpAny_pyNext_range_end hh h1 (by simp) λh' he=>k h' he
noncomputable abbrev fV(C:Cx):ItK C:=(pRng C).it
def V.rn:V->Option (Int×Int×Int) | .rng a b c=>some (a,b,c) |_=>Option.none
theorem VR.toRng{ρ:List Lc}{h:Heap}{u:Value}{v:V}{p:Int×Int×Int}(r:VR ρ h u v)(e:v.rn=some p):∃ a t1 t2 t3,u= .ref a/\IsRange h a p.1 p.2.1 p.2.2 t1 t2 t3:=by
 cases v with
 |rng a b c=>cases e;exact r.inv
 |_=>first |exact aI e |cases e
def rOk(a b c:Int):Bool:=decide (-1000000<a) && decide (a<1000000) && decide (-1000000<b) && decide (b<1000000) && (c==1 || c== -1)
def pH(a b c:Int):Nat:=bif c==1 then(b-a).toNat else(a-b).toNat
theorem rOk_1{a b c:Int}(h:rOk a b c=true): -1000000<a/\a<1000000/\ -1000000<b/\b<1000000/\(c=1∨c= -1):=by
 have h1:=Bool.and_eq_true_iff.mp h
 have h2:=Bool.and_eq_true_iff.mp h1.1
 have h3:=Bool.and_eq_true_iff.mp h2.1
 have h4:=Bool.and_eq_true_iff.mp h3.1
 exact⟨of_decide_eq_true h4.1,of_decide_eq_true h4.2,of_decide_eq_true h3.2,of_decide_eq_true h2.2,(Bool.or_eq_true_iff.mp h1.2).imp eq_of_beq eq_of_beq⟩
theorem rSz(a b:Int):Builtin.Range.rangeSize a b 1=((b-a).toNat:Int):=by
 unfold Builtin.Range.rangeSize
 rw [if_pos (by decide)]
 by_cases q:a<b
 ·rw[if_pos q,Int.ediv_one,Int.sub_add_cancel]
  exact(Int.toNat_of_nonneg (Int.sub_nonneg_of_le (Int.le_of_lt q))).symm
 ·rw[if_neg q,Int.toNat_of_nonpos (Int.sub_nonpos_of_le (Int.not_lt.mp q))];rfl
theorem rSzM(a b:Int):Builtin.Range.rangeSize a b (-1)=((a-b).toNat:Int):=by
 unfold Builtin.Range.rangeSize
 rw [if_neg (by decide),show-(-1:Int)=1 from rfl]
 by_cases q:b<a
 ·rw[if_pos q,Int.ediv_one,Int.sub_add_cancel]
  exact(Int.toNat_of_nonneg (Int.sub_nonneg_of_le (Int.le_of_lt q))).symm
 ·rw[if_neg q,Int.toNat_of_nonpos (Int.sub_nonpos_of_le (Int.not_lt.mp q))];rfl
theorem wL{a b c:Int}(h:rOk a b c=true):Builtin.Range.rangeSize a b c=(pH a b c:Int)/\Builtin.Range.small a b c=true/\pH a b c<2000000:=by
 refine xAAAA (rOk_1 h) λh1 h2 h3 h4 z45=>?_
 rcases z45 with rfl |rfl
 ·have hl:(b-a).toNat<2000000:=A10 h1 h4
  refine⟨rSz a b,?_,hl⟩
  unfold Builtin.Range.small
  rw [rSz]
  unfold Builtin.Range.rangeFitsLong
  simp;exact A11 h2 h3 hl
 ·have hl:(a-b).toNat<2000000:=by exact AF1 h2 h3
  refine⟨rSzM a b,?_,hl⟩
  unfold Builtin.Range.small
  rw [rSzM]
  unfold Builtin.Range.rangeFitsLong
  simp;exact AF0 h1 h4 hl
def iR(f:EF):Lo->MH->(Int×Nat×Int->MH->Prop)->Prop:=λlo H Q=>f lo H λv H1=>Lf v.rn λp=>rOk p.1 p.2.1 p.2.2=true/\Q (p.1,pH p.1 p.2.1 p.2.2,p.2.2) H1
theorem IV.range{e:Expr}{f:EF}(h:EV C r env e f):IV (fV C) r env e (iR f):=
 λ_ _ _ _ _ _ hr S F q=>h.run hr S F q λS1 N1 r1 q=>q.elim λp hp q=>by
  refine xAA (wL q.1) λk1 k2 k3=>?_
  refine qM (r1.toRng hp) λa t1 t2 t3 z46 g=>?_;subst z46
  refine wpAny_pyIter_range g k2 ?_
  rw [k1]
  exact wB.mk (K:=fV C) (it:=(p.1,pH p.1 p.2.1 p.2.2,p.2.2)) (S1.push _) (N1.trans (.push _)) ⟨_,rfl,rfl,show IsRangeIter _ _ _ _ _ from Heap.get?_push_size _ rfl⟩ (λb hb=>by rw[show b=_ from hb];exact c0 N1 S1 (bG _)) q.2
theorem VRs.a1{ρ:List Lc}{h:Heap}{us:List Value}{x:V}(r:VRs ρ h us [x]):∃ u,us= [u]/\VR ρ h u x:=by cases r with |cons a b=>cases b;exact⟨_,rfl,a⟩
theorem VRs.a2{ρ:List Lc}{h:Heap}{us:List Value}{x y:V}(r:VRs ρ h us [x,y]):∃ u v,us= [u,v]/\VR ρ h u x/\VR ρ h v y:=by cases r with |cons a b=>refine xEA b.a1 λv e c=>?_;exact⟨_,v,by rw[e],a,c⟩
def Tis(vs:List V):Option (List Int):=vs.mapM Ti
theorem VRs.ints{ρ:List Lc}{h:Heap}{us:List Value}{vs:List V}{is:List Int}(r:VRs ρ h us vs)(e:Tis vs=some is):∃ ts:List Tok,ts.length=is.length/\us=(is.zip ts).map λx=>Value.int x.1 x.2:=aFt r e
theorem ts1{ts:List Tok}{a:Int}{us:List Value}(e:ts.length= [a].length)(h:us=(([a]:List Int).zip ts).map λx=>Value.int x.1 x.2):∃ t,us= [.int a t]:=by
 match ts,e with
 | [t],_=>exact⟨t,h⟩
theorem tcons{α:Type}{l:List α}{n:Nat}(e:l.length=n+1):∃ a t,l=a :: t/\t.length=n:=by
 cases l with
 |nil=>exact absurd e.symm (Nat.succ_ne_zero _)
 |cons a t=>exact⟨a,t,rfl,Nat.succ.inj e⟩
theorem ts2{ts:List Tok}{a b:Int}{us:List Value}(e:ts.length= [a,b].length)(h:us=(([a,b]:List Int).zip ts).map λx=>Value.int x.1 x.2):∃ t u,us= [.int a t,.int b u]:=by
 refine bO (tcons e) λt l z e1=>?_;subst z
 refine bO (tcons e1) λu l z e2=>?_;subst z
 rw [List.eq_nil_of_length_eq_zero e2]at h
 exact⟨t,u,h⟩
theorem ts3{ts:List Tok}{a b c:Int}{us:List Value}(e:ts.length= [a,b,c].length)(h:us=(([a,b,c]:List Int).zip ts).map λx=>Value.int x.1 x.2):∃ t u v,us= [.int a t,.int b u,.int c v]:=by
 refine bO (tcons e) λt l z e1=>?_;subst z
 refine bO (tcons e1) λu l z e2=>?_;subst z
 refine bO (tcons e2) λv l z e3=>?_;subst z
 rw [List.eq_nil_of_length_eq_zero e3]at h
 exact⟨t,u,v,h⟩
def dY:CF:=lf λvs H=>(Tis vs).bind λis=>match is with
 | [n]=>some (.rng 0 n 1,H)
 | [a,b]=>some (.rng a b 1,H)
 | [a,b,c]=>if c= -1 then some (.rng a b c,H) else none
 |_=>none
theorem CV.range:CV C r (.type "range") dY:=.of dX λ{A s ρ H us vs v H'} hr S rs e=>by
 refine xEA (Option.bind_eq_some_iff.mp e) λis hi e=>?_
 refine xEA (rs.ints hi) λts h1 h2=>?_
 split at e
 ·refine xE (ts1 h1 h2) λt z47=>?_;subst z47;cases e;exact call_range_1 ⟨ρ,(S.push _).toks _,(Nx.push _).trans (.toks _),.rng (Heap.get?_push_size _ rfl)⟩
 ·refine xEE (ts2 h1 h2) λt u z48=>?_;subst z48;cases e;exact call_range_2 ⟨ρ,(S.push _).toks _,(Nx.push _).trans (.toks _),.rng (Heap.get?_push_size _ rfl)⟩
 ·refine xEEE (ts3 h1 h2) λt u w z48=>?_;subst z48
  split at e
  ·rename_i z49
   subst z49
   cases e;exact call_range_3 (by decide) ⟨ρ,(S.push _).toks _,(Nx.push _).trans (.toks _),.rng (Heap.get?_push_size _ rfl)⟩ (.inl (PyProof.noPylong_small (by decide)))
  ·exact aI e
 ·first |exact aI e |cases e
end
section
variable {C:Cx}{r:Nat}{env:Env}
theorem EPo.ext{ρ:List Lc}{s:Shared}{H:MH}{v:V}{x:Value}{h':Heap}{k:Nat}(S:Sim C H ρ s)(hk:∀ b o,s.heap.get? b=some o->h'.get? b=some o)(rv:VR ρ s.heap x v):EPo C ρ s H v x {s with heap:=h',toks:=k}:=
 ⟨ρ,S.ext hk,.ext hk,rv.mono (List.prefix_refl _) (d3 hk)⟩
def one(vs:List V):Option V:=match vs with | [v]=>some v |_=>none
theorem lI{ρ:List Lc}{h:Heap}{us:List Value}{vs:List V}{v:V}(r:VRs ρ h us vs)(e:one vs=some v):∃ u,us= [u]/\VR ρ h u v:=by
 unfold one at e
 split at e
 ·cases e;exact r.a1
 ·first |exact aI e |cases e
def cLen:CF:=lf λvs H=>(one vs).bind λv=>(lst H v).bind λxs=>if xs.length<1000000 then some (.int xs.length,H) else none
theorem CV.len:CV C r (.builtin "len") cLen:=.of dM λ{A s ρ H us vs v H'} hr S rs e=>by
 refine xEA (Option.bind_eq_some_iff.mp e) λx hx e=>?_
 refine xEA (Option.bind_eq_some_iff.mp e) λxs hl e=>?_
 refine xEA (lI rs hx) λu z49 ru=>?_;subst z49
 split at e
 ·first |exact aI e |cases e
  refine cJ (cZ S ru hl) λad ys z50 h2 h3=>?_;subst z50
  have:=h3.sz
  refine call_len_list h2 (by omega) ?_
  rw [this]
  exact .tok S (.int _ _)
 ·first |exact aI e |cases e
def c2(f:Int->Int->Int):CF:=lf λvs H=>(Tis vs).bind λis=>match is with | [a,b]=>some (.int (f a b),H) |_=>none
theorem CV.c2{x:String}{f:Int->Int->Int}(h:∀ {A:Around}{s:Shared}{a b:Int}{t u:Tok}{Q:Value->Shared->Prop},A.handled=none->(∀ h' tk t,(∀ b o,s.heap.get? b=some o->h'.get? b=some o)->Q (.int (f a b) t) {s with heap:=h',toks:=tk})->
  wpAny C.M A (PySem.call (.builtin x) [.int a t,.int b u]) Q NoE s):CV C r (.builtin x) (c2 f):=CV.of dM λ{A s ρ H us vs v H'} hr S rs e=>by
 refine xEA (Option.bind_eq_some_iff.mp e) λis hi e=>?_
 refine xEA (rs.ints hi) λts h1 h2=>?_
 split at e
 ·refine xEE (ts2 h1 h2) λt u z51=>?_;subst z51;cases e;exact h hr.1 λh' tk t hk=>.ext S hk (.int _ _)
 ·first |exact aI e |cases e
def v0:CF:=c2 max
theorem CV.max:CV C r (.builtin "max") v0:=CV.c2 λ{A s a b t u Q} hh k=>max_two_ints hh λh' tk hk=>by
 by_cases q:b>a
 ·rw[if_pos q];have:=k h' tk u hk;rwa [Int.max_eq_right (Int.le_of_lt q)]at this
 ·rw[if_neg q];have:=k h' tk t hk;rwa [Int.max_eq_left (Int.not_lt.mp q)]at this
def vZ:CF:=c2 min
theorem CV.min:CV C r (.builtin "min") vZ:=CV.c2 λ{A s a b t u Q} hh k=>min_two_ints hh λh' tk hk=>by
 by_cases q:b<a
 ·rw[if_pos q];have:=k h' tk u hk;rwa [Int.min_eq_right (Int.le_of_lt q)]at this
 ·rw[if_neg q];have:=k h' tk t hk;rwa [Int.min_eq_left (Int.not_lt.mp q)]at this
def cSet:CF:=lf λvs H=>if vs.isEmpty then some (.ref H.length,H++[.eset]) else none
theorem CV.set:CV C r (.type "set") cSet:=.of dX λ{A s ρ H us vs v H'} hr S rs e=>by
 split at e
 ·first |exact aI e |cases e
  cases rs with
  |nil=>exact call_set_0 λled=>⟨_,S.alloc _ .eset ⟨rfl,rfl,_,_,Heap.get?_push_size _ rfl,by cases led<;>decide⟩,.alloc _,VR.ref (l:=⟨s.heap.objs.size,s.heap.objs.size,none⟩) S.last⟩
  |cons _ _=>rename_i h;cases h
 ·first |exact aI e |cases e
theorem Sim.grown{H:MH}{ρ:List Lc}{s:Shared}{h':Heap}{k:Nat}{xs:Array Value}{n:Nat}{vs:List V}(S:Sim C H ρ s)(hk:∀ b o,s.heap.get? b=some o->h'.get? b=some o)(hx:IsL h' s.heap.objs.size xs n)(hv:VRs ρ h' xs.toList vs):
  EPo C ρ s (H++[.list vs]) (.ref H.length) (.ref s.heap.objs.size) {s with heap:=h',toks:=k}:=
 let g:=S.grow (k:=k) (l:=⟨s.heap.objs.size,s.heap.objs.size,none⟩) (m:=.list vs) hk (bG _) (bG _) rfl ⟨rfl,rfl,xs,n,hx,hv.mono (List.prefix_append _ _) (.refl _)⟩
 ⟨_,g.1,g.2 _,VR.ref (l:=⟨s.heap.objs.size,s.heap.objs.size,none⟩) S.last⟩
def lV(a c:Int):Nat->List V
 |0=>[]
 |n+1=>.int a :: lV (a+c) c n
theorem aE9(a c:Int)(n:Nat):lV a c (n+1)= .int a :: lV (a+c) c n:=rfl
theorem s9{ρ:List Lc}{h:Heap}:∀ (n:Nat) (a c:Int) (us:List Value),us.length=n->(∀ (i:Nat) (u:Value),us[i]? =some u->∃ t,u=Value.int (a+(i:Int)*c) t)->VRs ρ h us (lV a c n)
 |0,a,c,[],_,_=>VRs.nil
 |0,a,c,_ :: _,hl,_=>by simp at hl
 |n+1,a,c,[],hl,_=>by simp at hl
 |n+1,a,c,u :: us,hl,hu=>by
  refine xE (hu 0 u rfl) λt e=>?_
  simp at e
  subst e
  refine VRs.cons (VR.int _ _) (s9 n (a+c) c us (by simpa using hl) λi u h=>?_)
  refine xE (hu (i+1) u (by simpa using h)) λt e=>?_
  refine⟨t,e.trans ?_⟩
  congr 1
  rw [Int.add_assoc]
  congr 1
  simp only[Int.natCast_add,Int.add_mul]
  omega
def aDu(vs:List V)(H:MH):Option (V×MH):=(one vs).bind λv=>match v.rn with
 |some p=>if rOk p.1 p.2.1 p.2.2 then mkL (lV p.1 p.2.2 (pH p.1 p.2.1 p.2.2)) H else none
 |none=>(lst H v).bind λxs=>mkL xs H
def cList:CF:=lf aDu
theorem aFp{A:Around}{s:Shared}{ρ:List Lc}{H:MH}{us:List Value}{vs:List V}{v:V}{H':MH}(hr:Room r A)(S:Sim C H ρ s)(rs:VRs ρ s.heap us vs)(e:aDu vs H=some (v,H')):wpAny C.M A (PySem.call (.type "list") us) (EPo C ρ s H' v) NoE s:=by
 refine xEA (Option.bind_eq_some_iff.mp e) λx hx e=>?_
 refine xEA (lI rs hx) λu z54 ru=>?_;subst z54
 split at e
 ·rename_i p hp
  split at e
  ·rename_i hok
   refine j4 e λhlen e=>?_
   cases e
   refine xAA (wL hok) λk1 k2 k3=>?_
   refine qM (ru.toRng hp) λa t1 t2 t3 z55 g=>?_;subst z55
   refine call_list_range hr.1 g k2 k1 (by omega) λh' tk acc' c' hk hS hacc=>S.grown hk hS ?_
   exact s9 _ _ _ _ (by simpa using hacc.1) λi u hu=>hacc.2 i u (by simpa using hu)
  ·first |exact aI e |cases e
 ·refine xEA (Option.bind_eq_some_iff.mp e) λxs hl e=>?_
  refine j4 e λhlen e=>?_
  cases e
  refine cJ (cZ S ru hl) λad ys z56 z57 h3=>?_;subst z56;obtain⟨o,ho,hc,n,hd⟩:=z57
  have:=h3.sz
  exact call_list_seq ad (.inl rfl) ho hc hd (λh' c' hk hD=>S.grown (k:=s.toks) hk hD (h3.mono (List.prefix_refl _) (d3 hk))) (by rw[sizeLine_eq];exact A12 hlen this)
theorem CV.list:CV C r (.type "list") cList:=.of dX aFp
end
section
open PySem PySem.W PyProof.Rows PySem.Calls PyProof
variable {C:Cx}{r:Nat}{env:Env}
def PyData.kids:PyData->Option (Bool×List PyData) | .tuple xs=>some (true,xs) | .list xs=>some (false,xs) |_=>none
def inB(H:MH)(a b:V):Option Bool:=(rd H eqD a).bind λd=>((rd H eqD b).bind PyData.kids).bind λp=>if PyData.canLayAll0 p.2 && d.canLay0 && decide (d.depth<50) then some (p.2.any λy=>PyData.eqv y d) else none
def oIn(f:Bool->Bool):OpF:=λa b H=>(inB H a b).map λt=>(.bool (f t),H)
theorem Room.deep{r:Nat}{A:Around}(h:Room r A){n m:Nat}(hm:m<50):A.units+1+min n m<cLine:=by
 have:=h.2.2
 have h2:min n m<=m:=Nat.min_le_right _ _
 show _<9900
 exact A28 hm this
theorem aFr{d:PyData}{t:Bool}{xs:List PyData}(e:PyData.kids d=some (t,xs)):d=bif t then .tuple xs else .list xs:=by
 cases d with
 |tuple ys=>cases e;rfl
 |list ys=>cases e;rfl
 |_=>first |exact aI e |cases e
theorem OpR.in2{op:Value->Value->Sem Value}{f:Bool->Bool}
  (h1:∀ {A:Around}{s:Shared}{a b:Value}{d:PyData}{xs:List PyData}{as bs:List Addr}{Q:Value->Shared->Prop},Reads s.heap b (.tuple xs) bs->Reads s.heap a d as->PyData.canLayAll0 xs=true->d.canLay0=true->(∀ n,A.units+1+min n d.depth<cLine)->Q (.bool (f (xs.any λy=>PyData.eqv y d))) s->wpAny C.M A (op a b) Q NoE s)
  (h2:∀ {A:Around}{s:Shared}{a b:Value}{d:PyData}{xs:List PyData}{as bs:List Addr}{Q:Value->Shared->Prop},Reads s.heap b (.list xs) bs->Reads s.heap a d as->PyData.canLayAll0 xs=true->d.canLay0=true->(∀ n,A.units+1+min n d.depth<cLine)->Q (.bool (f (xs.any λy=>PyData.eqv y d))) s->wpAny C.M A (op a b) Q NoE s):OpR C r op (oIn f):=by
 refine OpR.of ?_
 intro A s ρ H a b va vb v H' hr S ra rb e
 refine xEA (Option.map_eq_some_iff.mp e) λt e e3=>?_
 refine xEA (Option.bind_eq_some_iff.mp e) λd hd e=>?_
 refine xEA (Option.bind_eq_some_iff.mp e) λz64 hx e=>?_;obtain⟨tt,xs⟩:=z64
 refine xEA (Option.bind_eq_some_iff.mp hx) λd2 hd2 hk=>?_
 split at e
 ·rename_i hs
  refine xE (gQ S _ ra hd) λas r1=>?_
  refine xE (gQ S _ rb hd2) λbs r2=>?_
  rw [aFr hk]at r2
  cases e
  cases e3
  simp only[Bool.and_eq_true,decide_eq_true_eq]at hs
  cases tt with
  |true=>exact h1 r2 r1 hs.1.1 hs.1.2 (λn=>hr.deep hs.2) (.here S (.bool _))
  |false=>exact h2 r2 r1 hs.1.1 hs.1.2 (λn=>hr.deep hs.2) (.here S (.bool _))
 ·first |exact aI e |cases e
theorem OpR.in_:OpR C r (compareOp .In) (oIn id):=OpR.in2 (λr2 r1 h1 h2 h3 q=>PySem.SeqAt.in_tuple_reads r2 r1 h1 h2 (h3 _) q) λr2 r1 h1 h2 h3 q=>PySem.SeqAt.in_list_reads r2 r1 h1 h2 (h3 _) q
def V.no:V->Bool | .none=>true |_=>false
theorem VR.noT{ρ:List Lc}{h:Heap}{u:Value}{v:V}(r:VR ρ h u v)(e:v.no=true):u= .none:=by
 cases v with
 |none=>exact r.inv
 |_=>first |exact aI e |cases e
theorem VR.noF{ρ:List Lc}{h:Heap}{u:Value}{v:V}(r:VR ρ h u v)(e:v.no=false):u≠ .none:=by
 rintro rfl
 cases v with
 |none=>cases e
 |bool=>exact Value.noConfusion r.inv
 |int=>refine xE r.inv λ_ h=>?_;exact Value.noConfusion h
 |str=>refine xE r.inv λ_ h=>?_;exact Value.noConfusion h
 |tup=>refine iA r.inv λ_ _ _ h _=>?_;exact Value.noConfusion h
 |mat=>refine jV r.inv λ_ _ _ _ _ _ h _=>?_;exact Value.noConfusion h
 |ref=>refine xEA r.inv λ_ h _=>?_;exact Value.noConfusion h
 |dget=>refine bO r.inv λ_ _ h _=>?_;exact Value.noConfusion h
 |scon=>refine bO r.inv λ_ _ h _=>?_;exact Value.noConfusion h
 |rng=>refine qM r.inv λ_ _ _ _ h _=>?_;exact Value.noConfusion h
 |raw=>exact Value.noConfusion r.inv
def isV(a b:V)(H:MH):Option Bool:=bif b.no then some a.no else b.rf.bind λj=>bif a.no then some false else a.rf.bind λi=>if i=j then some true else(lst H a).map λ_=>false
theorem aA8{H:MH}{ρ:List Lc}{s:Shared}{i j:Nat}{li lj:Lc}(S:Sim C H ρ s)(hi:ρ[i]? =some li)(hj:ρ[j]? =some lj)(h:i≠j):li.a≠lj.a:=
 λe=>S.disj i j li lj hi hj h li.a (.inl rfl) (.inl e)
def IsR(M:Model)(A:Around)(a b:Value)(t:Bool)(s:Shared):Prop:=∀ Q:Value->Shared->Prop,(Q (.bool t) s->wpAny M A (compareOp .Is a b) Q NoE s)/\(Q (.bool (!t)) s->wpAny M A (compareOp .IsNot a b) Q NoE s)
theorem is_ok{A:Around}{s:Shared}{ρ:List Lc}{H:MH}{a b:Value}{va vb:V}{t:Bool}(S:Sim C H ρ s)(ra:VR ρ s.heap a va)(rb:VR ρ s.heap b vb)(e:isV va vb H=some t):IsR C.M A a b t s:=by
 unfold isV at e
 cases hb:vb.no with
 |true=>
  rw [hb]at e
  rw [rb.noT hb]
  cases ha:va.no with
  |true=>rw [ha]at e;cases e;rw[ra.noT ha];exact λQ=>⟨λh=>wpAny_is_self rfl h,λh=>wpAny_isNot_self rfl h⟩
  |false=>rw [ha]at e;cases e;exact λQ=>⟨λh=>is_none_ne (ra.noF ha) h,λh=>isnot_none_ne (ra.noF ha) h⟩
 |false=>
  rw [hb]at e
  refine xEA (Option.bind_eq_some_iff.mp e) λj hj e=>?_
  refine c8 (rb.toRef hj) λlj _ z65 g=>?_;subst z65
  cases ha:va.no with
  |true=>rw [ha]at e;cases e;rw[ra.noT ha];exact λQ=>⟨λh=>wpAny_is_other rfl (by intro x;cases x) h,λh=>wpAny_isNot_other rfl (by intro x;cases x) h⟩
  |false=>
   rw [ha]at e
   refine xEA (Option.bind_eq_some_iff.mp e) λi hi e=>?_
   refine c8 (ra.toRef hi) λli _ hli g'=>?_
   split at e
   ·rename_i hij
    cases e
    subst hij
    rw [g]at g';cases g'
    subst hli
    exact λQ=>⟨λh=>wpAny_is_ref_self h,λh=>wpAny_isNot_ref_self h⟩
   ·rename_i hij
    refine xEA (Option.map_eq_some_iff.mp e) λvs hl e=>?_
    cases e
    refine cJ (cZ S ra hl) λad xs e1 z66 _=>?_;obtain⟨o,ho,hc,_⟩:=z66
    subst hli
    cases e1
    refine xA (S.live g) λz67 _=>?_;obtain⟨oj,hoj,_⟩:=z67
    have hc':o.cls≠ .type "tuple" :=by rw[hc];intro x;injection x with x;revert x;decide
    exact λQ=>⟨λh=>wpAny_is_ref_other (aA8 S g' g hij) ho hoj hc' h,λh=>wpAny_isNot_ref_other (aA8 S g' g hij) ho hoj hc' h⟩
def oIs(f:Bool->Bool):OpF:=λa b H=>(isV a b H).map λt=>(.bool (f t),H)
theorem OpR.is_:OpR C r (compareOp .Is) (oIs id):=OpR.of λhr S ra rb e=>by
 refine xEA (Option.map_eq_some_iff.mp e) λt ht e=>?_
 cases e
 exact(is_ok S ra rb ht _).1 (.here S (.bool _))
theorem OpR.isNot:OpR C r (compareOp .IsNot) (oIs not):=OpR.of λhr S ra rb e=>by
 refine xEA (Option.map_eq_some_iff.mp e) λt ht e=>?_
 cases e
 exact(is_ok S ra rb ht _).2 (.here S (.bool _))
def Tb(v:V):Option Bool:=match v with | .bool b=>some b |_=>none
theorem VR.tb{ρ:List Lc}{h:Heap}{u:Value}{v:V}{b:Bool}(r:VR ρ h u v)(e:Tb v=some b):u= .bool b:=by
 cases r with
 |bool=>cases e;rfl
 |_=>first |exact aI e |cases e
def tCh(g1 g2:OpF)(f0 f1 f2:EF):TF:=λlo H Q=>f0 lo H λa H0=>f1 lo H0 λb H1=>Lp (g1 a b H1) λc H2=>Lf (Tb c) λt=>bif t then f2 lo H2 λc H3=>Lp (g2 b c H3) λd H4=>Lf (Tb d) λt=>Q t H4 else Q false H2
theorem TV.chain{e0 e1 e2:Expr}{op1 op2:CmpOp}{pos:Pos}{f0 f1 f2:EF}{g1 g2:OpF}(h0:EV C r env e0 f0)(h1:EV C r env e1 f1)(h2:EV C r env e2 f2)(o1:OpR C r (compareOp op1) g1)(o2:OpR C r (compareOp op2) g2)(hm:lastMarks [op1,op2] [e1,e2]=false):
  TV C r env (.Compare e0 [op1,op2] [e1,e2] pos) (tCh g1 g2 f0 f1 f2):=
 λ_ _ _ _ _ _ hr S F q=>isTrue_chain (h0.run hr S F q λS1 N1 r1 q=>test_link (h1.run hr S1 (F.nx N1) q λS2 N2 r2 q=>b6.run (o1 hr S2 (r1.nx N2) r2 q) λS3 N3 r3 q=>q.elim λt ht q=>by
  rw [r3.tb ht]
  refine wpAny_truthy_bool ?_
  cases t with
  |false=>exact⟨S3,N1.trans (N2.trans N3),q⟩
  |true=>exact test_last (h2.run hr S3 (((F.nx N1).nx N2).nx N3) q λS4 N4 r4 q=>b6.run (o2 hr S4 ((r2.nx N3).nx N4) r4 q) λS5 N5 r5 q=>q.elim λt ht q=>by
    rw [r5.tb ht]
    exact wpAny_truthy_bool ⟨S5,N1.trans (N2.trans (N3.trans (N4.trans N5))),q⟩))) hm
end
section
variable {C:Cx}{r:Nat}{env:Env}
def eX:List (Str×Addr):=[("__init__",160),("set_seqs",167),("set_seq1",174),("set_seq2",181),("_SequenceMatcher__chain_b",188),("find_longest_match",196),("get_matching_blocks",203),("get_opcodes",210),("get_grouped_opcodes",218)]
structure SMC(C:Cx):Prop where
 cls:∃ nm q bs sn sub col dd k0 k1 k2 k3 k5,C.base.heap.get? dT=some (excClassObj nm q dT 241 bs [.type "object"] true sn sub false col dd k0 k1 k2 k3 k5 "object.__new__")
 ns:∃ mN,C.base.heap.Ns 241 mN/\(∀ x∈dH,mN x=none)/\mN "__getattribute__" =none/\mN "__getattr__" =none/\mN "__setattr__" =none/\∀ p∈eX,mN p.1=some (.ref p.2)
 fn:∀ p∈eX,∃ o,C.base.heap.get? p.2=some o/\o.cls= .type "function"
theorem tB:∀ x∈dH,typeLookup (.type "object") x=pure none:=by
 intro x hx
 simp only[dH,List.mem_cons,List.not_mem_nil,or_false]at hx
 rcases hx with rfl |rfl |rfl |rfl |rfl |rfl |rfl |rfl |rfl |rfl<;>(rw [typeLookup_type,builtinLookup_eq_fast];kernel_rfl)
theorem aBe:∀ p∈eX,∃ y,typeLookup (.type "object") p.1=pure y:=by
 intro p hp
 simp only[eX,List.mem_cons,List.not_mem_nil,or_false]at hp
 rcases hp with rfl |rfl |rfl |rfl |rfl |rfl |rfl |rfl |rfl
 ·exact⟨some (.builtin "object.__init__"),by rw[typeLookup_type,builtinLookup_eq_fast];kernel_rfl⟩
 all_goals exact⟨none,by rw[typeLookup_type,builtinLookup_eq_fast];kernel_rfl⟩
theorem rT{H:MH}{ρ:List Lc}{s:Shared}{i:Nat}{l:Lc}{fs:Str->Option V}(S:Sim C H ρ s)(hl:ρ[i]? =some l)(hH:H[i]? =some (.inst fs)):
  ∃ m,s.heap.InstFk l.a dT m/\Within m dH/\∀ x,OV ρ s.heap (m x) (fs x):=by
 refine mT (S.objs i _ l hH hl) λg ne z77 m h5 h6 h7 h8=>?_;obtain⟨o,h1,h2,h3,h4⟩:=z77
 exact⟨m,⟨o,h1,h2,(λc=>by rw[h3];intro q;cases q),.inr ⟨l.d,h4,ne,h5,h6⟩⟩,h7,h8⟩
theorem VR.handed{ρ:List Lc}{h:Heap}{u:Value}{v:V}(rv:VR ρ h u v):handedOut u=pure u:=by
 cases rv<;>rfl
def MO.ins:MO->Option (Str->Option V) | .inst fs=>some fs |_=>none
theorem aCf{m:Option MO}{fs:Str->Option V}(e:m.bind MO.ins=some fs):m=some (.inst fs):=by
 refine xEA (Option.bind_eq_some_iff.mp e) λm z78 h2=>?_;subst z78
 cases m with
 |inst f=>cases h2;rfl
 |_=>cases h2
def dV(x:Str)(f:EF):EF:=λlo H Q=>f lo H λa H1=>Lf a.rf λi=>Lf (H1[i]?.bind MO.ins) λfs=>Lf (fs x) λv=>Q v H1
theorem rV{A:Around}{s:Shared}{ρ:List Lc}{H:MH}{i:Nat}{l:Lc}{fs:Str->Option V}{x:Str}{v:V}{b:Bool}{K E:Value->Shared->Prop}(KK:SMC C)(hx:x∈dH)(S:Sim C H ρ s)(hl:ρ[i]? =some l)(hH:H[i]? =some (.inst fs))(hv:fs x=some v)
  (k:∀ u n,VR ρ s.heap u v->K u {s with toks:=n}):wpAny C.M A (getAttr (.ref l.a) x b) K E s:=by
 refine c8 (rT S hl hH) λm I W hm=>?_
 refine fA KK.cls λnm q bs sn sub col dd k0 k1 k2 k3 k5 hC=>?_
 refine qN KK.ns λmN hn hna hng hga hsa hme=>?_
 refine(hm x).elim hv λu hmx ru=>?_
 obtain⟨hh,g,d,t,os⟩:=s
 exact load_attrFk (S.keep _ _ hC) (j3 hn S.keep) hng (hna x hx) (tB x hx) I hmx (VR.handed ru) (k u _ ru)
theorem c7{e:Expr}{x:Str}{pos:Pos}{prog:Program}{w:World}{A:Around}{E:Value->Shared->Prop}{s:Shared}{Q:Value->Shared->Prop}(hb:attributeBase e x env (eval e env)=eval e env)
  (h:wpAny (model prog w) A (eval e env) (λo s1=>wpAny (model prog w) A (getAttr o x true) Q E s1) E s):wpAny (model prog w) A (eval (.Attribute e x pos) env) Q E s:=by
 show wpAny (model prog w) A (do
  let o<-attributeBase e x env (eval e env)
  standAt pos.atName
  let r<-holding [o] (getAttr o x true)
  letTemporaryGo e o r
  pure r) _ _ s
 rw [hb]
 refine wpAny_bind (wpAny_mono h ?_ λ_ _ z=>z)
 intro o s1 h1
 refine wpAny_bind (wpAny_standAt (wpAny_bind (wpAny_holding (wpAny_mono h1 ?_ λ_ _ z=>z))))
 intro y s2 p
 exact wpAny_bind (wpAny_letTemporaryGo (wpAny_pure p))
theorem EV.attr{e:Expr}{x:Str}{pos:Pos}{f:EF}(K:SMC C)(hx:x∈dH)(h:EV C r env e f)(hb:attributeBase e x env (eval e env)=eval e env:=by exact rfl)(ht:∀ o y,letTemporaryGo e o y=pure ():=by exact λ_ _=>rfl):EV C r env (.Attribute e x pos) (dV x f):=
 λ_ _ _ _ _ _ hr S F q=>c7 hb (h.run hr S F q λS1 N1 r1 q=>q.elim λi hi q=>q.elim λfs hf q=>q.elim λv hv q=>by
  refine c8 (r1.toRef hi) λl _ z79 g=>?_;subst z79
  exact rV K hx S1 g (aCf hf) hv λu n ru=>⟨S1.toks n,N1.trans (.toks n),ru,q⟩)
def fput(fs:Str->Option V)(x:Str)(v:V):Str->Option V:=λy=>if y=x then some v else fs y
theorem q4{A:Around}{s:Shared}{ρ:List Lc}{H:MH}{i:Nat}{l:Lc}{fs:Str->Option V}{x:Str}{u:Value}{v:V}{W:Addr->Prop}(K:SMC C)(hx:x∈dH)(S:Sim C H ρ s)(hl:ρ[i]? =some l)(hH:H[i]? =some (.inst fs))(rv:VR ρ s.heap u v):
  wpAny C.M A (setAttr (.ref l.a) x u) (λ_ s'=>Sim C (H.set i (.inst (fput fs x v))) ρ s'/\Nx ρ W s ρ s') NoE s:=by
 refine c8 (rT S hl hH) λm I Wi hm=>?_
 refine fA K.cls λnm q bs sn sub col dd k0 k1 k2 k3 k5 hC=>?_
 refine qN K.ns λmN hn hna hng hga hsa hme=>?_
 refine xAAAEA (S.objs i _ l hH hl) λg ne z80 _ z81 _=>?_;obtain⟨o,h1,h2,h3,h4⟩:=z80;obtain⟨oD,esD,epD,hoD,hdD,_⟩:=z81
 have hbase:C.base.heap.get? l.a=none:=by
  rcases S.ro i l hl with ⟨vs,e⟩ |e
  ·rw[hH]at e;cases e
  ·exact e.1
 have hxC:l.a≠dT:=by intro e;rw[e,hC]at hbase;cases hbase
 obtain⟨hh,gg,d,t,os⟩:=s
 refine store_attrFk PySem.F.store_object (S.keep _ _ hC) (j3 hn S.keep) hsa (hna x hx) (tB x hx) hxC I (λh' tk' I' hk hsame=>?_) Wi (by rw[sizeLine_eq];decide)
 have kk:∀ b ob,¬l.has b->hh.get? b=some ob->h'.get? b=some ob:=λb ob hb e=>hk b ob (λz=>hb (.inl z)) (λo₀ d' e₀ ed=>by
  obtain rfl:=Option.some.inj (h1.symm.trans e₀);obtain rfl:=Option.some.inj (h4.symm.trans ed);exact λz=>hb (.inr z)) e
 have im:Imm hh h':=λb ob e i=>kk b ob (λz=>by
  rcases z with rfl |rfl
  ·rw[h1]at e;cases e;simp [aS,h3]at i
  ·rw[hoD]at e;cases e;simp [aS,hdD]at i) e
 refine zJ (hsame o h1) λo₁ e₁ c₁ dt₁ _ dk₁=>?_
 refine xEAAA I' λo' e' c' _ hd'=>?_
 obtain rfl:=Option.some.inj (e₁.symm.trans e')
 have hd1:=dk₁ l.d h4
 rcases hd' with ⟨hn0,_⟩ |⟨d',hd',ne',hns',hex'⟩
 ·rw[hd1]at hn0;cases hn0
 obtain rfl:=Option.some.inj (hd1.symm.trans hd')
 have al:∀ b ob,hh.get? b=some ob->∃ ob',h'.get? b=some ob':=λb ob e=>by
  by_cases z:l.has b
  ·rcases z with rfl |rfl
   ·exact⟨_,e₁⟩
   ·refine iA hns' λo2 _ _ e2 _=>?_;exact⟨o2,e2⟩
  ·exact⟨ob,kk b ob z e⟩
 refine⟨S.upd (s':=⟨h',gg,d,tk',os⟩) hl hH (by intro _ h;cases h) (λb ob e hb=>kk b ob hb e) im rfl rfl ⟨g,ne,⟨o₁,e₁,c₁.trans h2,dt₁.trans h3,hd1⟩,_,hns',hex',?_,λy=>?_⟩ (by intro _ h;cases h),
  ⟨List.prefix_refl _,λl hl=>by simp at hl,λb ob e ho _=>kk b ob (λz=>ho ⟨l,List.mem_of_getElem? hl,z⟩) e,im,al⟩⟩
 ·intro y hy
  by_cases z:y=x
  ·subst z;exact hx
  ·exact Wi y (by simpa [z] using hy)
 ·unfold fput
  by_cases z:y=x
  ·simp only[z,if_true];exact rv.mono (List.prefix_refl _) im
  ·simp only[z,if_false];exact(hm y).mono (List.prefix_refl _) im
def d6(x:Str)(f:EF):AF:=λv lo H Q=>f lo H λa H1=>Lf a.rf λi=>Lf (H1[i]?.bind MO.ins) λfs=>Q lo (H1.set i (.inst (fput fs x v)))
theorem AV.attr{e:Expr}{x:Str}{pos:Pos}{f:EF}(K:SMC C)(hx:x∈dH)(h:EV C r env e f):AV C r env (.Attribute e x pos) (d6 x f):=by
 intro A s ρ H lo u v Q hr S F rv q
 rw [assign_Attribute]
 exact wpAny_bind (wpAny_holding (h.run hr S F q λS1 N1 r1 q=>q.elim λi hi q=>q.elim λfs hf q=>by
  refine c8 (r1.toRef hi) λl _ z82 g=>?_;subst z82
  refine wpAny_bind (wpAny_standAt (wpAny_bind (wpAny_holding (wmN (q4 (W:=noW) K hx S1 g (aCf hf) (rv.nx N1)) λ_ s2 p=>?_))))
  exact wpAny_release ⟨p.1,(N1.trans p.2).wr,F.nx (N1.trans p.2),q⟩))
def gV(g:CF)(f:EF)(fs:EFs):EF:=λlo H Q=>f lo H λa H1=>Lf a.rf λi=>(∃ ff,H1[i]? =some (.inst ff))/\fs lo H1 λvs H2=>g (.ref i :: vs) H2 Q
theorem yU:∀ p∈eX,p.1∉dH:=by decide+kernel
theorem EV.meth{o:Expr}{name:Str}{fa:Addr}{apos pos:Pos}{f:EF}{g:CF}{es:List Expr}{fs:EFs}(K:SMC C)(hp:(name,fa)∈eX)(hf:CV C r (.ref fa) g)(ho:EV C r env o f)(ha:EVs C r env es fs)(hfl:oH env es)(sh:fZ env o name apos pos es):
  EV C r env (.Call (.Attribute o name apos) es [] pos) (gV g f fs):=
 λ_ _ _ _ _ _ hr S F q=>d0 (P:=λ_ _=>True) sh.base sh.few sh.line (ho.run hr S F q λ{x s1 ρ1 v1 H1} S1 N1 r1 q pl=>q.elim λi hi q=>by
  refine c8 (r1.toRef hi) λl _ hl g'=>?_
  subst hl
  refine xA q λz83 q=>?_;obtain⟨ff,hH⟩:=z83
  refine c8 (rT S1 g' hH) λm I W hm=>?_
  refine fA K.cls λnm q' bs sn sub col dd k0 k1 k2 k3 k5 hC=>?_
  refine qN K.ns λmN hn hna hng hga hsa hme=>?_
  refine xEA (K.fn _ hp) λof hof hfc=>?_
  refine xE (aBe _ hp) λy hy=>?_
  have hsh:m name=Option.none:=by
   cases e:m name with
   |none=>rfl
   |some z=>exact absurd (W name (by rw[e];intro q;cases q)) (yU _ hp)
  have key:=wmN (E:=NoE) (l3 (pos:=pos) hf ha hfl hr S1 (F.nx N1) (.cons (VR.ref g') .nil) q) λ_ _ p=>p.from N1
  obtain⟨hh,gg,d,t,os⟩:=s1
  exact method_ofFk (S1.keep _ _ hC) (j3 hn S1.keep) hng hga (hme _ hp) (S1.keep _ _ hof) hfc hy I hsh key)
end
section
variable {C:Cx}{r:Nat}{env:Env}
theorem Sim.iterX{H:MH}{ρ:List Lc}{s:Shared}{h':Heap}{k:Nat}{X:Addr->Prop}(S:Sim C H ρ s)(hk:∀ b o,¬X b->s.heap.get? b=some o->h'.get? b=some o)(hi:∀ a o,X a->s.heap.get? a=some o->¬aS o)(hX:∀ b,X b->¬Own ρ b/\C.base.heap.get? b=none):
  Sim C H ρ {s with heap:=h',toks:=k}/\NxI ρ X s ρ {s with heap:=h',toks:=k}:=by
 have im:Imm s.heap h':=λb o e i=>Classical.byCases (λq:X b=>absurd i (hi b o q e)) λq=>hk b o q e
 refine⟨S.same (λb o e q=>hk b o (λz=>?_) e) im (λ_ _ e=>e) rfl S.bare,⟨List.prefix_refl _,λl hl=>by simp at hl,λb o e _ q=>hk b o q e,im,λb o e q=>⟨o,hk b o q e⟩⟩⟩
 refine Or.elim q (λq=>?_) λq=>?_
 ·exact(hX b z).1 q
 ·rw[(hX b z).2]at q;cases q
inductive EnR(ρ:List Lc)(h:Heap)(it:Nat×Nat):Value->(Addr->Prop)->Prop
 |mk {e t l old} (h1:ρ[it.1]? =some l) (h2:e≠t) (h3:IsEnum h e t it.2 old) (h4:h.IsListIter t l.a it.2):EnR ρ h it (.ref e) (λb=>b=e∨b=t)
inductive EnM(ρ:List Lc)(h:Heap)(it:Nat×Nat):Value->Value->(Addr->Prop)->Prop
 |mk {e t l item a} (h1:ρ[it.1]? =some l) (h2:e≠t) (h3:IsEnumOut h e t it.2 item a) (h4:h.IsListIter t l.a it.2):EnM ρ h it (.ref a) (.ref e) (λb=>b=e∨b=t)
theorem aDg{h:Heap}{e t:Addr}{o1 o2:Obj}(h1:h.get? e=some o1)(h2:h.get? t=some o2)(i1: ¬aS o1)(i2: ¬aS o2):∀ b o,(b=e∨b=t)->h.get? b=some o->¬aS o:=λb o q e'=>by
 rcases q with rfl |rfl
 ·rw[h1]at e';cases e';exact i1
 ·rw[h2]at e';cases e';exact i2
theorem rO{o:Obj}{x y:Value}(h4:o.cls= .type "list_iterator")(h5:o.data= .fields #[x,y]): ¬aS o:=by unfold aS;rw[h5];simp [h4]
def qD(C:Cx):ItK C where
 σ:=Nat×Nat
 nx:=λit H Q=>Lf (lst H (.ref it.1)) λvs=>Q ((vs[it.2]?).map λv=>(.tup [.int it.2,v],(it.1,it.2+1))) H
 rel:=λρ s it x X=>EnR ρ s.heap it x X
 mid:=λρ s it u x X=>EnM ρ s.heap it u x X
 tg:=λt=>∃ elts k pos,t= .Tuple elts k pos
 need:=0
 mono:=λR p i hk=>by
  cases R with
  |mk h1 h2 h3 h4=>refine xEA h4 λo h4 h5=>?_;exact .mk (aL p h1) h2 (hk _ _ (.inl rfl) h3) ⟨o,hk _ _ (.inr rfl) h4,h5⟩
 alive:=λR b hb=>by
  cases R with
  |mk h1 h2 h3 h4=>
   refine xEA h4 λo h4 h5=>?_
   rcases hb with rfl |rfl
   ·exact⟨_,h3⟩
   ·exact⟨_,h4⟩
 next:=λ{A s ρ H it x X Q r} _ hr S R hX q=>by
  refine q.elim λvs hl q=>?_
  cases R with
  |mk h1 h2 h3 hit=>
  refine cJ (cZ S (.ref h1) hl) λad xs q1 q2 q3=>?_
  cases q1
  have hi:∀ b o,_->s.heap.get? b=some o->¬aS o:=let ⟨o,h4,h5,h6⟩:=hit;aDg h3 h4 (by simp [aS]) (rO h5 h6)
  cases hv:vs[it.2]? with
  |some v=>
   rw [hv]at q
   refine xEA (q3.get hv) λu hu ru=>?_
   refine wpAny_pyNext_enum_item h3 hit q2 (by simpa using hu) h2 λh' a1 a2 a3 a4 a5=>?_
   have st:=S.iterX (h':=h') (k:=s.toks+1) (λb o hb e'=>a5 b o (λz=>hb (.inl z)) (λz=>hb (.inr z)) e') hi hX
   exact .item (it':=(it.1,it.2+1)) st.1 st.2 (.tup a3 (.cons (.int _ _) (.cons (ru.mono (List.prefix_refl _) st.2.imm) .nil))) (.mk h1 h2 a1 a2) q
  |none=>
   rw [hv]at q
   refine wpAny_pyNext_enum_end hr.1 h3 hit q2 (Array.getElem?_eq_none (by rw[q3.sz];exact List.getElem?_eq_none_iff.mp hv)) λh' he=>?_
   have st:=S.iterX (h':=h') (k:=s.toks) (λb o hb e'=>he b o (λz=>hb (.inr z)) e') hi hX
   exact .done st.1 st.2 q
 lgo:=λ{A s ρ H it x X u target r} hr S M tg hX=>by
  refine xEEE tg λelts k pos z68=>?_;clear tg;subst z68
  cases M with
  |mk h1 h2 h3 hit=>
  have hi:∀ b o,_->s.heap.get? b=some o->¬aS o:=let ⟨o,h4,h5,h6⟩:=hit;aDg h3 h4 (by simp [aS]) (rO h5 h6)
  refine wpAny_letOwnedTupleGo_enum h3 λh' a1 hs=>?_
  have st:=S.iterX (h':=h') (k:=s.toks) (λb o hb e'=>(hs.2 b (λz=>hb (.inl z))).trans e') hi hX
  refine xEA hit λo h4 h5=>?_
  exact⟨st.1,st.2,.mk h1 h2 a1 ⟨o,(hs.2 _ (Ne.symm h2)).trans h4,h5⟩⟩
theorem IV.enum{e:Expr}{np pos:Pos}{f:EF}(h:EV C r env e f)(hg:Glo C "enumerate" (.type "enumerate"))(hk:env.kindOf "enumerate" =some .globalImplicit)(hfl:oH env [e])(he:starEach [e] env=(false,eval e env) :: starEach [] env):
  IV (qD C) r env (.Call (.Name "enumerate" np) [e] [] pos) (iL f):=
 λA s ρ H lo Q hr S F q=>wpAny_Call_ofName (lL hg hk (by decide) S F (callWith_of (P:=λh=>∀ b o,C.base.heap.get? b=some o->h.get? b=some o) (by rw[hfl.2];rfl) dX
  (wmN (k4 (Q:=λvs H1=>Lf (one vs) λv=>Lf v.rf λi=>(∃ vs,lst H1 (.ref i)=some vs)/\Q (i,0) H1) (EVs.cons h EVs.nil he) hfl hr S F q) λa s1 p=>by
  obtain⟨ps,kw⟩:=a
  obtain⟨hkw,S1,N1,rs,q⟩:=p
  cases hkw
  refine⟨S1.keep,q.elim λv hv q=>q.elim λi hi q=>?_⟩
  refine xEA (lI rs hv) λu hu r1=>?_
  cases hu
  refine c8 (r1.toRef hi) λl z69 z70 g=>?_;subst z69;subst z70
  refine xA q λz71 q=>?_;obtain⟨vs,hl⟩:=z71
  refine cJ (cZ S1 r1 hl) λad xs e q2 q3=>?_
  cases e
  refine call_enumerate_list q2 λh' g1 g2 g3 g4=>wpAny_pyIter_enum g1 ?_
  have fr1:s1.heap.get? (s1.heap.objs.size+1)=none:=by
   cases e':s1.heap.get? (s1.heap.objs.size+1) with
   |none=>rfl
   |some o=>exact absurd (Heap.lt_size e') (Nat.not_lt.mpr (Nat.le_succ _))
  exact⟨S1.ext g4,N1.trans (.ext g4),.mk g (Nat.succ_ne_self _) g1 g2,λb hb=>by
   rcases hb with rfl |rfl
   ·exact c0 N1 S1 fr1
   ·exact c0 N1 S1 (bG _),q⟩)))
def MO.dct:MO->Option (Nat×(Int->Option V)) | .dict n f=>some (n,f) |_=>none
theorem vU{m:Option MO}{p:Nat×(Int->Option V)}(e:m.bind MO.dct=some p):m=some (.dict p.1 p.2):=by
 refine xEA (Option.bind_eq_some_iff.mp e) λm z72 h2=>?_;subst z72
 cases m with
 |dict n f=>cases h2;rfl
 |_=>cases h2
theorem rE{H:MH}{ρ:List Lc}{s:Shared}{i:Nat}{l:Lc}{n:Nat}{f:Int->Option V}(S:Sim C H ρ s)(hl:ρ[i]? =some l)(hH:H[i]? =some (.dict n f))(hb:∃ o,C.base.heap.get? sysModules=some o):(l.a==sysModules)=false:=by
 rcases S.ro i l hl with ⟨vs,e⟩ |e
 ·rw[hH]at e;cases e
 ·rw[beq_eq_false_iff_ne]
  intro q
  refine xE hb λo ho=>?_
  rw [q,ho]at e
  cases e.1
structure DctAt(C:Cx)(H:MH)(ρ:List Lc)(s:Shared)(i:Nat)(l:Lc)(n:Nat)(f:Int->Option V)(kvs:List (Int×Value)):Prop where
 g:ρ[i]? =some l
 d:l.d=l.a
 gn:l.g=none
 h:H[i]? =some (.dict n f)
 x:s.heap.DictOf (intKind C.prog C.w) l.a kvs
 le:kvs.length<=n
 f:∀ k,OV ρ s.heap (valueAt kvs k) (f k)
theorem sB{H:MH}{ρ:List Lc}{s:Shared}(S:Sim C H ρ s){i:Nat}{l:Lc}{n:Nat}{f:Int->Option V}(g:ρ[i]? =some l)(h:H[i]? =some (.dict n f)):∃ kvs,DctAt C H ρ s i l n f kvs:=
 let ⟨h1,h2,kvs,hx,hle,hf⟩:=S.objs i _ l h g;⟨kvs,g,h1,h2,h,hx,hle,hf⟩
theorem qA{o:Expr}{f:EF}{name:Str}{id:String}{apos pos:Pos}{args:List Expr}{A:Around}{K:Value->Shared->Prop}{s:Shared}{ρ:List Lc}{H:MH}{lo:Lo}{Q:EK}
  (ho:EV C r env o f) (sh:fZ env o name apos pos args) (slot:Slot "dict" name id) (hty:typeOf (.builtin id)=pure (.type "method_descriptor")) (hr:Room r A) (S:Sim C H ρ s) (F:Fm C env ρ s lo) (e:f lo H Q)
  (hQ:∀ v H1,Q v H1->∃ i n g,v.rf=some i/\H1[i]? =some (.dict n g))
  (h:∀ {s1 ρ1 l i n g H1},Sim C H1 ρ1 s1->Nx ρ noW s ρ1 s1->ρ1[i]? =some l->H1[i]? =some (.dict n g)->Q (.ref i) H1->wpAny C.M A (callWith pos (.builtin id) [.ref l.a] (backTo pos (starEach args env)) []) K NoE s1):
  wpAny C.M A (eval (.Call (.Attribute o name apos) args [] pos) env) K NoE s:=
 d0 (P:=λ_ _=>True) sh.base sh.few sh.line (ho.run hr S F e λS1 N1 r1 q pl=>by
  refine iA (hQ _ _ q) λi n gg hi hv=>?_
  refine c8 (r1.toRef hi) λl hv' z73 g=>?_;subst z73
  subst hv'
  refine xE (sB S1 g hv) λkvs D=>?_
  have hx:=D.x
  refine fC hx λob es ep hob z74 _=>?_;obtain⟨hc1,hc2,hc3⟩:=z74
  exact getMethod_builtin ⟨_,hob,hc1⟩ PySem.F.plainAttrs_dict slot hty (λa e=>by cases e;exact⟨_,hob,hc2⟩) (h S1 N1 g hv q))
def eD2(f f1 f2:EF)(k:Nat->Nat->(Int->Option V)->Int->V->MH->EK->Prop):EF:=λlo H Q=>f lo H λa H1=>Lf a.rf λi=>(∃ n g,H1[i]? =some (.dict n g))/\f1 lo H1 λb H2=>Lf (Ti b) λx=>f2 lo H2 λv H3=>Lf (H3[i]?.bind MO.dct) λp=>k i p.1 p.2 x v H3 Q
def aDi(f f1 f2:EF):EF:=eD2 f f1 f2 λi n g x v H3 Q=>n<1000000/\match g x with |some v'=>Q v' H3 |none=>Q v (H3.set i (.dict (n+1) (dput g x v)))
theorem OV.same{ρ:List Lc}{h:Heap}{u:Option Value}{w:Option V}(o:OV ρ h u w):(u=none/\w=none)∨∃ x v,u=some x/\w=some v/\VR ρ h x v:=by
 cases u<;>cases w
 ·exact .inl ⟨rfl,rfl⟩
 ·exact False.elim o
 ·exact False.elim o
 ·exact .inr ⟨_,_,rfl,rfl,o⟩
theorem EV.setdefault{o e1 e2:Expr}{f f1 f2:EF}{apos pos:Pos}(hb:∃ o,C.base.heap.get? sysModules=some o)(ho:EV C r env o f)(h1:EV C r env e1 f1)(h2:EV C r env e2 f2)(sh:fZ env o "setdefault" apos pos [e1,e2])(ht:backTo pos (starEach [e1,e2] env)= [(false,eval e1 env),(false,eval e2 env)]):
  EV C r env (.Call (.Attribute o "setdefault" apos) [e1,e2] [] pos) (aDi f f1 f2):=
 λ_ _ _ _ _ _ hr S F q=>qA ho sh PySem.F.slot_dict_setdefault PySem.F.type_dict_setdefault hr S F q (λv H1 q=>q.elim λi hi q=>let ⟨n,g,h⟩:=q.1;⟨i,n,g,hi,h⟩) λ{s1 ρ1 l i n g H1} S1 N1 hl hw q=>by
  rw [ht]
  refine method2_meetsIn PySem.F.slot_dict_setdefault PySem.F.entry_dict_setdefault (h1.run hr S1 (F.nx N1) q.2 λ{x s2 ρ2 v2 H2} S2 N2 r2 q=>q.elim λk hk q=>h2.run hr S2 ((F.nx N1).nx N2) q λ{b s3 ρ3 v3 H3} S3 N3 r3 q=>q.elim λp hp q=>?_)
  refine xE (sB S3 (aL (N2.trans N3).pre hl) (vU hp)) λkvs D=>?_
  have N:=N1.trans (N2.trans N3)
  refine xE (r2.tiE hk) λt z75=>?_;subst z75
  refine xA q λhn q=>?_
  refine⟨D.x.mapOf.typeIs,PySem.F.args_dict_setdefault_3 _ _ _,_,kt_meets_setdefault (intKind C.prog C.w) (k:=k) l.a (intKind_is _ _ _ _) (rE S3 D.g D.h hb) b,kvs,D.x,by have:=D.le;rw[sizeLine_eq];exact A29 hn this,λu hu=>?_,λhu h' hx' hs=>?_⟩
  ·rcases(D.f k).same with ⟨e,_⟩ |⟨x',v',e,e',rv⟩
   ·rw[hu]at e;cases e
   ·rw[hu]at e;cases e;rw[e']at q;exact b6.from N (.tok S3 rv q)
  ·rcases(D.f k).same with ⟨_,e'⟩ |⟨x',v',e,_⟩
   ·rw[e']at q
    have st:=S3.setD (tk:=s3.toks+1) (k:=k) D.g D.h D.d D.gn D.x D.le D.f r3 hx' hs
    exact b6.from N ⟨st.1,st.2 _,r3.nx (st.2 noW),q⟩
   ·rw[hu]at e;cases e
def eGet(f f1 f2:EF):EF:=eD2 f f1 f2 λi n g x v H3 Q=>Q ((g x).getD v) H3
theorem EV.get{o e1 e2:Expr}{f f1 f2:EF}{apos pos:Pos}(hb:∃ o,C.base.heap.get? sysModules=some o)(ho:EV C r env o f)(h1:EV C r env e1 f1)(h2:EV C r env e2 f2)(sh:fZ env o "get" apos pos [e1,e2])(ht:backTo pos (starEach [e1,e2] env)= [(false,eval e1 env),(false,eval e2 env)]):
  EV C r env (.Call (.Attribute o "get" apos) [e1,e2] [] pos) (eGet f f1 f2):=
 λ_ _ _ _ _ _ hr S F q=>qA ho sh PySem.F.slot_dict_get PySem.F.type_dict_get hr S F q (λv H1 q=>q.elim λi hi q=>let ⟨n,g,h⟩:=q.1;⟨i,n,g,hi,h⟩) λ{s1 ρ1 l i n g H1} S1 N1 hl hw q=>by
  rw [ht]
  refine wpAny_dict_get2 (knd:=intKind C.prog C.w) (rE S1 hl hw hb) (h1.run hr S1 (F.nx N1) q.2 λ{x s2 ρ2 v2 H2} S2 N2 r2 q=>q.elim λk hk q=>h2.run hr S2 ((F.nx N1).nx N2) q λ{b s3 ρ3 v3 H3} S3 N3 r3 q=>q.elim λp hp q=>?_)
  refine xE (sB S3 (aL (N2.trans N3).pre hl) (vU hp)) λkvs D=>?_
  have N:=N1.trans (N2.trans N3)
  refine xE (r2.tiE hk) λt z76=>?_;subst z76
  dsimp only at q
  refine⟨k,_,intKind_is _ _ _ _,D.x.mapOf,?_⟩
  rcases(D.f k).same with ⟨e,e'⟩ |⟨x',v',e,e',rv⟩
  ·rw[e];rw[e']at q;exact b6.from N (.tok S3 r3 q)
  ·rw[e];rw[e']at q;exact b6.from N (.tok S3 rv q)
end
section
theorem wY:Slot "method_descriptor" "__get__" "method_descriptor.__get__" :=
 .of (owner:="method_descriptor") (n:="__get__") (by rw[typeLookup_type,builtinLookup_eq_fast];kernel_rfl) (by decide+kernel) (by decide+kernel) (by decide+kernel)
  (by first |exact .inl (by decide+kernel) |exact .inr (by decide+kernel)) (by rw[isSubtype_type];kernel_rfl)
theorem aBm:entryFor table "method_descriptor.__get__" =some Builtin.«method_descriptor.__get__»:=entryFor_of_tree ⋯
theorem aFl(a b c:Value):argsOk "method_descriptor.__get__" ⟨[a,b,c],[]⟩:=by unfold argsOk;kernel_rfl
theorem aAq:isSubtype (.type "dict") (.type "dict")=pure true:=by rw[isSubtype_type];kernel_rfl
theorem aEy:isSubtype (.type "set") (.type "set")=pure true:=by rw[isSubtype_type];kernel_rfl
theorem aFc:(kfb_private% "ownerAndName") "dict.get" =("dict","get"):=by first |decide+kernel |kernel_rfl
theorem aFd:(kfb_private% "ownerAndName") "set.__contains__" =("set","__contains__"):=by first |decide+kernel |kernel_rfl
theorem aA3{M:Model}{A:Around}{E:Value->Shared->Prop}{s:Shared}{a:Addr}{T id nm:String}{P:Fin->Shared->Prop}(h1:Manifest.toldItsClass.contains id=false)(ho:(kfb_private% "ownerAndName") id=(T,nm))(hsub:isSubtype (.type T) (.type T)=pure true)(hT:s.TypeIs (.ref a) T)
  (h:P (.done (.ret (.ref s.heap.objs.size))) {s with heap:=s.heap.push {cls:=.type "builtin_function_or_method",data:=.fields #[.builtin id,.ref a]}}):
  wpAny M A (Builtin.«method_descriptor.__get__» ⟨[.builtin id,.ref a,.type T],[]⟩) P E s:=by
 unfold Builtin.«method_descriptor.__get__»
 refine wpAny_bind (wpAny_of_eq (a:=(.builtin id,some (.ref a),some (.type T))) (by first |rfl |kernel_rfl) ?_)
 simp only[h1,Bool.false_eq_true,if_false]
 refine wpAny_bind (m:=(kfb_private% "checkInstance") (.builtin id) (.ref a)) ?_
 refine wpAny_bind (m:=(kfb_private% "nameAndClass") (.builtin id)) ?_
 refine wpAny_of_eq (a:=((nm:Str),.type T)) (by show(match (kfb_private% "ownerAndName") id with | (owner,name)=>pure ((name:Str),Value.type owner))=_;rw[ho]) ?_
 refine wpAny_bind (wpAny_isInstance hT hsub ?_)
 refine wpAny_pure ?_
 exact wpAny_bind (wpAny_newObj_type (wpAny_pure h))
theorem aBl:typeLookup (.type "method_descriptor") "__get__" =pure (some (.builtin "method_descriptor.__get__")):=by rw[typeLookup_type,builtinLookup_eq_fast];kernel_rfl
theorem aBk:typeLookup (.type "method_descriptor") "__set__" =pure none:=by rw[typeLookup_type,builtinLookup_eq_fast];kernel_rfl
theorem aBn:typeLookup (.type "method_descriptor") "__delete__" =pure none:=by rw[typeLookup_type,builtinLookup_eq_fast];kernel_rfl
theorem wZ{prog:Program}{w:World}{A:Around}{s:Shared}{a:Addr}{T id nm:String}{R:Result->Shared->Prop}(h1:Manifest.toldItsClass.contains id=false)(ho:(kfb_private% "ownerAndName") id=(T,nm))(hsub:isSubtype (.type T) (.type T)=pure true)
  (hty:typeOf (.builtin id)=pure (.type "method_descriptor")) (hT:s.TypeIs (.ref a) T) (h:R (.ok (.ret (.ref s.heap.objs.size))) {s with heap:=s.heap.push {cls:=.type "builtin_function_or_method",data:=.fields #[.builtin id,.ref a]}}):
  codeAny (model prog w) A (.call (.builtin "method_descriptor.__get__") ⟨[.builtin id,.ref a,.type T],[]⟩) R s:=by
 refine codeAny_call_builtin wY.plain aBm (wY.check _ _ _ _ _ _ _ _ hty (aFl _ _ _) (aA3 h1 ho hsub hT ?_))
 exact h
theorem jH:entryFor table "dict.__getattribute__" =some Builtin.«object.__getattribute__»:=
 entryFor_alias (id':="object.__getattribute__") ⋯ (by decide+kernel) (by decide+kernel) ⋯
theorem lk_get:typeLookup (.type "dict") "get" =pure (some (.builtin "dict.get")):=by rw[typeLookup_type,builtinLookup_eq_fast];kernel_rfl
set_option maxHeartbeats 1000000 in
theorem jD(a:Addr)(es:Array DictEntry)(k:Nat)(u:Tok):
  Meets (Builtin.«object.__getattribute__» ⟨[.ref a,.str "get" u],[]⟩) (λA R s=>s.heap.get? a=some {cls:=.type "dict",dict:=none,data:=.dict es k,slots:= #[]}/\R (.ok (.ret (.ref s.heap.objs.size))) {s with heap:=s.heap.push {cls:=.type "builtin_function_or_method",data:=.fields #[.builtin "dict.get",.ref a]}}):=
 Meets.of_wp λprog w A R s hs=>by
  obtain⟨hp,g,d,tk,os⟩:=s
  obtain⟨hx,hs⟩:=hs
  have hT:(⟨hp,g,d,tk,os⟩:Shared).TypeIs (.ref a) "dict" :=⟨_,hx,rfl⟩
  have f1:=lk_get
  have f2:=PySem.F.type_dict_get
  have f3:=aBl
  have f4:=aBk
  have f5:=aBn
  unfold Builtin.«object.__getattribute__»
  repeat (any_goals (first |assumption |wp_step))
  refine wZ (by decide+kernel) aFc aAq f2 hT ?_
  exact wpAny_pure ⟨_,rfl,hs⟩
set_option maxHeartbeats 1000000 in
theorem lM{prog:Program}{w:World}{A:Around}{E:Value->Shared->Prop}{s:Shared}{a:Addr}{es:Array DictEntry}{k:Nat}{b:Bool}{Q:Value->Shared->Prop}
  (hx:s.heap.get? a=some {cls:=.type "dict",dict:=none,data:=.dict es k,slots:= #[]})
  (h:Q (.ref s.heap.objs.size) {s with heap:=s.heap.push {cls:=.type "builtin_function_or_method",data:=.fields #[.builtin "dict.get",.ref a]},toks:=s.toks+1}):
  wpAny (model prog w) A (getAttr (.ref a) "get" b) Q E s:=by
 obtain⟨hp,g,d,tk,os⟩:=s
 have hT:∀ tk',(⟨hp,g,d,tk',os⟩:Shared).TypeIs (.ref a) "dict" :=λ_=>⟨_,hx,rfl⟩
 have f3:=F.slot_dict_getattribute.lookup
 have f4:=F.slot_dict_getattribute.bind (.ref a)
 unfold getAttr getAttrBy
 repeat (any_goals (first |assumption |exact hT _ | ((with_reducible show wpAny _ _ (call (Value.builtin "dict.__getattribute__") _ _) _ _ _);refine call_meets F.slot_dict_getattribute (hT _) jH (F.args_dict_getattribute_2 _ _) (jD a es k _) ⟨hx,?_⟩) |wp_step))
 have hb:(b && onTheHeap (Value.builtin "dict.__getattribute__"))=false:=by cases b<;>rfl
 simp only[hb,Bool.false_eq_true,if_false]
 unfold boundAndCalled
 repeat (any_goals (first |assumption |exact hT _ | ((with_reducible show wpAny _ _ (call (Value.builtin "dict.__getattribute__") _ _) _ _ _);refine call_meets F.slot_dict_getattribute (hT _) jH (F.args_dict_getattribute_2 _ _) (jD a es k _) ⟨hx,?_⟩) |wp_step))
 exact wpAny_pure h
theorem kW:entryFor table "set.__getattribute__" =some Builtin.«object.__getattribute__»:=
 entryFor_alias (id':="object.__getattribute__") ⋯ (by decide+kernel) (by decide+kernel) ⋯
theorem lk_con:typeLookup (.type "set") "__contains__" =pure (some (.builtin "set.__contains__")):=by rw[typeLookup_type,builtinLookup_eq_fast];kernel_rfl
set_option maxHeartbeats 1000000 in
theorem j5(a:Addr)(k:Nat)(st:SetTable)(u:Tok):
  Meets (Builtin.«object.__getattribute__» ⟨[.ref a,.str "__contains__" u],[]⟩) (λA R s=>s.heap.get? a=some {cls:=.type "set",dict:=none,data:=.set #[] k st,slots:= #[]}/\R (.ok (.ret (.ref s.heap.objs.size))) {s with heap:=s.heap.push {cls:=.type "builtin_function_or_method",data:=.fields #[.builtin "set.__contains__",.ref a]}}):=
 Meets.of_wp λprog w A R s hs=>by
  obtain⟨hp,g,d,tk,os⟩:=s
  obtain⟨hx,hs⟩:=hs
  have hT:(⟨hp,g,d,tk,os⟩:Shared).TypeIs (.ref a) "set" :=⟨_,hx,rfl⟩
  have f1:=lk_con
  have f2:=PySem.F.type_set_contains
  have f3:=aBl
  have f4:=aBk
  have f5:=aBn
  unfold Builtin.«object.__getattribute__»
  repeat (any_goals (first |assumption |wp_step))
  refine wZ (by decide+kernel) aFd aEy f2 hT ?_
  exact wpAny_pure ⟨_,rfl,hs⟩
set_option maxHeartbeats 1000000 in
theorem mE{prog:Program}{w:World}{A:Around}{E:Value->Shared->Prop}{s:Shared}{a:Addr}{k:Nat}{st:SetTable}{b:Bool}{Q:Value->Shared->Prop}
  (hx:s.heap.get? a=some {cls:=.type "set",dict:=none,data:=.set #[] k st,slots:= #[]})
  (h:Q (.ref s.heap.objs.size) {s with heap:=s.heap.push {cls:=.type "builtin_function_or_method",data:=.fields #[.builtin "set.__contains__",.ref a]},toks:=s.toks+1}):
  wpAny (model prog w) A (getAttr (.ref a) "__contains__" b) Q E s:=by
 obtain⟨hp,g,d,tk,os⟩:=s
 have hT:∀ tk',(⟨hp,g,d,tk',os⟩:Shared).TypeIs (.ref a) "set" :=λ_=>⟨_,hx,rfl⟩
 have f3:=F.slot_set_getattribute.lookup
 have f4:=F.slot_set_getattribute.bind (.ref a)
 unfold getAttr getAttrBy
 repeat (any_goals (first |assumption |exact hT _ | ((with_reducible show wpAny _ _ (call (Value.builtin "set.__getattribute__") _ _) _ _ _);refine call_meets F.slot_set_getattribute (hT _) kW (F.args_set_getattribute_2 _ _) (j5 a k st _) ⟨hx,?_⟩) |wp_step))
 have hb:(b && onTheHeap (Value.builtin "set.__getattribute__"))=false:=by cases b<;>rfl
 simp only[hb,Bool.false_eq_true,if_false]
 unfold boundAndCalled
 repeat (any_goals (first |assumption |exact hT _ | ((with_reducible show wpAny _ _ (call (Value.builtin "set.__getattribute__") _ _) _ _ _);refine call_meets F.slot_set_getattribute (hT _) kW (F.args_set_getattribute_2 _ _) (j5 a k st _) ⟨hx,?_⟩) |wp_step))
 exact wpAny_pure h
end
section
variable {C:Cx}{r:Nat}{env:Env}
noncomputable abbrev zE(id:String)(self:Value):Obj:= {cls:=.type "builtin_function_or_method",data:=.fields #[.builtin id,self]}
theorem vK{h:Heap}{x:Addr}{id:String}{self:Value}(ho:h.get? x=some (zE id self)):∃ k,(k=Keeper.frame∨k=Keeper.machine∨k=Keeper.boundFrame)/\Looks C.M h (keeperOf (.ref x)) k:=by
 refine⟨.machine,.inr (.inl rfl),(Looks.ld (part:=none) ho).andThen ?_⟩
 exact .now
theorem rG:isSubtype (.type "dict") (.type "module")=pure false:=by rw[isSubtype_type];kernel_rfl
theorem tD:isSubtype (.type "set") (.type "module")=pure false:=by rw[isSubtype_type];kernel_rfl
def okB(id full:String)(args:Args):Prop:=(match Manifest.signature? id with |some sig=>Bind.checkArgs id {sig with full:=full} args |none=>(pure ():Sem Unit))=pure ()
theorem aE0(a b c:Value):okB "dict.get" "dict.get" ⟨[a,b,c],[]⟩:=by
 unfold okB;rw[signature?_of (id:="dict.get") (n:=['t','e','g']) (o:=['t','c','i','d']) ⋯ PySem.F.owner_dict];kernel_rfl
theorem aE1(a b:Value):okB "set.__contains__" "set.__contains__" ⟨[a,b],[]⟩:=by
 unfold okB;rw[signature?_of (id:="set.__contains__") (n:=['_','_','s','n','i','a','t','n','o','c','_','_']) (o:=['t','e','s']) ⋯ PySem.F.owner_set];kernel_rfl
theorem l0{M:Model}{A:Around}{E:Value->Shared->Prop}{s:Shared}{d:Addr}{rest:List Value}{T id nm:String}{Q:Unit->Shared->Prop}(hk:builtinKind id=some .method)(hn:Bind.lastOf id=nm)(hv:Manifest.varargsMethods.contains id=false)
  (hm:isSubtype (.type T) (.type "module")=pure false){o:Obj} (ho:s.heap.get? d=some o) (hc:o.cls= .type T) (hnc:∀ c,o.data≠ .cls c){full:String} (hfull:s!"{Bind.lastOf T}.{nm}" =full) (hok:okB id full ⟨.ref d :: rest,[]⟩) (h:Q () s):
  wpAny M A (checkBoundCall id ⟨.ref d :: rest,[]⟩) Q E s:=by
 have hT:s.TypeIs (.ref d) T:=⟨o,ho,hc⟩
 unfold checkBoundCall
 rw [<-hfull]at hok
 unfold okB at hok
 cases hs:Manifest.signature? id with
 |none=>exact wpAny_pure h
 |some sig=>
  rw [hs]at hok
  rw [hk]
  dsimp only
  rw [if_neg (by decide),hn]
  refine wpAny_bind (wpAny_isInstance hT hm ?_)
  rw [hv,if_neg (by decide)]
  refine wpAny_bind (m:=isType (.ref d)) ?_
  show wpAny M A (loadHead d >>=λob=>pure (match ob.data with | .cls _=>true |_=>false)) _ _ s
  refine wpAny_bind (m:=loadPart d (some headPart)) (wpAny_loadPart ho ?_)
  have e:(match o.data with | .cls _=>true |_=>false)=false:=by
   cases q:o.data<;>first |rfl |exact absurd q (hnc _)
  rw [e]
  refine wpAny_pure ?_
  rw [if_neg (by decide)]
  refine wpAny_bind (wpAny_typeOf hT ?_)
  exact wpAny_of_eq hok h
theorem aC0:s!"{Bind.lastOf "dict"}.{"get"}" ="dict.get" :=by decide+kernel
theorem aC1:s!"{Bind.lastOf "set"}.{"__contains__"}" ="set.__contains__" :=by decide+kernel
theorem aB6:builtinKind "dict.get" =some .method:=by decide+kernel
theorem aB7:builtinKind "set.__contains__" =some .method:=by decide+kernel
theorem aB4:Bind.lastOf "dict.get" ="get" :=by decide+kernel
theorem aB5:Bind.lastOf "set.__contains__" ="__contains__" :=by decide+kernel
theorem aEk:Manifest.varargsMethods.contains "dict.get" =false:=by decide+kernel
theorem aEl:Manifest.varargsMethods.contains "set.__contains__" =false:=by decide+kernel
theorem oA{prog:Program}{w:World}{A:Around}{E:Value->Shared->Prop}{s:Shared}{x:Addr}{self:Value}{args:List Value}{id:String}{B:Builtin}{S:PySem.Spec}{Q:Value->Shared->Prop}(ho:s.heap.get? x=some (zE id self))
  (hc:∀ {A':Around}{E':Value->Shared->Prop}{Q':Unit->Shared->Prop},Q' () s->wpAny (model prog w) A' (checkBoundCall id ⟨self :: args,[]⟩) Q' E' s) (hq:plainId id=true) (hb:entryFor table id=some B)
  (g:MeetsIn prog w (B ⟨self :: args,[]⟩) S) (h:S A (wants Q E) s):wpAny (model prog w) A (call (.ref x) args) Q E s:=by
 refine wpAny_call (codeAny_of_tree ?_)
 show wpAny _ A.in1 (callAny (.ref x) ⟨args,[]⟩) _ _ s
 simp only[callAny]
 refine wpAny_bind (wpAny_load ho ?_)
 simp only[show (Value.type "builtin_function_or_method" ==Value.type "method" || Value.type "builtin_function_or_method" ==Value.type "builtin_function_or_method" || Value.type "builtin_function_or_method" ==Value.type "method-wrapper")=true by decide,if_true]
 refine KFB.if_so (by decide) ?_
 refine wpAny_bind (hc ?_)
 refine wpAny_bind (wpAny_pure (wpAny_pure ?_))
 refine⟨plainId_quiet hq _,codeAny_builtin hb ?_⟩
 rw [Around.under_plainId hq]
 exact g A _ s h
theorem vS{h:Heap}{a:Addr}{n:Nat}{t:SetTable}(ho:h.get? a=some {cls:=.type "set",data:=.set #[] n t})(hf:t.fits 0=true)(prog:Program)(w:World):h.SetOf (intKind prog w) a (λ_=>false) 0:=
 ⟨_,#[],n,t,ho,⟨rfl,rfl,rfl⟩,rfl,λe he=>by simp at he,λk=>by simp,by decide,hf,rfl⟩
theorem yV{prog:Program}{w:World}{a:Addr}{k:Int}{u:Tok}:
  MeetsIn prog w (Builtin.«frozenset.__contains__» ⟨[.ref a,.int k u],[]⟩) (λ_ R s=>(∃ n t,s.heap.get? a=some {cls:=.type "set",data:=.set #[] n t}/\t.fits 0=true)/\R (.ok (.ret (.bool false))) {s with toks:=s.toks+1}):=
 .of_wp λA R s ⟨⟨n,t,ho,hf⟩,h⟩=>by
  have hS:=vS ho hf prog w
  unfold Builtin.«frozenset.__contains__» Builtin.Frozenset.oneOther
  simp only[List.isEmpty_nil,bind_assoc]
  unfold Builtin.Frozenset.addrOf Builtin.Frozenset.withSetAsKey setContains
  refine wpAny_bind (wpAny_pure ?_)
  try dsimp only
  refine wpAny_bind (wpAny_pure ?_)
  try dsimp only
  refine wpAny_bind (wpAny_tryCatch ?_)
  refine wpAny_holding ?_
  refine wpAny_bind ((intKind prog w).pyHash (intKind_is _ _ _ _) ?_)
  refine wpAny_bind (wpAny_setFind_of (s:= {s with toks:=s.toks+1}) (intKind_is _ _ _ _) rfl hS λr hr=>?_)
  refine wpAny_pure ?_
  show wpAny _ _ (ret (Value.bool r.isSome)) _ _ _
  rw [hr]
  exact wpAny_pure ⟨_,rfl,h⟩
def eBd(mk:Nat->V)(ok:MO->Bool)(f:EF):EF:=λlo H Q=>f lo H λa H1=>Lf a.rf λi=>Lf H1[i]? λm=>ok m=true/\Q (mk i) H1
def okD:MO->Bool | .dict _ _=>true |_=>false
def okS:MO->Bool | .eset=>true |_=>false
theorem EV.dget{e:Expr}{pos:Pos}{f:EF}(h:EV C r env e f)(hb:attributeBase e "get" env (eval e env)=eval e env)(ht:∀ o y,letTemporaryGo e o y=pure ()):EV C r env (.Attribute e "get" pos) (eBd .dget okD f):=
 λ_ _ _ _ _ _ hr S F q=>c7 hb (h.run hr S F q λS1 N1 r1 q=>q.elim λi hi q=>q.elim λm hH q=>by
  obtain⟨l,_,rfl,g'⟩:=r1.toRef hi
  obtain⟨hok,q⟩:=q
  cases m with
  |dict n g=>
   obtain⟨e1,e2,kvs,⟨⟨oc,od,odt,osl⟩,es,ep,ho,⟨c1,c2,c3⟩,hd,_⟩,_⟩:=S1.objs i _ l hH g'
   simp only at c1 c2 c3 hd
   subst c1 c2 c3 hd
   exact lM ho ⟨(S1.push _).toks _,N1.trans ((Nx.push _).trans (.toks _)),.dget g' (Heap.get?_push_size _ rfl),q⟩
  |_=>cases hok)
theorem aF0{m:MO}(h:okS m=true):m= .eset:=by cases m<;>first |rfl |cases h
theorem EV.scon2{e:Expr}{pos:Pos}{f:EF}(h:EV C r env e f)(hb:attributeBase e "__contains__" env (eval e env)=eval e env):EV C r env (.Attribute e "__contains__" pos) (eBd .scon okS f):=
 λ_ _ _ _ _ _ hr S F q=>c7 hb (h.run hr S F q λS1 N1 r1 q=>q.elim λi hi q=>q.elim λm hH q=>by
  obtain⟨l,_,rfl,g'⟩:=r1.toRef hi
  obtain⟨hok,q⟩:=q
  obtain rfl:=aF0 hok
  obtain⟨e1,e2,n,t,ho,hf⟩:=S1.objs i _ l hH g'
  exact mE ho ⟨(S1.push _).toks _,N1.trans ((Nx.push _).trans (.toks _)),.scon g' (Heap.get?_push_size _ rfl),q⟩)
theorem zB{prog:Program}{w:World}{A:Around}{E:Value->Shared->Prop}{s:Shared}{x d:Addr}{k:Int}{u:Tok}{n:Nat}{t:SetTable}{Q:Value->Shared->Prop}(hx:s.heap.get? x=some (zE "set.__contains__" (.ref d)))
  (ho:s.heap.get? d=some {cls:=.type "set",data:=.set #[] n t}) (hf:t.fits 0=true) (h:Q (.bool false) {s with toks:=s.toks+1}):wpAny (model prog w) A (call (.ref x) [.int k u]) Q E s:=by
 have hs:(λ_ R s=>(∃ n t,s.heap.get? d=some {cls:=.type "set",data:=.set #[] n t}/\t.fits 0=true)/\R (.ok (.ret (.bool false))) {s with toks:=s.toks+1}:PySem.Spec) A (wants Q E) s:=⟨⟨n,t,ho,hf⟩,h⟩
 have hc:∀ {A':Around}{E':Value->Shared->Prop}{Q':Unit->Shared->Prop},Q' () s->wpAny (model prog w) A' (checkBoundCall "set.__contains__" ⟨.ref d :: [.int k u],[]⟩) Q' E' s:=by
  intro A' E' Q' hq
  have h1:∀ c,({cls:=.type "set",data:=.set #[] n t}:Obj).data≠ .cls c:=λc z=>by injection z
  have h2:okB "set.__contains__" "set.__contains__" ⟨.ref d :: [.int k u],[]⟩:=aE1 (.ref d) (.int k u)
  have h3:({cls:=.type "set",data:=.set #[] n t}:Obj).cls= .type "set" :=rfl
  refine l0 (T:="set") (nm:="__contains__") (id:="set.__contains__") (full:="set.__contains__") (d:=d) (rest:=[.int k u]) ?_ ?_ ?_ ?_ ho h3 h1 ?_ h2 hq
  ·exact aB7
  ·exact aB5
  ·exact aEl
  ·exact tD
  ·exact aC1
 exact oA hx hc PySem.F.slot_set_contains.plain entry_set_contains yV hs
def V.bd:V->Option (Bool×Nat) | .dget i=>some (true,i) | .scon i=>some (false,i) |_=>Option.none
def twoV(vs:List V):Option (Int×V):=match vs with | [a,b]=>(Ti a).map λk=>(k,b) |_=>none
def eCv(f:EF)(fs:EFs):EF:=λlo H Q=>f lo H λa H1=>Lf a.bd λp=>fs lo H1 λvs H2=>
 bif p.1 then Lf (twoV vs) λkv=>Lf (H2[p.2]?.bind MO.dct) λd=>Q ((d.2 kv.1).getD kv.2) H2
 else Lf ((one vs).bind Ti) λk=>H2[p.2]? =some .eset/\Q (.bool false) H2
theorem VR.toBd{ρ:List Lc}{h:Heap}{u:Value}{v:V}{t:Bool}{i:Nat}(r:VR ρ h u v)(e:v.bd=some (t,i)):∃ a l,u= .ref a/\ρ[i]? =some l/\h.get? a=some (zE (bif t then "dict.get" else "set.__contains__") (.ref l.a)):=by
 cases v with
 |dget n=>cases e;exact r.inv
 |scon n=>cases e;exact r.inv
 |_=>first |exact aI e |cases e
theorem two_ok{ρ:List Lc}{h:Heap}{us:List Value}{vs:List V}{p:Int×V}(r:VRs ρ h us vs)(e:twoV vs=some p):∃ t u,us= [.int p.1 t,u]/\VR ρ h u p.2:=by
 unfold twoV at e
 split at e
 ·refine xEA (Option.map_eq_some_iff.mp e) λk hk e=>?_
  refine cJ r.a2 λa b z87 ra rb=>?_;subst z87
  refine xE (ra.tiE hk) λt z88=>?_;subst z88
  cases e
  exact⟨t,b,rfl,rb⟩
 ·first |exact aI e |cases e
theorem zC{A:Around}{s2:Shared}{ρ2:List Lc}{H2:MH}{ad:Addr}{l:Lc}{i n:Nat}{g:Int->Option V}{kvs:List (Int×Value)}{k:Int}{t:Tok}{c:Value}{K:Value->Shared->Prop}(hb:∃ o,C.base.heap.get? sysModules=some o)(S2:Sim C H2 ρ2 s2)(D:DctAt C H2 ρ2 s2 i l n g kvs)
  (go2:s2.heap.get? ad=some (zE "dict.get" (.ref l.a))) (h:K ((valueAt kvs k).getD c) {s2 with toks:=s2.toks+1}):wpAny C.M A (call (.ref ad) [.int k t,c]) K NoE s2:=by
 have hx':=D.x
 refine cW hx' λoo es' ep ho z89 hd _=>?_;obtain⟨c1,c2,c3⟩:=z89
 exact oA go2 (λhq=>l0 (T:="dict") (nm:="get") aB6 aB4 aEk rG ho c1 (λc=>by rw[hd];intro z;cases z) aC0 (aE0 _ _ _) hq) PySem.F.slot_dict_get.plain PySem.F.entry_dict_get
  (meets_dict_get_default (intKind C.prog C.w) l.a (k:=k) (intKind_is _ _ _ _) (rE S2 D.g D.h hb) _) ⟨_,D.x.mapOf,h⟩
theorem EV.callV{x:Str}{np pos:Pos}{f:EF}{es:List Expr}{fs:EFs}(hb:∃ o,C.base.heap.get? sysModules=some o)(h:EV C r env (.Name x np) f)(ha:EVs C r env es fs)(hfl:oH env es):
  EV C r env (.Call (.Name x np) es [] pos) (eCv f fs):=
 λA s ρ H lo Q hr S F q=>wpAny_Call_ofName (h.run hr S F q λS1 N1 r1 q=>q.elim λp hp q=>by
  obtain⟨t,i⟩:=p
  refine cJ (r1.toBd hp) λad l z90 gl go=>?_;subst z90
  refine callWith_of (P:=λh=>h.get? ad=some (zE (bif t then "dict.get" else "set.__contains__") (.ref l.a))) (by rw[hfl.2];rfl) (λh hh=>vK hh) (wmN (k4 ha hfl hr S1 (F.nx N1) q) λa s2 p=>?_)
  obtain⟨ps,kw⟩:=a
  obtain⟨hkw,S2,N2,rs,q⟩:=p
  cases hkw
  have go2:=N2.imm _ _ go (by simp [aS])
  refine⟨go2,?_⟩
  have N:=N1.trans N2
  have hl2:=aL N2.pre gl
  cases t with
  |true=>
   replace q:=show Lf (twoV _) _ from q
   refine q.elim λkv hkv q=>q.elim λd hd q=>?_
   refine xE (sB S2 hl2 (vU hd)) λkvs D=>?_
   refine bO (two_ok rs hkv) λt u e ru=>?_
   cases e
   refine zC hb S2 D go2 ?_
   rcases(D.f kv.1).same with ⟨e,e'⟩ |⟨x',v',e,e',rv⟩
   ·rw[e];rw[e']at q;exact b6.from N (.tok S2 ru q)
   ·rw[e];rw[e']at q;exact b6.from N (.tok S2 rv q)
  |false=>
   replace q:=show Lf ((one _).bind Ti) _ from q
   refine q.elim λk hk q=>?_
   refine xEA (Option.bind_eq_some_iff.mp hk) λv hv hk=>?_
   refine xEA (lI rs hv) λu e ru=>?_
   cases e
   refine xE (ru.tiE hk) λt z91=>?_;subst z91
   refine jI (S2.objs i _ l q.1 hl2) λg1 g2 n t ho hf=>?_
   exact zB go2 ho hf (b6.from N (.tok S2 (.bool _) q.2)))
end
section
variable {C:Cx}{r:Nat}{env:Env}
theorem Room.deeper{r:Nat}{A:Around}(h:Room (r+1) A)(env:Env):Room r (A.deeper env):=by
 refine xAA h λh1 h2 h3=>?_
 refine⟨h1,?_,?_⟩
 ·show A.depth+1+10*r<=700;exact A30 h2
 ·show A.units+3+40*r<=8000;exact A31 h3
def lo0:Lo:=λ_=>none
def loB:List Str->List V->Lo->Lo
 |x :: xs,v :: vs,lo=>loB xs vs (upd lo x v)
 |_,_,lo=>lo
theorem loB_c(x:Str)(xs:List Str)(v:V)(vs:List V)(lo:Lo):loB (x :: xs) (v :: vs) lo=loB xs vs (upd lo x v):=rfl
theorem aDy{ρ:List Lc}{h:Heap}(kindOf:Str->Option NameKind)(xs:List Str):∀ {us:List Value}{vs:List V}{m cm:Str->Option Value}{lo:Lo},VRs ρ h us vs->us.length=xs.length->
  (∀ x∈xs,kindOf x=some .local∨kindOf x=some .cell)->
  (∀ x,kindOf x=some .local->OV ρ h (m x) (lo x))->(∀ x,kindOf x=some .cell->OV ρ h (cm x) (lo x))->
  (∀ x,kindOf x=some .local->OV ρ h (bindL kindOf (xs.zip us) m x) (loB xs vs lo x))/\(∀ x,kindOf x=some .cell->OV ρ h (bindC kindOf (xs.zip us) cm x) (loB xs vs lo x)):=by
 induction xs with
 |nil=>
  intro us vs m cm lo r hl _ a b
  cases r with
  |nil=>exact⟨a,b⟩
  |cons=>exact absurd hl (Nat.succ_ne_zero _)
 |cons x xs ih=>
  intro us vs m cm lo r hl hk h1 h2
  cases r with
  |nil=>exact absurd hl (Nat.succ_ne_zero _).symm
  | @cons u us v vs a b=>
  simp only[List.zip_cons_cons,bindL,bindC,loB_c]
  have hk':∀ y∈xs,kindOf y=some .local∨kindOf y=some .cell:=λy hy=>hk y (List.mem_cons_of_mem _ hy)
  have hl':=Nat.succ.inj hl
  refine Or.elim (hk x List.mem_cons_self) (λq=>?_) λq=>?_
  ·rw[if_pos q,if_pos q]
   refine ih b hl' hk' (λy hy=>?_) (λy hy=>?_)
   ·by_cases e:y=x
    ·simp [upd,e];exact a
    ·simp [upd,e];exact h1 y hy
   ·have e:y≠x:=by rintro rfl;rw[q]at hy;cases hy
    simp [upd,e];exact h2 y hy
  ·have q': ¬kindOf x=some .local:=by rw[q];intro z;cases z
   rw [if_neg q',if_neg q']
   refine ih b hl' hk' (λy hy=>?_) (λy hy=>?_)
   ·have e:y≠x:=by rintro rfl;rw[q]at hy;cases hy
    simp [upd,e];exact h1 y hy
   ·by_cases e:y=x
    ·simp [upd,e];exact a
    ·simp [upd,e];exact h2 y hy
theorem eE{x:Str}:∀ (names:List (Str×NameKind)) (n:Nat) (acc:List (Str×Addr)),(acc.lookup x).isSome=true∨(∃ k,(x,k)∈names/\k= .cell)->((cellsFrom n names acc).lookup x).isSome=true
 | [],_,_,h=>by
  rcases h with h |⟨k,h,_⟩
  ·exact h
  ·cases h
 | (y,k) :: r,n,acc,h=>by
  unfold cellsFrom
  split
  ·rename_i hk
   refine eE r (n+1) _ ?_
   rcases h with h |⟨k',h,hk'⟩
   ·left
    simp only[List.lookup]
    split
    ·rfl
    ·exact h
   ·refine Or.elim (List.mem_cons.mp h) (λe=>?_) λe=>?_
    ·cases e;left;simp [List.lookup]
    ·exact .inr ⟨k',e,hk'⟩
  ·rename_i hk
   refine eE r n _ ?_
   rcases h with h |⟨k',h,hk'⟩
   ·exact .inl h
   ·refine Or.elim (List.mem_cons.mp h) (λe=>?_) λe=>?_
    ·cases e;subst hk';exact absurd rfl hk
    ·exact .inr ⟨k',e,hk'⟩
structure Def(C:Cx)(a:Addr)(fd:FuncData)(body:List Stmt):Prop where
 obj:∃ o,C.base.heap.get? a=some o/\o.data= .func fd
 code:C.base.heap.CodeRec fd.code fd.qualname
 body:fd.body= .stmts body
 clo:fd.closure= []
 gl:fd.globals=mainGlobals
 bi:fd.builtins=builtinsNs
 kind:fd.scope.kind= .function
 co:fd.scope.isCoroutine=false
 free:∀ x:Str,fd.scope.names.lookup x≠some .free
theorem Fm.call{a:Addr}{fd:FuncData}{body:List Stmt}(D:Def C a fd body){H:MH}{ρ:List Lc}{s s1:Shared}{names:List Str}{us:List Value}{vs:List V}(S:Sim C H ρ s)(hu:VRs ρ s.heap us vs)(hl:us.length=names.length)
  (hn:∀ x∈names,fd.scope.names.lookup x=some .local∨fd.scope.names.lookup x=some .cell)
  (I:InCallC s (callEnvC fd s.heap.objs.size a).locals (bindL (callEnvC fd s.heap.objs.size a).kindOf (names.zip us) λ_=>none) (callEnvC fd s.heap.objs.size a).cells
    (bindC (callEnvC fd s.heap.objs.size a).kindOf (names.zip us) λ_=>none) s1):
  Sim C H ρ s1/\Nx ρ noW s ρ s1/\Fm C (callEnvC fd s.heap.objs.size a) ρ s1 (loB names vs lo0)/\(∀ b,Wr (callEnvC fd s.heap.objs.size a) b->s.heap.get? b=none):=by
 obtain⟨⟨⟨h',tk,e⟩,ns,keep,fresh⟩,cell,apart,above⟩:=I
 subst e
 have S1:Sim C H ρ {s with heap:=h',toks:=tk}:=S.ext keep
 have N1:Nx ρ noW s ρ {s with heap:=h',toks:=tk}:=.ext keep
 have hfr:∀ b,Wr (callEnvC fd s.heap.objs.size a) b->s.heap.get? b=none:=by
  rintro b (rfl |⟨x,hx⟩)
  ·exact bG _
  ·have:=above x b (mem_of_lookup hx)
   cases q:s.heap.get? b with
   |none=>rfl
   |some o=>have h2:=Heap.lt_size q;exact absurd (show s.heap.objs.size<b from this) (Nat.not_lt.mpr (Nat.le_of_lt h2))
 have hu1:=hu.mono (List.prefix_refl ρ) (d3 keep)
 have B:=aDy (ρ:=ρ) (h:=h') (callEnvC fd s.heap.objs.size a).kindOf names (m:=λ_=>none) (cm:=λ_=>none) (lo:=lo0) hu1 hl hn (λ_ _=>trivial) (λ_ _=>trivial)
 refine⟨S1,N1,⟨D.kind,D.gl,D.bi,⟨_,ns,B.1⟩,λx hx=>?_,λb hb=>⟨dZ S (hfr b hb),dL S (hfr b hb)⟩,λx c hx=>?_,λx y c hx hy=>?_,?_⟩,hfr⟩
 ·refine Or.elim hx (λhx=>?_) λhx=>?_
  ·have hs:((callEnvC fd s.heap.objs.size a).cells.lookup x).isSome=true:=eE _ _ _ (.inr ⟨_,mem_of_lookup hx,rfl⟩)
   refine xE (Option.isSome_iff_exists.mp hs) λc hc=>?_
   refine xEA (cell x c hc) λo h1 h2=>?_
   exact⟨c,o,_,hc,h1,h2,B.2 x hx⟩
  ·exact absurd hx (D.free x)
 ·have:=above x c (mem_of_lookup hx)
  intro q;rw[q]at this;exact Nat.lt_irrefl _ this
 ·exact name_of_addr apart (mem_of_lookup hx) (mem_of_lookup hy)
 ·rintro b (rfl |⟨x,hx⟩)
  ·refine iA ns λo _ _ g _=>?_;exact⟨o,g⟩
  ·refine xEA (cell x b hx) λo g _=>?_;exact⟨o,g⟩
theorem Nx.leave{ρ ρ1:List Lc}{s s0 s1:Shared}{W:Addr->Prop}(a:Nx ρ noW s ρ s0)(b:Nx ρ W s0 ρ1 s1)(hW:∀ x,W x->s.heap.get? x=none):Nx ρ noW s ρ1 s1:=by
 have T:Nx ρ W s ρ1 s1:=a.wr.trans b
 exact⟨T.pre,T.new,λx o e ho _=>T.kp x o e ho (λq=>by rw[hW x q]at e;cases e),T.imm,T.al⟩
def m6(Q:EK):SK:=λfl _ H=>match fl with | .ret v=>Q v H | .next=>Q .none H |_=>False
def lR(names:List Str)(more:List V)(f:SF):CF:=λvs H Q=>(vs++more).length=names.length/\f (loB names (vs++more) lo0) H (m6 Q)
def Binds(C:Cx)(fd:FuncData)(names:List Str)(dflt:List Value):Prop:=
 ∀ (s:Shared) (us:List Value),(∀ b o,C.base.heap.get? b=some o->s.heap.get? b=some o)->(us++dflt).length=names.length->BindsTo s fd ⟨us,[]⟩ (names.zip (us++dflt))
def sM(C:Cx)(ρ:List Lc)(s:Shared)(Q:EK):Result->Shared->Prop
 | .ok (.ret x),s'=>b6 C ρ s Q x s'
 |_,_=>False
theorem kZ{a:Addr}{fd:FuncData}{body:List Stmt}(D:Def C a fd body){names:List Str}{dflt:List Value}{more:List V}{f:SF}(hgen:fd.scope.isGenerator=false)
  (hb:Binds C fd names dflt) (hd:∀ ρ h,VRs ρ h dflt more)
  (hn:∀ x∈names,fd.scope.names.lookup x=some .local∨fd.scope.names.lookup x=some .cell)
  (hf:∀ L,SVs C r (callEnvC fd L a) body f){A:Around}{s:Shared}{ρ:List Lc}{H:MH}{us:List Value}{vs:List V}{Q:EK} (hr:Room (r+1) A) (S:Sim C H ρ s) (hu:VRs ρ s.heap us vs) (e:lR names more f vs H Q):
  codeAny C.M A (.call (.ref a) ⟨us,[]⟩) (sM C ρ s Q) s:=by
 refine xEA D.obj λo ho hdata=>?_
 refine xA e λhlen e=>?_
 have hu':VRs ρ s.heap (us++dflt) (vs++more):=hu.append (hd _ _)
 have hlen':(us++dflt).length=names.length:=hu'.length.trans hlen
 refine codeAny_call_function hr.lt (S.keep _ _ ho) hdata D.co hgen D.body (D.code.keeps S.keep) (hb s us S.keep hlen' _ _ _ _ ?_)
 rw [D.clo]
 have hbk:∀ x∈names.zip (us++dflt),fd.scope.names.lookup x.1=some .local∨fd.scope.names.lookup x.1=some .cell:=λx hx=>hn x.1 (List.of_mem_zip hx).1
 refine wpAny_newFunctionEnv_cells D.kind (λx hx=>(hbk x hx).imp_right λq=>⟨q,eE _ _ _ (.inr ⟨_,mem_of_lookup q,rfl⟩)⟩) λenv he s1 I=>?_
 subst he
 refine xAAA (Fm.call D S hu' hlen' hn I) λS1 N1 F1 hfr=>?_
 refine⟨(C.lim.keeps S.keep).keeps I.toInCall.keep,codeAny_func (wmN (hf s.heap.objs.size (hr.deeper _) S1 F1 e) λfw s2 p=>?_)⟩
 obtain⟨S2,N2,F2,r2,q⟩:=p
 cases r2 with
 |ret r2=>exact⟨S2,N1.leave N2 hfr,r2,q⟩
 |next=>exact⟨S2,N1.leave N2 hfr,.none,q⟩
 |brk=>exact q.elim
 |cont=>exact q.elim
def CC(C:Cx)(r:Nat)(f:Value)(g:CF):Prop:=∀ {A:Around}{s:Shared}{ρ:List Lc}{H:MH}{us:List Value}{vs:List V}{Q:EK},Room r A->Sim C H ρ s->VRs ρ s.heap us vs->g vs H Q->codeAny C.M A (.call f ⟨us,[]⟩) (sM C ρ s Q) s
theorem CC.cv{a:Addr}{g:CF}{o:Obj}{fd:FuncData}(ho:C.base.heap.get? a=some o)(hd:o.data= .func fd)(h:CC C r (.ref a) g):CV C r (.ref a) g:=by
 refine⟨λhp hk=>⟨.frame,.inl rfl,(Looks.ld (part:=none) (hk _ _ ho)).andThen (by rw[hd];exact .now)⟩,λhr S hu e=>wpAny_call (codeAny_mono (h hr S hu e) λrr s' h=>?_)⟩
 rcases rr with x | (x |_ |_ |_)<;>first |exact h |exact h.elim
theorem CV.def_{a:Addr}{fd:FuncData}{body:List Stmt}(D:Def C a fd body){names:List Str}{dflt:List Value}{more:List V}{f:SF}(hgen:fd.scope.isGenerator=false)
  (hb:Binds C fd names dflt) (hd:∀ ρ h,VRs ρ h dflt more)
  (hn:∀ x∈names,fd.scope.names.lookup x=some .local∨fd.scope.names.lookup x=some .cell)
  (hf:∀ L,SVs C r (callEnvC fd L a) body f):CV C (r+1) (.ref a) (lR names more f):=
 let ⟨_,ho,hdata⟩:=D.obj
 CC.cv ho hdata λhr S hu e=>kZ D hgen hb hd hn hf hr S hu e
end
section
variable {C:Cx}{r:Nat}{env:Env}
def fY(cells:List (Str×Addr)):List (Str×NameKind)->List (Str×Addr)->List (Str×Addr)
 | [],acc=>acc
 | (n,k) :: r,acc=>if k== .free then fY cells r ((n,(cells.lookup n).getD 0) :: acc) else fY cells r acc
theorem jR{M:Model}{A:Around}{E:Value->Shared->Prop}{s:Shared}(f:Str×NameKind->List (Str×Addr)->Sem (ForInStep (List (Str×Addr))))
  (hf:∀ name kind cs,f (name,kind) cs=if kind== .free then(do let a<-cellOf env name;pure (.yield ((name,a) :: cs))) else pure (.yield cs)):
  ∀ (names:List (Str×NameKind)) (acc:List (Str×Addr)) (Q:List (Str×Addr)->Shared->Prop),(∀ p∈names,p.2= .free->∃ c,env.cells.lookup p.1=some c)->
   Q (fY env.cells names acc) s->wpAny M A (forIn names acc f) Q E s
 | [],acc,Q,_,h=>by rw[List.forIn_nil];exact wpAny_pure h
 | (name,kind) :: r,acc,Q,hc,h=>by
  rw [List.forIn_cons,hf]
  unfold fY at h
  split at h
  ·rename_i hk
   rw [if_pos hk]
   refine xE (hc (name,kind) List.mem_cons_self (by simpa using hk)) λc hc1=>?_
   dsimp only at hc1
   rw [hc1]at h
   refine wpAny_bind (wpAny_bind (wpAny_cellOf hc1 (wpAny_pure ?_)))
   exact jR f hf r _ Q (λp hp=>hc p (List.mem_cons_of_mem _ hp)) h
  ·rename_i hk
   rw [if_neg hk]
   exact wpAny_bind (wpAny_pure (jR f hf r _ Q (λp hp=>hc p (List.mem_cons_of_mem _ hp)) h))
theorem jS{cells:List (Str×Addr)}{x:Str}{c:Addr}:∀ (names:List (Str×NameKind)) (acc:List (Str×Addr)),(∀ p∈names,p.2= .free->∃ c,cells.lookup p.1=some c)->(x,c)∈fY cells names acc->(x,c)∈acc∨cells.lookup x=some c
 | [],_,_,h=>.inl h
 | (n,k) :: r,acc,hc,h=>by
  unfold fY at h
  split at h
  ·rename_i hk
   refine Or.elim (jS r _ (λp hp=>hc p (List.mem_cons_of_mem _ hp)) h) (λq=>?_) λq=>?_
   ·refine Or.elim (List.mem_cons.mp q) (λe=>?_) λe=>?_
    ·cases e
     refine xE (hc (x,k) List.mem_cons_self (by simpa using hk)) λc hc1=>?_
     right;simp at hc1;rw[hc1];rfl
    ·exact .inl e
   ·exact .inr q
  ·exact jS r _ (λp hp=>hc p (List.mem_cons_of_mem _ hp)) h
theorem jT{cells:List (Str×Addr)}{x:Str}:∀ (names:List (Str×NameKind)) (acc:List (Str×Addr)),(∀ p∈names,p.2= .free->∃ c,cells.lookup p.1=some c)->(acc.lookup x).isSome=true∨(x,NameKind.free)∈names->((fY cells names acc).lookup x).isSome=true
 | [],_,_,h=>by
  refine Or.elim h (λh=>?_) λh=>?_
  ·exact h
  ·cases h
 | (n,k) :: r,acc,hc,h=>by
  unfold fY
  split
  ·rename_i hk
   refine jT r _ (λp hp=>hc p (List.mem_cons_of_mem _ hp)) ?_
   refine Or.elim h (λh=>?_) λh=>?_
   ·left
    simp only[List.lookup]
    split
    ·rfl
    ·exact h
   ·refine Or.elim (List.mem_cons.mp h) (λe=>?_) λe=>?_
    ·cases e;left;simp [List.lookup]
    ·exact .inr e
  ·rename_i hk
   refine jT r _ (λp hp=>hc p (List.mem_cons_of_mem _ hp)) ?_
   refine Or.elim h (λh=>?_) λh=>?_
   ·exact .inl h
   ·refine Or.elim (List.mem_cons.mp h) (λe=>?_) λe=>?_
    ·cases e;exact absurd rfl hk
    ·exact .inr e
def yQ(env:Env)(n:Str)(k:NameKind):Bool:=k== .free && env.scope.kind== .function && env.kindOf n==some .cell
def i6(env:Env)(sc:Scope)(L:Addr):Env:=
 {(newEnv sc L env.globals (fY env.cells sc.names []) env.qual none .none (some env) builtinsNs) with scope:= {sc with names:=sc.names.map λp=>if yQ env p.1 p.2 then(p.1,.cell) else(p.1,p.2)}}
theorem nM{f:Str->NameKind->NameKind}{x:Str}:∀ l:List (Str×NameKind),(l.map λp=>(p.1,f p.1 p.2)).lookup x=(l.lookup x).map (f x)
 | []=>rfl
 | (n,k) :: r=>by
  simp only[List.map_cons,List.lookup]
  cases h:x==n with
  |true=>obtain rfl:=beq_iff_eq.mp h;rfl
  |false=>exact nM r
theorem lQ(env:Env)(sc:Scope)(L:Addr)(x:Str):(i6 env sc L).kindOf x=(sc.names.lookup x).map λk=>if yQ env x k then .cell else k:=by
 show(sc.names.map λp=>if yQ env p.1 p.2 then(p.1,NameKind.cell) else(p.1,p.2)).lookup x=_
 rw [<-nM (f:=λn k=>if yQ env n k then .cell else k)]
 congr 1
 refine List.map_congr_left λp _=>?_
 split<;>rfl
structure sL(env:Env)(sc:Scope)(hid:List Str):Prop where
 kind:sc.kind= .function
 nocell:(sc.names.all λp=>p.2 != .cell)=true
 free:(sc.names.all λp=>p.2 != .free || (env.kindOf p.1==some .cell))=true
 hid:(sc.names.all λp=>p.2 != .local || (sc.names.lookup p.1==some .local && hid.contains p.1))=true
def hide(hid:List Str)(lo:Lo):Lo:=λx=>if hid.contains x then none else lo x
theorem Fm.comp{sc:Scope}{hid:List Str}(K:sL env sc hid)(hh:∀ x∈hid,sc.names.lookup x≠some .free){H:MH}{ρ:List Lc}{s s1:Shared}{lo:Lo}{L:Addr}(S:Sim C H ρ s)(F:Fm C env ρ s lo)(hL:s.heap.get? L=none)
  (hns:s1.heap.Ns L λ_=>none) (N:Nx ρ noW s ρ s1):Fm C (i6 env sc L) ρ s1 (hide hid lo)/\(∀ b,Wr (i6 env sc L) b->b=L∨Wr env b):=by
 have hfc:∀ p∈sc.names,p.2= .free->∃ c,env.cells.lookup p.1=some c:=λp hp hk=>by
  have h:=List.all_eq_true.mp K.free p hp
  rw [hk]at h
  simp at h
  refine iA (F.cl p.1 (.inl h)) λc _ _ hc _=>?_
  exact⟨c,hc⟩
 have hcells:∀ x c,(i6 env sc L).cells.lookup x=some c->env.cells.lookup x=some c:=λx c h=>by
  refine Or.elim (jS sc.names [] hfc (mem_of_lookup h)) (λq=>?_) λq=>?_
  ·cases q
  ·exact q
 have hW:∀ b,Wr (i6 env sc L) b->b=L∨Wr env b:=by
  rintro b (rfl |⟨x,hx⟩)
  ·exact .inl rfl
  ·exact .inr (.inr ⟨x,hcells x b hx⟩)
 have F1:=F.next N λ_ _ q=>q
 refine⟨⟨K.kind,F.gl,F.bi,⟨_,hns,λx hx=>?_⟩,λx hx=>?_,λb hb=>?_,λx c hc=>?_,λx y c hx hy=>F.inj x y c (hcells x c hx) (hcells y c hy),λb hb=>?_⟩,hW⟩
 ·rw[lQ]at hx
  have hm:hid.contains x=true:=by
   cases hk:sc.names.lookup x with
   |none=>rw [hk]at hx;cases hx
   |some k=>
    rw [hk]at hx
    simp only[Option.map_some,Option.some.injEq]at hx
    split at hx
    ·cases hx
    ·subst hx
     have h:=List.all_eq_true.mp K.hid _ (mem_of_lookup hk)
     simp at h
     simpa using h.2
  unfold hide
  rw [if_pos hm]
  trivial
 ·rw[lQ]at hx
  have hfr:sc.names.lookup x=some .free:=by
   cases hk:sc.names.lookup x with
   |none=>rw [hk]at hx;refine Or.elim hx (λhx=>?_) λhx=>?_<;>cases hx
   |some k=>
    have h2:=List.all_eq_true.mp K.nocell _ (mem_of_lookup hk)
    rw [hk]at hx
    simp only[Option.map_some,Option.some.injEq]at hx
    by_cases ho:yQ env x k=true
    ·have:k= .free:=by unfold yQ at ho;simp at ho;exact ho.1.1
     rw [this]
    ·rw[if_neg ho]at hx
     refine Or.elim hx (λhx=>?_) λhx=>?_
     ·subst hx;simp at h2
     ·rw[hx]
  have hkx:env.kindOf x=some .cell:=by
   have h:=List.all_eq_true.mp K.free _ (mem_of_lookup hfr)
   simpa using h
  refine cW (F1.cl x (.inl hkx)) λc o u h1 h2 h3 h4=>?_
  have hs:=jT sc.names [] hfc (.inr (mem_of_lookup hfr))
  refine xE (Option.isSome_iff_exists.mp hs) λc' hc'=>?_
  have:=hcells x c' hc'
  rw [h1]at this
  cases this
  refine⟨c,o,u,hc',h2,h3,?_⟩
  have hn: ¬(hid.contains x=true):=λq=>hh x (by simpa using q) hfr
  unfold hide
  rw [if_neg hn]
  exact h4
 ·rcases hW b hb with rfl |q
  ·exact⟨dZ S hL,dL S hL⟩
  ·exact F1.own b q
 ·intro q
  have q':c=L:=q
  rw [q']at hc
  refine xE (F.alv L (.inr ⟨x,hcells x L hc⟩)) λo ho=>?_
  rw [hL]at ho;cases ho
 ·rcases hW b hb with rfl |q
  ·refine iA hns λo _ _ g _=>?_;exact⟨o,g⟩
  ·exact F1.alv b q
def LW(env:Env):Addr->Prop:=λb=>b=env.locals
noncomputable abbrev ALV(C:Cx)(r:Nat)(env:Env)(t:Expr)(f:AF):Prop:=AVW C LW r env t f
theorem ALV.name{x:Str}{pos}(hk:env.kindOf x=some .local):ALV C r env (.Name x pos) (aN x):=λ_ _ _ _ _ _ _ _ _ S F rv e=>wpAny_assign_Name (iI (W:=LW env) S F rv (.inl ⟨hk,rfl⟩) λ_ S N F=>⟨S,N,F,e⟩)
end
section
variable {C:Cx}{r:Nat}{env:Env}
def mF(K:ItK C):Prop:=∀ {A:Around}{s:Shared}{ρ:List Lc}{H:MH}{it:K.σ}{x:Value}{X:Addr->Prop}{Q:Value->Shared->Prop},Sim C H ρ s->(∃ y,K.nx it H y)->K.rel ρ s it x X->Q x s->wpAny C.M A (pyIter x) Q NoE s
theorem mF.list:mF (b9 C):=by
 rintro A s ρ H it x X Q _ _ ⟨a,rfl,rfl,l,h1,h2⟩ h
 exact wpAny_pyIter_listiter h2 h
theorem mF.range:mF (fV C):=by
 rintro A s ρ H it x X Q _ _ ⟨a,rfl,rfl,h1⟩ h
 exact wpAny_pyIter_rangeiter h1 h
def CnV(C:Cx)(r:Nat)(env:Env)(cs:List Expr)(f:TF):Prop:=
 ∀ ⦃A:Around⦄⦃s:Shared⦄⦃ρ:List Lc⦄⦃H:MH⦄⦃lo:Lo⦄⦃Q:Bool->MH->Prop⦄,Room r A->Sim C H ρ s->Fm C env ρ s lo->f lo H Q->
  wpAny C.M A (forIn cs true λc ok=>if ok=true then(do let ok<-PySem.isTrue c env (eval c env);pure (ForInStep.yield ok)) else pure (ForInStep.yield ok)) (l4 C ρ s Q) NoE s
theorem CnV.nil:CnV C r env [] (tK true):=by
 intro A s ρ H lo Q hr S F e
 rw [List.forIn_nil]
 exact wpAny_pure ⟨S,.refl,e⟩
theorem uK{M:Model}{A:Around}{E:Value->Shared->Prop}{s:Shared}{Q:Bool->Shared->Prop}:∀ cs:List Expr,Q false s->wpAny M A (forIn cs false λc ok=>if ok=true then(do let ok<-PySem.isTrue c env (eval c env);pure (ForInStep.yield ok)) else pure (ForInStep.yield ok)) Q E s
 | [],h=>by rw[List.forIn_nil];exact wpAny_pure h
 |c :: cs,h=>by
  rw [List.forIn_cons,if_neg (by decide)]
  exact wpAny_bind (wpAny_pure (uK cs h))
theorem CnV.cons{c:Expr}{cs:List Expr}{f g:TF}(h:TV C r env c f)(hs:CnV C r env cs g):CnV C r env (c :: cs) (aU f g):=by
 intro A s ρ H lo Q hr S F q
 rw [List.forIn_cons,if_pos rfl]
 exact wpAny_bind (wpAny_bind (h.run hr S F q λ{b _ _ _} S1 N1 q=>wpAny_pure (match b,q with
  |true,q=>wmN (hs hr S1 (F.nx N1) q) λ_ _ p=>p.from N1
  |false,q=>uK _ ⟨S1,N1,q⟩)))
noncomputable abbrev LK:=Lo->MH->Prop
noncomputable abbrev BF:=Nat->Lo->MH->LK->Prop
def aDv(elt:Expr)(gens:List Comprehension)(sc:Scope)(pos:Pos)(d:Nat)(acc:Value)(env:Env)(K:Sem PySem.Fin):Sem PySem.Fin:=
 match gens[d+1]? with
 |some g'=>do
  let x<-eval g'.iter env
  standAt g'.iter.pos
  if (g'.is_async != 0)=true then do
    let x<-foldedIterable g'.iter x
    let it<-holding [x] (if (g'.is_async != 0)=true then asyncIter x else pyIter x)
    let _<-runOwn (Code.compStart (elt.ListComp gens sc pos) (d+1) it acc env) env
    K
   else do
    let x<-foldedSetIterable g'.iter env x
    let it<-holding [x] (if (g'.is_async != 0)=true then asyncIter x else pyIter x)
    let _<-runOwn (Code.compStart (elt.ListComp gens sc pos) (d+1) it acc env) env
    K
 |none=>(do
   let v<-eval elt env
   let _<-call (Value.builtin "list.append") [acc,v]
   pure ():Sem PUnit) >>=λ_=>K
def BV(C:Cx)(r:Nat)(env:Env)(elt:Expr)(gens:List Comprehension)(sc:Scope)(pos:Pos)(d:Nat)(bf:BF):Prop:=
 ∀ ⦃A:Around⦄⦃s:Shared⦄⦃ρ:List Lc⦄⦃H:MH⦄⦃lo:Lo⦄⦃Q0:LK⦄⦃ai:Nat⦄⦃l:Lc⦄⦃Q:PySem.Fin->Shared->Prop⦄⦃K:Sem PySem.Fin⦄,Room r A->Sim C H ρ s->Fm C env ρ s lo->ρ[ai]? =some l->bf ai lo H Q0->
  (∀ {s' ρ' lo' H'},Sim C H' ρ' s'->Nx ρ (LW env) s ρ' s'->Fm C env ρ' s' lo'->Q0 lo' H'->wpAny C.M A K Q NoE s')->wpAny C.M A (aDv elt gens sc pos d (.ref l.a) env K) Q NoE s
def eR(f:EF):BF:=λai lo H Q=>f lo H λv H1=>Lf (H1[ai]?.bind MO.own) λvs=>vs.length<1000000/\Q lo (H1.set ai (.list (vs++[v])))
theorem BV.last{elt:Expr}{gens:List Comprehension}{sc:Scope}{pos:Pos}{d:Nat}{f:EF}(h:EV C r env elt f)(hg:gens[d+1]? =none):BV C r env elt gens sc pos d (eR f):=by
 intro A s ρ H lo Q0 ai l Q K hr S F hl q hK
 unfold aDv
 rw [hg]
 refine wpAny_bind (wpAny_bind (h.run hr S F q λ{x s1 ρ1 v1 H1} S1 N1 r1 q=>q.elim λvs hv q=>?_))
 refine xEE (g8 S1 (aL N1.pre hl) (jL hv)) λxs n O=>?_
 have hsz:=O.r.sz
 have hlen:=q.1
 have hz:xs.size<=sizeLine:=by rw[sizeLine_eq];exact A33 hsz hlen
 refine wpAny_bind (wpAny_call_entry slot_list_append ⟨_,O.x,rfl⟩ entry_list_append ?_ (args_list_append _ _))
 show wpAny _ _ (updateSeq l.a (·.push x) >>=λ_=>ret .none) _ _ s1
 refine wpAny_bind (wpAny_updateSeq O.x rfl (wpAny_pure ⟨.none,rfl,wpAny_pure ?_⟩) hz (by rw[Array.size_push];exact Nat.succ_le_succ hz))
 have st:=O.put (k:=s1.toks) S1 (λxs=>xs.push x) (by simpa using O.r.append (.cons r1 .nil))
 have N2:Nx ρ noW s ρ1 _:=N1.trans (st.2 _)
 exact hK st.1 N2.wr (F.nx N2) q.2
def q7(K:ItK C)(tgt:AF)(t:TF)(bf:Lo->MH->LK->Prop):Nat->K.σ->Lo->MH->LK->Prop
 |0,_,_,_,_=>False
 |n+1,it,lo,H,Q=>K.nx it H λres H1=>match res with
  |none=>Q lo H1
  |some p=>tgt p.1 lo H1 λlo1 H2=>t lo1 H2 λb H3=>bif b then bf lo1 H3 (λlo2 H4=>q7 K tgt t bf n p.2 lo2 H4 Q) else q7 K tgt t bf n p.2 lo1 H3 Q
inductive CEnd(C:Cx)(env:Env)(ρ0:List Lc)(s0:Shared)(ai:Nat)(l:Lc)(Q:LK)(s':Shared):Prop
 |mk {ρ':List Lc}{lo':Lo}{H':MH} (S:Sim C H' ρ' s') (N:Nx ρ0 (LW env) s0 ρ' s') (F:Fm C env ρ' s' lo') (hl:ρ'[ai]? =some l) (q:Q lo' H'):CEnd C env ρ0 s0 ai l Q s'
def oI(C:Cx)(env:Env)(ρ0:List Lc)(s0:Shared)(ai:Nat)(l:Lc)(Q:LK):Result->Shared->Prop
 | .ok _,s'=>CEnd C env ρ0 s0 ai l Q s'
 | .error _,_=>False
theorem qL{K:ItK C}{elt target iter:Expr}{ifs:List Expr}{gens:List Comprehension}{sc:Scope}{pos:Pos}{d:Nat}{tgt:AF}{t:TF}{bf:BF}(hg:gens[d]? =some ⟨target,iter,ifs,0⟩)
  (ht:ALV C r env target tgt) (hc:CnV C r env ifs t) (hb:BV C r env elt gens sc pos d bf) (htg:K.tg target/\K.need<=r){ai:Nat}{l:Lc}:
  ∀ (n:Nat){A:Around}{s0 s:Shared}{ρ0 ρ:List Lc}{H:MH}{lo:Lo}{it:K.σ}{x:Value}{X:Addr->Prop}{Q:LK},Room r A->ρ[ai]? =some l->Nx ρ0 (LW env) s0 ρ s->Sim C H ρ s->Fm C env ρ s lo->
   K.rel ρ s it x X->Apart C env ρ s0 X->q7 K tgt t (bf ai) n it lo H Q->
   codeAny C.M A (.compLoop (.ListComp elt gens sc pos) d x (.ref l.a) env) (oI C env ρ0 s0 ai l Q) s
 |0,_,_,_,_,_,_,_,_,_,_,_,_,_,_,_,_,_,_,e=>e.elim
 |n+1,A,s0,s,ρ0,ρ,H,lo,it,x,X,Q,hr,hl,N,S,F,R,hX,e=>by
  refine codeAny_of_tree ?_
  rw [Around.under_of_weight (c:=.compLoop (.ListComp elt gens sc pos) d x (.ref l.a) env) rfl rfl]
  show wpAny C.M A ((compTurn (.ListComp elt gens sc pos) d x (.ref l.a) env).onRaise (λx=>do noteFrame x env;theTreesLotGoes x)) _ _ s
  refine wpAny_onRaise (wpAny_mono (Q:=λfin s'=>match fin with
   | .done f=>oI C env ρ0 s0 ai l Q (.ok f) s'
   | .again c'=>c'.quiet=true/\codeAny C.M A c' (oI C env ρ0 s0 ai l Q) s') (E:=NoE) ?_ (λ_ _ z=>z) (λ_ _ z=>z.elim))
  unfold compTurn
  simp only[hg]
  refine wpAny_bind (wpAny_standAt (wpAny_bind (wmN (K.next htg.2 hr S R hX.two e) λo s1 p=>?_)))
  cases p with
  |done S1 I1 q=>exact wpAny_pure ⟨S1,N.stepI I1 (λb q=>(hX b q).1),F.nextI I1 (λb hw q=>(hX b q).2.2.2 hw),aL I1.pre hl,q⟩
  |item S1 I1 ru R1 q=>
   have hl1:=aL I1.pre hl
   have hX1:Apart C env _ s0 X:=λb q=>let ⟨o',e'⟩:=K.alive R b q;⟨(hX b q).1,I1.owns e' (hX b q).2.1,(hX b q).2.2⟩
   refine wpAny_bind (wmN (K.lgo (target:=target) hr S1 R1 htg.1 hX1.two) λ_ s2 p=>?_)
   refine xAA p λS2 I2 R2=>?_
   have N2:=(N.stepI I1 (λb q=>(hX b q).1)).stepI I2 (λb q=>(hX b q).1)
   have fin:∀ {ρ5 s5 lo5 H5},Sim C H5 ρ5 s5->Nx _ (LW env) s2 ρ5 s5->Fm C env ρ5 s5 lo5->q7 K tgt t (bf ai) n _ lo5 H5 Q->
     codeAny C.M A (.compLoop (.ListComp elt gens sc pos) d x (.ref l.a) env) (oI C env ρ0 s0 ai l Q) s5:=λS5 N5 F5 e5=>
    qL hg ht hc hb htg n hr (aL N5.pre hl1) (N2.trans N5) S5 F5 (K.mono R2 N5.pre N5.imm (λb o q e'=>N5.kp b o e' (hX1 b q).2.1 (λz=>(hX b q).2.2.2 (.inl z))))
     (λb z=>let ⟨o',e'⟩:=K.alive R2 b z;⟨(hX b z).1,N5.own e' (hX1 b z).2.1,(hX b z).2.2⟩) e5
   refine wpAny_bind (dS.run (α:=Unit) (ht hr S2 ((F.nextI I1 (λb hw q=>(hX b q).2.2.2 hw)).nextI I2 (λb hw q=>(hX1 b q).2.2.2 hw)) (ru.mono I2.pre I2.imm) q) λS3 N3 F3 q=>wpAny_bind (wmN (hc hr S3 F3 q) λok s4 p=>?_))
   obtain⟨S4,N4,q⟩:=p
   have N34:=N3.trans N4.wr
   cases ok with
   |false=>
    rw [if_neg (by decide)]
    exact wpAny_pure ⟨rfl,fin S4 N34 (F3.nx N4) q⟩
   |true=>
    rw [if_pos rfl]
    show wpAny C.M A (aDv elt gens sc pos d (.ref l.a) env (again (Code.compLoop (elt.ListComp gens sc pos) d x (Value.ref l.a) env))) _ _ s4
    exact hb hr S4 (F3.nx N4) (aL N34.pre hl1) q λS5 N5 F5 q=>wpAny_pure ⟨rfl,fin S5 (N34.trans N5) F5 q⟩
theorem sC{K:ItK C}{elt target iter:Expr}{ifs:List Expr}{gens:List Comprehension}{sc:Scope}{pos:Pos}{d:Nat}{tgt:AF}{t:TF}{bf:BF}(hg:gens[d]? =some ⟨target,iter,ifs,0⟩)(hre:mF K)
  (ht:ALV C r env target tgt) (hc:CnV C r env ifs t) (hb:BV C r env elt gens sc pos d bf) (htg:K.tg target/\K.need<=r){ai:Nat}{l:Lc}
  (n:Nat){A:Around}{s0 s:Shared}{ρ0 ρ:List Lc}{H:MH}{lo:Lo}{it:K.σ}{x:Value}{X:Addr->Prop}{Q:LK} (hr:Room r A) (hl:ρ[ai]? =some l) (N:Nx ρ0 (LW env) s0 ρ s) (S:Sim C H ρ s) (F:Fm C env ρ s lo)
  (R:K.rel ρ s it x X) (hX:Apart C env ρ s0 X) (e:q7 K tgt t (bf ai) n it lo H Q):
  codeAny C.M A (.compStart (.ListComp elt gens sc pos) d x (.ref l.a) env) (oI C env ρ0 s0 ai l Q) s:=by
 have L:=qL hg ht hc hb htg n hr hl N S F R hX e
 have hnx:∃ y,K.nx it H y:=by
  cases n with
  |zero=>exact e.elim
  |succ n=>exact⟨_,e⟩
 refine codeAny_of_tree ?_
 rw [Around.under_of_weight (c:=.compStart (.ListComp elt gens sc pos) d x (.ref l.a) env) rfl rfl]
 show wpAny _ _ ((compStart (.ListComp elt gens sc pos) d x (.ref l.a) env).onRaise (λx=>do noteFrame x env;standAt theWindowsPlace)) _ _ s
 refine wpAny_onRaise (wpAny_mono (Q:=λfin s'=>match fin with
   | .done f=>oI C env ρ0 s0 ai l Q (.ok f) s'
   | .again c'=>c'.quiet=true/\codeAny C.M A c' (oI C env ρ0 s0 ai l Q) s') (E:=NoE) ?_ (λ_ _ z=>z) (λ_ _ z=>z.elim))
 unfold compStart
 have hcl:clausesOf (.ListComp elt gens sc pos)=gens:=rfl
 rw [hcl,hg]
 show wpAny _ _ (ask >>=_) _ _ s
 refine wpAny_bind (wpAny_askSetting (wpAny_ite ?_))
 split
 ·first
   |exact wpAny_bind (wpAny_pure (wpAny_pure (And.intro rfl L)))
   |exact wpAny_pure (And.intro rfl L)
 ·refine wpAny_bind (wpAny_rule ?_)
  show wpAny _ _ (standAt iter.pos >>=_) _ _ s
  exact wpAny_bind (wpAny_standAt (wpAny_bind (hre S hnx R (wpAny_pure (And.intro rfl L)))))
end
section
variable {C:Cx}{r:Nat}{env:Env}
theorem aDp{M:Model}{A:Around}{E:Value->Shared->Prop}{s:Shared}{e:Expr}{sc:Scope}{pos:Pos}{newAcc first:Sem Value}{g:Comprehension}{gs:List Comprehension}{use:Option (Value->Sem Unit)}{hid:List Str}{Q:Value->Shared->Prop}
  (hcl:clausesOf e=g :: gs) (hs:∀ x,foldedSetIterable g.iter env x=pure x) (K:sL env sc hid) (hcell:∀ p∈sc.names,p.2= .free->∃ c,env.cells.lookup p.1=some c)
  (h:wpAny M A first (λx s₁=>wpAny M A (pyIter x) (λit s₂=>wpAny M A newAcc (λacc s₃=>
   ∀ h₄,h₄.Ns s₃.heap.objs.size (λ_=>none)->Heap.SameBut s₃.heap.objs.size (s₃.heap.push {cls:=.type "dict",data:=.dict #[]}) h₄->
    codeAny M A (.compStart e 0 it acc (i6 env sc s₃.heap.objs.size)) (λr s'=>match r with
     | .ok _=>(∃ m,s'.heap.Ns s₃.heap.objs.size m)/\(match use with
      |none=>∀ h',Heap.SameBut s₃.heap.objs.size s'.heap h'->Q acc {s' with heap:=h'}
      |some u=>wpAny M A (u acc) (λ_ s''=>(∃ m,s''.heap.Ns s₃.heap.objs.size m)/\∀ h',Heap.SameBut s₃.heap.objs.size s''.heap h'->Q .none {s'' with heap:=h'}) E s')
     | .error _=>False) {s₃ with heap:=h₄}) E s₂) E s₁) E s):
  wpAny M A (comprehension e sc env pos newAcc false first use) Q E s:=by
 unfold comprehension
 rw [hcl]
 refine wpAny_bind (wpAny_mono h (λx s₁ h₁=>wpAny_bind (wpAny_standAt (wpAny_bind (wpAny_of_eq (hs x) (wpAny_bind (wpAny_holding (wpAny_mono h₁ (λit s₂ h₂=>
  wpAny_standIf (wpAny_bind (wpAny_mono h₂ (λacc s₃ h₃=>?_) λ_ _ h'=>h'))) λ_ _ h'=>h'))))))) λ_ _ h'=>h')
 have hclo:∀ {Q':List (Str×Addr)->Shared->Prop},Q' (fY env.cells sc.names []) s₃->wpAny M A (closureFor sc env) Q' E s₃:=by
  intro Q' hq
  unfold closureFor
  refine wpAny_bind (jR (env:=env) _ (λname kind cs=>by cases hkc:kind==NameKind.free<;>simp [hkc]) sc.names [] _ hcell (wpAny_pure hq))
 refine wpAny_bind (hclo ?_)
 have hnc:∀ x∈sc.names,x.2≠ .cell:=λx hx=>by have:=List.all_eq_true.mp K.nocell x hx;simpa using this
 refine wpAny_bind (wpAny_newFunctionEnv (binds:=[]) hnc (λx hx=>by cases hx) (λh₄ hn₄ hs₄=>?_) K.kind)
 have hc4:=h₃ h₄ hn₄ hs₄
 dsimp only
 have hv:∀ (vs:List (Str×NameKind)),(∀ p∈vs,p∈sc.names)->∀ p∈vs,p.2= .local->(i6 env sc s₃.heap.objs.size).kindOf p.1=some .local:=λvs hvs p hp hl=>by
  have h1:=List.all_eq_true.mp K.hid p (hvs p hp)
  rw [hl]at h1
  simp at h1
  rw [lQ,h1.1]
  rfl
 have hk':(i6 env sc s₃.heap.objs.size).scope.kind= .function:=K.kind
 refine wpAny_holding (wpAny_bind (wpAny_attempt (wpAny_holding (wpAny_run (codeAny_mono hc4 λr s' hr=>?_)))))
 cases r with
 |error x=>exact hr.elim
 |ok f=>
  refine xA hr λz92 hq=>?_;obtain⟨m,hm⟩:=z92
  cases use with
  |none=>
   refine wpAny_bind (wpAny_holding (wpAny_comp_letGo (cenv:=i6 env sc s₃.heap.objs.size) hk' _ s' m (hv _ λp hp=>?_) hm λh' m' _ hs'=>wpAny_pure (hq h' hs')))
   exact(List.mem_filter.mp (List.mem_reverse.mp hp)).1
  |some u=>
   refine wpAny_bind (wpAny_rule (wpAny_bind (wpAny_holding (wpAny_mono hq ?_ λ_ _ z=>z))))
   rintro _ s'' ⟨⟨m',hm'⟩,hq'⟩
   refine wpAny_bind (wpAny_comp_letGo (cenv:=i6 env sc s₃.heap.objs.size) hk' _ s'' m' (hv _ λp hp=>?_) hm' λh' m' _ hs'=>wpAny_pure (hq' h' hs'))
   refine Or.elim (List.mem_append.mp hp) (λz=>?_) λz=>?_
   ·exact(List.mem_filter.mp (List.mem_reverse.mp (List.mem_of_mem_drop z))).1
   ·exact(List.mem_filter.mp (List.mem_reverse.mp (List.mem_of_mem_take z))).1
def eP(K:ItK C)(hid:List Str)(fi:IF K)(tgt:AF)(t:TF)(bf:BF):EF:=λlo H Q=>fi lo H λit H1=>∃ n,q7 K tgt t (bf H1.length) n it (hide hid lo) (H1++[.list []]) λ_ H2=>Q (.ref H1.length) H2
inductive CoEnd(C:Cx)(ρ:List Lc)(s:Shared)(Q0:EK)(x:Value)(L:Addr)(s':Shared):Prop
 |mk {ρ' v H'} (hL:s.heap.get? L=none) (S:Sim C H' ρ' s') (N:Nx ρ (λb=>b=L) s ρ' s') (r:VR ρ' s'.heap x v) (ho: ¬Own ρ' L) (hb:C.base.heap.get? L=none) (hm:∃ m,s'.heap.Ns L m) (q:Q0 v H'):CoEnd C ρ s Q0 x L s'
theorem y9{K:ItK C}{elt target iter:Expr}{ifs:List Expr}{gs:List Comprehension}{sc:Scope}{pos p:Pos}{hid:List Str}{fi:IF K}{tgt:AF}{t:TF}{bf:BF}{use:Option (Value->Sem Unit)}
  (hsc:sL env sc hid) (hh:(hid.all λx=>sc.names.lookup x != some .free)=true) (hre:mF K) (hi:IV K r env iter fi)
  (ht:∀ L,ALV C r (i6 env sc L) target tgt) (hc:∀ L,CnV C r (i6 env sc L) ifs t) (hb:∀ L,BV C r (i6 env sc L) elt (⟨target,iter,ifs,0⟩ :: gs) sc pos 0 bf) (htg:K.tg target/\K.need<=r) (hs:∀ x,foldedSetIterable iter env x=pure x)
  {A:Around}{s:Shared}{ρ:List Lc}{H:MH}{lo:Lo}{Q0:EK}{Q:Value->Shared->Prop} (hr:Room r A) (S:Sim C H ρ s) (F:Fm C env ρ s lo) (q:eP K hid fi tgt t bf lo H Q0)
  (hQ:∀ x L s',CoEnd C ρ s Q0 x L s'->
   (match use with
    |none=>∀ h',Heap.SameBut L s'.heap h'->Q x {s' with heap:=h'}
    |some u=>wpAny C.M A (u x) (λ_ s''=>(∃ m,s''.heap.Ns L m)/\∀ h',Heap.SameBut L s''.heap h'->Q .none {s'' with heap:=h'}) NoE s')):
  wpAny C.M A (comprehension (.ListComp elt (⟨target,iter,ifs,0⟩ :: gs) sc pos) sc env p (newList []) false (eval iter env) use) Q NoE s:=by
 have hfc:∀ p∈sc.names,p.2= .free->∃ c,env.cells.lookup p.1=some c:=λp hp hk=>by
  have h:=List.all_eq_true.mp hsc.free p hp
  rw [hk]at h
  refine iA (F.cl p.1 (.inl (eq_of_beq h))) λc _ _ hc _=>?_
  exact⟨c,hc⟩
 refine aDp (g:=⟨target,iter,ifs,0⟩) rfl hs hsc hfc (wmN (hi hr S F q) λx s1 hx=>wmN hx λy s2 p=>?_)
 obtain⟨S2,N2,R2,hX,n,q⟩:=p
 rename_i ρ2 X it H1
 refine wpAny_newList ?_ (by rw[sizeLine_eq];decide)
 have S3:=S2.alloc {cls:=.type "list",data:=.seq #[]} (.list []) ⟨rfl,rfl,#[],0,Heap.get?_push_size _ rfl,.nil⟩
 have N3:Nx ρ2 noW s2 _ _:=.alloc {cls:=.type "list",data:=.seq #[]}
 have hl:=S2.last (l:=⟨s2.heap.objs.size,s2.heap.objs.size,none⟩)
 intro h4 hn4 hs4
 have N23:=N2.trans N3
 have keep4:∀ b o,(s2.heap.push {cls:=.type "list",data:=.seq #[]}).get? b=some o->h4.get? b=some o:=λb o e=>by
  rw [hs4.2 b (Nat.ne_of_lt (Heap.lt_size e))]
  exact Heap.get?_push_of_some _ e
 have N34:=N3.trans (.ext (k:=s2.toks) keep4)
 have hLf:(s2.heap.push {cls:=.type "list",data:=.seq #[]}).get? (s2.heap.push {cls:=.type "list",data:=.seq #[]}).objs.size=none:=bG _
 refine xA (Fm.comp hsc (λx hx=>by have:=List.all_eq_true.mp hh x hx;simpa using this) S3 ((F.nx N2).nx N3) hLf hn4 (.ext (k:=s2.toks) keep4)) λF4 hW=>?_
 have hLs:=(c0 N23 S3 hLf).1
 refine codeAny_mono (sC (s0:=s) (ρ0:=ρ) (env:=i6 env sc (s2.heap.push {cls:=.type "list",data:=.seq #[]}).objs.size) rfl hre (ht _) (hc _) (hb _) htg n hr hl (N2.trans N34).wr (S3.ext (k:=s2.toks) keep4) F4
  (K.mono R2 N3.pre N34.imm (λb o qb e'=>N34.kp b o e' (hX b qb).2.1 (λz=>z))) (λb qb=>?_) q) λrr s5 hL=>?_
 ·refine xE (K.alive R2 b qb) λo' e'=>?_
  refine⟨(hX b qb).1,N34.own e' (hX b qb).2.1,(hX b qb).2.2,λhw=>?_⟩
  refine Or.elim (hW b hw) (λz=>?_) λz=>?_
  ·refine xE (N3.al _ _ e') λo2 e2=>?_
   rw [z,hLf]at e2;cases e2
  ·refine xE (F.alv b z) λo e''=>?_;rw[(hX b qb).1]at e'';cases e''
 ·cases rr with
  |error _=>exact hL.elim
  |ok f=>
   obtain⟨S5,N5,F5,hl5,q5⟩:=hL
   refine xEA F5.ns λm5 hm5 _=>?_
   have fw:=F5.own _ (.inl rfl)
   exact⟨⟨m5,hm5⟩,hQ _ _ s5 ⟨hLs,S5,N5,.ref hl5,fw.1,fw.2,⟨m5,hm5⟩,q5⟩⟩
theorem Sim.sameL{H:MH}{ρ:List Lc}{s:Shared}{h':Heap}{L:Addr}(S:Sim C H ρ s)(hs:Heap.SameBut L s.heap h')(hm:∃ m,s.heap.Ns L m)(ho: ¬Own ρ L)(hb:C.base.heap.get? L=none):
  Sim C H ρ {s with heap:=h'}/\Imm s.heap h':=by
 refine mG hm λm o es ep g hd _=>?_
 have hi: ¬aS o:=by simp [aS,hd]
 exact⟨S.side (k:=s.toks) hs g hi ho hb,c9 hs g hi⟩
theorem Nx.gone{ρ ρ1:List Lc}{W:Addr->Prop}{s s1:Shared}{h':Heap}{L:Addr}(N1:Nx ρ (λb=>b=L∨W b) s ρ1 s1)(hL:s.heap.get? L=none)(hs':Heap.SameBut L s1.heap h')(im:Imm s1.heap h'):Nx ρ W s ρ1 {s1 with heap:=h'}:=by
 have ne:∀ {b o},s.heap.get? b=some o->b≠L:=λe q=>by rw[q,hL]at e;cases e
 exact⟨N1.pre,N1.new,λb o e hb' hw=>(hs'.2 b (ne e)).trans (N1.kp b o e hb' λq=>q.elim (ne e) hw),N1.imm.trans im,λb o e=>let ⟨o',e'⟩:=N1.al b o e;⟨o',(hs'.2 b (ne e)).trans e'⟩⟩
theorem EV.comp{K:ItK C}{elt target iter:Expr}{ifs:List Expr}{gs:List Comprehension}{sc:Scope}{pos:Pos}{hid:List Str}{fi:IF K}{tgt:AF}{t:TF}{bf:BF}
  (hsc:sL env sc hid) (hh:(hid.all λx=>sc.names.lookup x != some .free)=true) (hre:mF K) (hi:IV K r env iter fi)
  (ht:∀ L,ALV C r (i6 env sc L) target tgt) (hc:∀ L,CnV C r (i6 env sc L) ifs t) (hb:∀ L,BV C r (i6 env sc L) elt (⟨target,iter,ifs,0⟩ :: gs) sc pos 0 bf) (htg:K.tg target/\K.need<=r) (hs:∀ x,foldedSetIterable iter env x=pure x):
  EV C r env (.ListComp elt (⟨target,iter,ifs,0⟩ :: gs) sc pos) (eP K hid fi tgt t bf):=by
 intro A s ρ H lo Q hr S F q
 rw [eval_ListComp]
 refine y9 hsc hh hre hi ht hc hb htg hs hr S F q λx L s1 p h' hs'=>?_
 obtain⟨hL,S1,N1,r1,ho,hb,hm,q⟩:=p
 refine xA (S1.sameL hs' hm ho hb) λS2 im=>?_
 exact⟨S2,(N1.weaken λb q=>.inl q).gone hL hs' im,r1.mono (List.prefix_refl _) im,q⟩
end
section
variable {C:Cx}{r:Nat}{env:Env}
def Sg(M:Model)(A:Around)(c:Code)(t:Sem PySem.Fin)(fs:List Frame)(Φ:End->Shared->Prop)(s:Shared):Prop:=
 ∀ Γ p,Γ.code=c->Γ.Woken A->∃ e s',Runs M Γ p t fs s e s'/\Φ e s'
section
variable {M:Model}{A:Around}{c:Code}{fs:List Frame}{Φ:End->Shared->Prop}{s:Shared}
theorem g6{α:Type}{m:Sem α}{K:α->Sem PySem.Fin}{H:Value->Sem PySem.Fin}{gd lv}(h:wpAny M (A.over c fs) m (λa s'=>Sg M A c (K a) fs Φ s') (λx s'=>Sg M A c (H x) fs Φ s') s):Sg M A c (m.wrap K H gd lv) fs Φ s:=by
 rintro Γ p rfl hΓ
 exact runs_wrap_of_wp K H gd lv m (h (Γ.over fs) p (hΓ.over fs)) (λa p' s' h'=>h' Γ p' rfl hΓ) (λx p' s' h'=>h' Γ p' rfl hΓ)
theorem aAy{p':Pos}{k:Unit->Sem PySem.Fin}(h:Sg M A c (k ()) fs Φ s):Sg M A c (.at p' k) fs Φ s:=
 g6 (m:=standAt p') (K:=k) (H:=.raise) (gd:=id) (lv:=id) (wpAny_standAt h)
theorem aAw{l:List Value}{k:Unit->Sem PySem.Fin}(h:Sg M A c (k ()) fs Φ s):Sg M A c (.point l k) fs Φ s:=
 g6 (m:=point) (K:=k) (H:=.raise) (gd:=id) (lv:=λ_=>l) (wpAny_point h)
theorem aE3{c':Code}{h g l}{k:Result->Sem PySem.Fin}(hc:∀ p,Sg M A c' (M.den c') (.ret k h g l c p [] :: fs) Φ s):Sg M A c (.call c' h g l k) fs Φ s:=by
 rintro Γ p rfl hΓ
 refine bO (hc p (Γ.goto c') p rfl (hΓ.goto c')) λe s' hr he=>?_
 exact⟨e,s',runs_call_seg hr,he⟩
theorem aE2{k h g l c₁ p₁ kp}(r:Result)(hk:Sg M A c₁ (k r) fs Φ s):Sg M A c (leafOf r) (.ret k h g l c₁ p₁ kp :: fs) Φ s:=by
 rintro Γ p rfl hΓ
 refine bO (hk (Γ.goto c₁) p₁ rfl (hΓ.goto c₁)) λe s' hr he=>?_
 exact⟨e,s',Runs.pop r hr,he⟩
theorem mY{c':Code}(hq:c'.quiet=true)(hc:Sg M A c' (M.den c') fs Φ s):Sg M A c (.pure (.again c')) fs Φ s:=by
 rintro Γ p rfl hΓ
 refine bO (hc (Γ.goto c') p rfl (hΓ.goto c')) λe s' hr he=>?_
 exact⟨e,s',Runs.head (c₁:=c') (λ_ _ x=>.again hq x) hr,he⟩
theorem aAx(r:Result)(h:Φ (.ret r) s):Sg M A c (leafOf r) [] Φ s:=by
 rintro Γ p rfl _
 exact⟨.ret r,s,Runs.leaf r,h⟩
theorem aAt{v g l}{k:Resume->Sem PySem.Fin}(hfs:splitAtGen fs=none)(h:∀ p,Φ (.susp v g l k c p fs) s):Sg M A c (.yield v g l k) fs Φ s:=by
 rintro Γ p rfl _
 exact⟨_,s,Runs.yield' fs hfs,h p⟩
def aEg(M:Model)(A:Around)(Φ:End->Shared->Prop)(r:Resume)(s:Shared):GenState->Prop
 | .fresh c=>r= .send .none/\Sg M A c (M.den c) [] Φ s
 | .suspended k₀ _ c _ fs _=>Sg M A c (k₀ r) fs Φ s
 |_=>False
theorem uQ{E:Value->Shared->Prop}{g:Nat}{gs:GenState}{r:Resume}{l:List Value}{α:Type}{k:GenResult->Sem α}{Q:α->Shared->Prop}(hg:s.gens[g]? =some gs)
  (hgo:aEg M A Φ r (s.setGen g .running) gs)
  (hq:∀ e s₁,Φ e s₁->e.quiet=true/\wpAny M A (k e.result) Q E (s₁.setGen g e.genState)):wpAny M A (.resume g r l k) Q E s:=by
 intro Γ p hΓ
 rw [Sem.wp_resume]
 have hB:∀ c,(Γ.wake c p).Woken A:=λc=>hΓ.wake c p
 cases gs with
 |fresh c=>
  refine xA hgo λz93 hs=>?_;clear hgo;subst z93
  refine bO (hs (Γ.wake c p) p rfl (hB c)) λe₁ s₁ hr he=>?_
  exact⟨_,_,by unfold Wakes;rw[hg];exact⟨e₁,s₁,hr,(hq e₁ s₁ he).1,rfl,rfl⟩,(hq e₁ s₁ he).2 Γ p hΓ⟩
 |suspended k₀ l₀ c₀ p₀ fs₀ cl=>
  refine bO (hgo (Γ.wake c₀ p) p₀ rfl (hB c₀)) λe₁ s₁ hr he=>?_
  exact⟨_,_,by unfold Wakes;rw[hg];exact⟨e₁,s₁,hr,(hq e₁ s₁ he).1,rfl,rfl⟩,(hq e₁ s₁ he).2 Γ p hΓ⟩
 |running=>exact hgo.elim
 |finished=>exact hgo.elim
end
section
variable {M:Model}{A:Around}{c:Code}{fs:List Frame}{Φ:End->Shared->Prop}{s:Shared}{K:Flow->Sem PySem.Fin}{H:Value->Sem PySem.Fin}{gd:Bool->Bool}{lv:List Value->List Value}
theorem cU{st:Stmt}{rest:List Stmt}(h:Sg M A c ((exec st env).wrap (λf=>match f with | .next=>(execs rest env).wrap K H gd lv |f=>K f) H gd lv) fs Φ s):
  Sg M A c ((execs (st :: rest) env).wrap K H gd lv) fs Φ s:=by rw[execs_cons_wrap];exact h
theorem jC{e:Expr}{ypos pos:Pos}(hfs:splitAtGen fs=none)(hgd:gd false=false)
  (h:wpAny M (A.over c fs) (eval e env) (λv s'=>∀ l k p,k (.send .none)=K .next->Φ (.susp v false l k c p fs) s') (λx s'=>Sg M A c (H x) fs Φ s') s) (hco:env.scope.isCoroutine=false) (hi:interactive env=false):
  Sg M A c ((exec (.Expr (.Yield (some e) ypos) pos) env).wrap K H gd lv) fs Φ s:=by
 rw [exec_Expr env _ pos hi rfl]
 show Sg M A c (.at pos λ_=>((eval e env >>=λv=>(standAt ypos >>=λ_=>yieldOut env v)) >>=λx=>
  dropValue (.Yield (some e) ypos) pos x).wrap K H gd lv) fs Φ s
 have hy:∀ v,yieldOut env v=yieldValue v:=λv=>by simp only[yieldOut,hco,Bool.false_eq_true,if_false]
 simp only[hy]
 refine aAy ?_
 rw [Sem.bind_eq_wrap',Sem.bind_eq_wrap',Sem.wrap_wrap,Sem.wrap_wrap]
 refine g6 (wpAny_mono h (λv s' h'=>?_) λ_ _ x=>x)
 refine aAy ?_
 have key:=λl k p hk=>h' l k p hk
 rw [<-hgd]at key
 exact aAt hfs λp=>key _ _ p rfl
theorem sg_If{test:Expr}{b1 b2:List Stmt}{pos:Pos}(h:wpAny M (A.over c fs) (isTrue test env (eval test env)) (λb s'=>if b=true then Sg M A c ((execs b1 env).wrap K H gd lv) fs Φ s' else Sg M A c ((execs b2 env).wrap K H gd lv) fs Φ s') (λx s'=>Sg M A c (H x) fs Φ s') s):
  Sg M A c ((exec (.If test b1 b2 pos) env).wrap K H gd lv) fs Φ s:=by
 rw [exec_If]
 show Sg M A c (.at _ λ_=>(isTrue test env (eval test env) >>=λb=>if b=true then execs b1 env else execs b2 env).wrap K H gd lv) fs Φ s
 refine aAy ?_
 rw [Sem.bind_eq_wrap',Sem.wrap_wrap]
 refine g6 (wpAny_mono h (λb s' hb=>?_) λ_ _ x=>x)
 cases b with
 |true=>exact hb
 |false=>exact hb
end
end
section
variable {C:Cx}{r:Nat}{env:Env}
theorem mA{prog:Program}{w:World}{A:Around}{E:Value->Shared->Prop}{s:Shared}{it l:Addr}{i:Nat}{items}{Q:Option Value->Shared->Prop}(hh:A.handled=none)
  (hit:s.heap.IsListIter it l i) (hl:s.heap.IsList l items) (hx:items[i]? =none)
  (hQ:∀ h' o',h'.get? it=some o'->¬aS o'->Heap.ExtBut it s.heap h'->Q none {s with heap:=h'}):wpAny (model prog w) A (pyNext (.ref it)) Q E s:=by
 refine c8 (id hit) λo ho hc hd=>?_
 refine wD hl λol hol _ nl hdl=>?_
 unfold pyNext
 refine wpAny_bind (wpAny_attempt (wpAny_callSpecial?_slot (name:=Str.ofString "__next__") hit.typeIs slot_listiter_next
  (wpAny_call_entry slot_listiter_next hit.typeIs entry_listiter_next ?_ (args_listiter_next _))))
 show wpAny _ _ (field (.ref it) 0 >>=_) _ _ s
 refine wpAny_bind (wpAny_field ho hd (x:=.ref l) rfl ?_)
 show wpAny _ _ (if (Value.ref l==Value.none)=true then _ else _) _ _ s
 rw [if_neg (show¬((Value.ref l==Value.none)=true) from Bool.false_ne_true)]
 show wpAny _ _ (field (.ref it) 1 >>=_) _ _ s
 refine wpAny_bind (wpAny_field ho hd (x:=.int i 0) rfl ?_)
 show wpAny _ _ (seqItems? (.ref l) >>=_) _ _ s
 refine wpAny_bind (wpAny_seqItems hol hdl ?_)
 simp only[Int.toNat_natCast,hx]
 refine wpAny_bind (wpAny_rule (wpAny_bind (wpAny_setField ho hd (by simp) ?_)))
 show wpAny _ _ (newExc (.type "StopIteration") [] >>=_) _ _ _
 refine wpAny_bind ?_
 simp only[newExc,newTuple]
 refine wpAny_bind (wpAny_newObj_type ?_ (by size_fits))
 refine wpAny_bind (m:=firstArgMember _ _) (wpAny_of_eq (a:=Value.none) (by first |rfl | (simp only[firstArgMember];rfl)) ?_)
 refine wpAny_newObj_type ?_ (by size_fits)
 simp only[raiseNew]
 refine wpAny_bind (wpAny_handled ?_)
 rw [show A.in1.handled=none from hh]
 refine wpAny_bind (wpAny_pure (wpAny_throw ?_))
 refine wpAny_bind (wpAny_isInstance (T:="StopIteration") (b:=true) ⟨_,Heap.get?_push_size _ rfl,rfl⟩ isSubtype_stop ?_)
 have hd':=Obj.data_mapFields hd (·.setIfInBounds 0 Value.none)
 refine wpAny_pure (hQ _ _ (Heap.get?_push_of_some _ (Heap.get?_push_of_some _ (Heap.get?_update_self _ ho (Obj.isFreed_of_fields hd')))) ?_ (((Heap.SameBut.update ..).extBut.push _).push _))
 have hc':=(Obj.cls_mapFields o (·.setIfInBounds 0 Value.none)).trans hc
 simp [aS,hd',hc']
def MO.iv:MO->Option (Nat×Nat) | .itr (some p)=>some p |_=>none
theorem iv_mo{m:Option MO}{p:Nat×Nat}(e:m.bind MO.iv=some p):m=some (.itr (some p)):=by
 refine xEA (Option.bind_eq_some_iff.mp e) λm z94 h2=>?_;subst z94
 cases m with
 |itr o=>cases o with
  |none=>cases h2
  |some q=>cases h2;rfl
 |_=>cases h2
inductive ItrN(C:Cx)(H:MH)(ρ:List Lc)(s:Shared)(j ci k:Nat)(vs:List V):Option Value->Shared->Prop
 |item {u v s'} (hv:vs[k]? =some v) (S:Sim C (H.set j (.itr (some (ci,k+1)))) ρ s') (N:∀ W,Nx ρ W s ρ s') (r:VR ρ s'.heap u v):ItrN C H ρ s j ci k vs (some u) s'
 |done {s'} (hv:vs[k]? =none) (S:Sim C (H.set j (.itr none)) ρ s') (N:∀ W,Nx ρ W s ρ s'):ItrN C H ρ s j ci k vs none s'
theorem aCa{A:Around}{s:Shared}{ρ:List Lc}{H:MH}{j ci k:Nat}{l:Lc}{vs:List V}(hr:Room r A)(S:Sim C H ρ s)(hl:ρ[j]? =some l)(hH:H[j]? =some (.itr (some (ci,k))))(hv:lst H (.ref ci)=some vs):
  wpAny C.M A (pyNext (.ref l.a)) (ItrN C H ρ s j ci k vs) NoE s:=by
 refine pU (S.objs j _ l hH hl) λg1 g2 li hli hit=>?_
 refine cJ (cZ S (.ref hli) hv) λad xs q1 q2 q3=>?_
 cases q1
 refine c8 (id hit) λo h2 h3 h4=>?_
 have hi: ¬aS o:=rO h3 h4
 cases hvk:vs[k]? with
 |some v=>
  refine xEA (q3.get hvk) λu hu ru=>?_
  refine wpAny_pyNext_list_item hit q2 (by simpa using hu) λh' hit2 hs=>?_
  have st:=S.put (k:=s.toks) (h':=h') (m':=.itr (some (ci,k+1))) hl hH g1 h2 hi hs (let ⟨o2,e2,_⟩:=hit2;⟨o2,e2⟩) (by intro _ h;cases h) (by intro _ h;cases h) λim=>⟨g1,g2,li,hli,hit2⟩
  exact .item hvk st.1 st.2 (ru.nx (st.2 noW))
 |none=>
  refine mA hr.1 hit q2 (Array.getElem?_eq_none (by rw[q3.sz];exact List.getElem?_eq_none_iff.mp hvk)) λh' o' e' hi' he=>?_
  have im:Imm s.heap h':=λb x e i=>by
   by_cases q:b=l.a
   ·subst q;rw[h2]at e;cases e;exact absurd i hi
   ·exact he b x q e
  refine .done hvk (S.upd hl hH (by intro _ h;cases h) (λb o e hb=>he b o (λq=>hb (.inl q)) e) im rfl rfl ⟨g1,g2,o',e',hi'⟩ (by intro _ h;cases h))
   λW=>⟨List.prefix_refl _,λl hl=>by simp at hl,λb x e ho _=>he b x (λq=>ho (q▸⟨l,List.mem_of_getElem? hl,.inl rfl⟩)) e,im,λb x e=>?_⟩
  by_cases q:b=l.a
  ·rw[q];exact⟨o',e'⟩
  ·exact⟨x,he b x q e⟩
structure GSh where
 fd:FuncData
 fa:Addr
 pre:List Stmt
 target:Expr
 iter:Expr
 cond:Expr
 ye:Expr
 cond2:Expr
 ye2:Expr
 s1:Stmt
 s3:Stmt
 s2:List Stmt
 p1:Pos
 p2:Pos
 p3:Pos
 p4:Pos
 p5:Pos
 p6:Pos
 p7:Pos
namespace GSh
variable (G:GSh)
def yst:Stmt:=.Expr (.Yield (some G.ye) G.p1) G.p2
def yst2:Stmt:=.Expr (.Yield (some G.ye2) G.p3) G.p4
def lb:List Stmt:=[.If G.cond (G.s1 :: G.yst :: G.s2) [] G.p5,G.s3]
def if2:Stmt:=.If G.cond2 [G.yst2] [] G.p6
def tail:List Stmt:=[.For G.target G.iter G.lb [] G.p7,G.if2]
def body:List Stmt:=G.pre++G.tail
def envL(L:Addr):Env:=callEnvC G.fd L G.fa
def Kf:Flow->Sem PySem.Fin:=λf=>.pure (.done (.ret (match f with | .ret v=>v |_=>.none)))
def Hf(env:Env):Value->Sem PySem.Fin:=λe=>(leaving env e).wrap (λ_=>.raise e) .raise id id
def Ka(env:Env):Flow->Sem PySem.Fin:=λf=>match f with | .next=>(execs [G.if2] env).wrap Kf (Hf env) id id |f=>Kf f
def fs1(env:Env)(p:Pos):List Frame:=[.ret (λr=>((match r with | .ok f=>(.pure f:Sem Flow) | .error e=>.raise e).onRaise fun(x:Value)=>do
    if (<-field x 1)==Value.none then unsupported "frame.own-activation:exception-without-traceback"
    setFlight x env.frame).wrap (G.Ka env) (Hf env) id id) none false [] (.func G.body env) p []]
def loopC(env:Env)(x:Value):Code:=.forLoop G.target x G.lb [] env
def Kt(env:Env)(x:Value):Flow->Sem PySem.Fin:=λf=>match f with
 | .next | .cont=>.pure (.again (G.loopC env x))
 | .brk=>.pure (.done .next)
 | .ret v=>.pure (.done (.ret v))
def Ht(env:Env):Value->Sem PySem.Fin:=λe=>(do noteFrame e env;theTreesLotGoes e:Sem Unit).wrap (λ_=>.raise e) .raise id id
def K1(env:Env)(x:Value):Flow->Sem PySem.Fin:=λf=>match f with | .next=>(execs [G.s3] env).wrap (G.Kt env x) (Ht env) id id |f=>G.Kt env x f
def T1(env:Env)(x:Value):Sem PySem.Fin:=(execs G.s2 env).wrap (G.K1 env x) (Ht env) id id
end GSh
theorem dJ{M:Model}{A:Around}{c:Code}{fs:List Frame}{Φ:End->Shared->Prop}{s:Shared}{α β:Type}{m:Sem α}{f:α->Sem β}{K:β->Sem PySem.Fin}{H:Value->Sem PySem.Fin}{gd:Bool->Bool}{lv:List Value->List Value}
  (h:wpAny M (A.over c fs) m (λa s'=>Sg M A c ((f a).wrap K H gd lv) fs Φ s') (λx s'=>Sg M A c (H x) fs Φ s') s):Sg M A c ((m >>=f).wrap K H gd lv) fs Φ s:=by
 rw [Sem.bind_eq_wrap',Sem.wrap_wrap]
 exact g6 h
theorem e8{K:Flow->Sem PySem.Fin}{H:Value->Sem PySem.Fin}:∀ (a b:List Stmt),(execs (a++b) env).wrap K H id id=(execs a env).wrap (λf=>match f with | .next=>(execs b env).wrap K H id id |f=>K f) H id id
 | [],b=>rfl
 |st :: a,b=>by
  rw [List.cons_append,execs_cons_wrap,execs_cons_wrap]
  refine Sem.wrap_congr _ _ _ (λf=>?_) (λ_=>rfl)
  cases f with
  |next=>exact e8 a b
  |_=>rfl
inductive k7 where
 |yl (it:Nat) (lo:Lo) (v:V)
 |yr (lo:Lo) (v:V)
 |done
structure GFn where
 pre:SF
 it:EF
 tgt:AF
 fc:TF
 f1:SF
 fy:EF
 f2:SF
 f3:SF
 fc2:TF
 fy2:EF
namespace GFn
variable (g:GFn)
def tail(lo:Lo)(H:MH)(Q:k7->MH->Prop):Prop:=g.fc2 lo H λb H2=>bif b then g.fy2 lo H2 λv H3=>Q (.yr lo v) H3 else Q .done H2
def nextK(k:Lo->MH->Prop):SK:=λfl lo H=>match fl with | .next=>k lo H |_=>False
def loopN:Nat->Nat->Lo->MH->(k7->MH->Prop)->Prop
 |0,_,_,_,_=>False
 |n+1,it,lo,H,Q=>Lf (H[it]?.bind MO.iv) λp=>Lf (lst H (.ref p.1)) λvs=>match vs[p.2]? with
  |some v=>g.tgt v lo (H.set it (.itr (some (p.1,p.2+1)))) λlo1 H1=>g.fc lo1 H1 λb H2=>
    bif b then g.f1 lo1 H2 (nextK λlo2 H3=>g.fy lo2 H3 λv H4=>Q (.yl it lo2 v) H4)
    else g.f3 lo1 H2 (nextK λlo2 H3=>loopN n it lo2 H3 Q)
  |none=>g.tail lo (H.set it (.itr none)) Q
def loop(it:Nat)(lo:Lo)(H:MH)(Q:k7->MH->Prop):Prop:=∃ n,g.loopN n it lo H Q
def start(lo:Lo)(H:MH)(Q:k7->MH->Prop):Prop:=g.pre lo H (nextK λlo1 H1=>g.it lo1 H1 λa H2=>Lf a.rf λci=>(∃ vs,lst H2 (.ref ci)=some vs)/\g.loop H2.length lo1 (H2++[.itr (some (ci,0))]) Q)
def more(it:Nat)(lo:Lo)(H:MH)(Q:k7->MH->Prop):Prop:=g.f2 lo H (nextK λlo1 H1=>g.f3 lo1 H1 (nextK λlo2 H2=>g.loop it lo2 H2 Q))
end GFn
structure GV(C:Cx)(r:Nat)(G:GSh)(g:GFn)(env:Env):Prop where
 pre:SVs C r env G.pre g.pre
 it:EV C r env G.iter g.it
 tgt:AV C r env G.target g.tgt
 fc:TV C r env G.cond g.fc
 f1:SV C r env G.s1 g.f1
 fy:EV C r env G.ye g.fy
 f2:SVs C r env G.s2 g.f2
 f3:SV C r env G.s3 g.f3
 fc2:TV C r env G.cond2 g.fc2
 fy2:EV C r env G.ye2 g.fy2
 hs:∀ x,foldedSetIterable G.iter env x=pure x
 co:env.scope.isCoroutine=false
 ia:interactive env=false
inductive GΦ(C:Cx)(G:GSh)(env:Env)(ρ0:List Lc)(s0:Shared)(Q:k7->MH->Prop):End->Shared->Prop
 |yl {ρ1 H1 it lo v li u l k p p' s'} (S:Sim C H1 ρ1 s') (N:Nx ρ0 (Wr env) s0 ρ1 s') (hk:k (.send .none)=G.T1 env (.ref li.a)) (hli:ρ1[it]? =some li) (r:VR ρ1 s'.heap u v) (F:Fm C env ρ1 s' lo) (q:Q (.yl it lo v) H1):
   GΦ C G env ρ0 s0 Q (.susp u false l k (G.loopC env (.ref li.a)) p (G.fs1 env p')) s'
 |yr {ρ1 H1 lo v u l k p s'} (S:Sim C H1 ρ1 s') (N:Nx ρ0 (Wr env) s0 ρ1 s') (hk:k (.send .none)=GSh.Kf .next) (r:VR ρ1 s'.heap u v) (F:Fm C env ρ1 s' lo) (q:Q (.yr lo v) H1):GΦ C G env ρ0 s0 Q (.susp u false l k (.func G.body env) p []) s'
 |done {ρ1 H1 s'} (S:Sim C H1 ρ1 s') (N:Nx ρ0 (Wr env) s0 ρ1 s') (o:∃ o,s'.heap.get? env.locals=some o/\¬aS o) (q:Q .done H1):GΦ C G env ρ0 s0 Q (.ret (.ok (.ret .none))) s'
theorem Room.overF{A:Around}{b:List Stmt}{e:Env}(hr:Room (r+1) A):Room r (A.over (.func b e) []):=by
 refine xAA hr λh1 h2 h3=>?_
 have w1:(Code.func b e).weight=1:=rfl
 have w2:(Code.func b e).cUnits=3:=rfl
 refine⟨h1,?_,?_⟩
 ·show A.depth+0+(Code.func b e).weight+10*r<=700
  rw [w1];exact A34 h2
 ·show A.units+0+(Code.func b e).cUnits+40*r<=8000
  rw [w2];exact A35 h3
theorem Room.overL{A:Around}{G:GSh}{x:Value}{e:Env}{p:Pos}(hr:Room (r+1) A):Room r (A.over (G.loopC e x) (G.fs1 e p)):=by
 refine xAA hr λh1 h2 h3=>?_
 refine⟨h1,?_,?_⟩
 ·show A.depth+(1+0)+0+10*r<=700
  exact A36 h2
 ·show A.units+(3+0)+0+40*r<=8000
  exact A37 h3
theorem Fm.locals{ρ:List Lc}{s:Shared}{lo:Lo}(F:Fm C env ρ s lo):∃ o,s.heap.get? env.locals=some o/\¬aS o:=by
 refine xEA F.ns λm z95 _=>?_;obtain⟨o,es,ep,g,hd,_⟩:=z95
 exact⟨o,g,by unfold aS;rw[hd];exact id⟩
theorem aCo{G:GSh}{g:GFn}(V:GV C r G g env){A:Around}{s0 s:Shared}{ρ0 ρ:List Lc}{H:MH}{lo:Lo}{Q:k7->MH->Prop}(hr:Room (r+1) A)(N:Nx ρ0 (Wr env) s0 ρ s)(S:Sim C H ρ s)(F:Fm C env ρ s lo)
  (e:g.tail lo H Q):Sg C.M A (.func G.body env) ((execs [G.if2] env).wrap GSh.Kf (GSh.Hf env) id id) [] (GΦ C G env ρ0 s0 Q) s:=
 cU (sg_If (TV.run V.fc2 hr.overF S F e λ{b s1 _ _} S1 N1 e=>by
  cases b with
  |true=>
   rw [if_pos rfl]
   exact cU (jC rfl rfl (EV.run V.fy2 hr.overF S1 (F.nx N1) e λS2 N2 r2 q l k p hk=>.yr S2 ((N.trans N1.wr).trans N2.wr) hk r2 ((F.nx N1).nx N2) q) V.co V.ia)
  |false=>
   rw [if_neg (by decide)]
   exact aAx (.ok (.ret .none)) (.done S1 (N.trans N1.wr) (F.nx N1).locals e)))
theorem aAv{A:Around}{st:Stmt}{rest:List Stmt}{f:SF}{k:Lo->MH->Prop}{c:Code}{fs:List Frame}{Φ:End->Shared->Prop}{K:Flow->Sem PySem.Fin}{Hh:Value->Sem PySem.Fin}{s:Shared}{ρ:List Lc}{H:MH}{lo:Lo}(V:SV C r env st f)(hr:Room r (A.over c fs))(S:Sim C H ρ s)(F:Fm C env ρ s lo)(e:f lo H (GFn.nextK k))
  (h:∀ {s1 ρ1 H1 lo1},Sim C H1 ρ1 s1->Nx ρ (Wr env) s ρ1 s1->Fm C env ρ1 s1 lo1->k lo1 H1->Sg C.M A c ((execs rest env).wrap K Hh id id) fs Φ s1):Sg C.M A c ((execs (st :: rest) env).wrap K Hh id id) fs Φ s:=
 cU (g6 (wmN (V hr S F e) λfw s1 p=>by
  obtain⟨S1,N1,F1,r1,q⟩:=p
  cases r1 with
  |next=>exact h S1 N1 F1 q
  |brk=>exact q.elim
  |cont=>exact q.elim
  |ret _=>exact q.elim))
theorem aAu{A:Around}{st:List Stmt}{f:SF}{k:Lo->MH->Prop}{c:Code}{fs:List Frame}{Φ:End->Shared->Prop}{K:Flow->Sem PySem.Fin}{Hh:Value->Sem PySem.Fin}{s:Shared}{ρ:List Lc}{H:MH}{lo:Lo}(V:SVs C r env st f)(hr:Room r (A.over c fs))(S:Sim C H ρ s)(F:Fm C env ρ s lo)(e:f lo H (GFn.nextK k))
  (h:∀ {s1 ρ1 H1 lo1},Sim C H1 ρ1 s1->Nx ρ (Wr env) s ρ1 s1->Fm C env ρ1 s1 lo1->k lo1 H1->Sg C.M A c (K .next) fs Φ s1):Sg C.M A c ((execs st env).wrap K Hh id id) fs Φ s:=
 g6 (wmN (V hr S F e) λfw s1 p=>by
  obtain⟨S1,N1,F1,r1,q⟩:=p
  cases r1 with
  |next=>exact h S1 N1 F1 q
  |brk=>exact q.elim
  |cont=>exact q.elim
  |ret _=>exact q.elim)
theorem nW{G:GSh}{g:GFn}(V:GV C r G g env){it:Nat}{li:Lc}{p:Pos}:∀ (n:Nat){A:Around}{s0 s:Shared}{ρ0 ρ:List Lc}{H:MH}{lo:Lo}{Q:k7->MH->Prop},Room (r+1) A->Nx ρ0 (Wr env) s0 ρ s->Sim C H ρ s->Fm C env ρ s lo->ρ[it]? =some li->
  g.loopN n it lo H Q->Sg C.M A (G.loopC env (.ref li.a)) (C.M.den (G.loopC env (.ref li.a))) (G.fs1 env p) (GΦ C G env ρ0 s0 Q) s
 |0,_,_,_,_,_,_,_,_,_,_,_,_,_,e=>e.elim
 |n+1,A,s0,s,ρ0,ρ,H,lo,Q,hr,N,S,F,hli,e=>by
  show Sg C.M A _ ((forTurn G.target (.ref li.a) G.lb [] env).onRaise (λx=>do noteFrame x env;theTreesLotGoes x)) _ _ s
  rw [Sem.onRaise_eq_wrap]
  have eH:(λe=>(do noteFrame e env;theTreesLotGoes e:Sem Unit).bind λ_=>(.raise e:Sem PySem.Fin))=GSh.Ht env:=by
   funext e
   exact Sem.bind_eq_wrap _ _
  rw [eH]
  unfold forTurn
  refine dJ (wpAny_standAt ?_)
  refine e.elim λck hH e=>e.elim λvs hv e=>?_
  have hH:=iv_mo hH
  refine dJ (wpAny_onRaise (wmN (aCa (r:=r) (A:=A.over (G.loopC env (.ref li.a)) (G.fs1 env p)) hr.overL S hli hH hv) λo s1 m1=>?_))
  cases m1 with
  |item hvk S1 N1 ru=>
   rw [hvk]at e
   obtain⟨_,_,lc,_,oi,hoi,hci,_⟩:=S1.objs it _ li (by rw[List.getElem?_set_self (List.getElem?_eq_some_iff.mp hH).1]) hli
   show Sg C.M A _ ((letOwnedTupleGo G.target (.ref li.a) _ >>=λ_=>(assign G.target env _ >>=λ_=>(execs G.lb env >>=λf=>match f with
    | .next | .cont=>again (.forLoop G.target (.ref li.a) G.lb [] env)
    | .brk=>pure (.done .next)
    | .ret v=>pure (.done (.ret v))))).wrap .pure (GSh.Ht env) id id) _ _ s1
   refine dJ (i9 (T:="list_iterator") hoi hci (by decide) (dJ (dS.run (α:=Unit) (V.tgt hr.overL S1 (F.nx (N1 _)) ru e) λ{_ s2 _ _ _} S2 N2 F2 e=>?_)))
   rw [Sem.bind_eq_wrap',Sem.wrap_wrap]
   refine(congrArg (λt=>Sg C.M A (G.loopC env (.ref li.a)) t (G.fs1 env p) (GΦ C G env ρ0 s0 Q) s2) (Sem.wrap_congr (K':=G.Kt env (.ref li.a)) (H':=GSh.Ht env) (execs G.lb env) _ _ (λf=>by cases f<;>rfl) (λ_=>rfl))).mpr ?_
   show Sg C.M A _ ((execs G.lb env).wrap (G.Kt env (.ref li.a)) (GSh.Ht env) id id) _ _ s2
   have N02:=(N.trans (N1 _)).trans N2
   have hli2:=aL N2.pre hli
   refine cU (sg_If (TV.run V.fc hr.overL S2 F2 e λ{b s3 _ _} S3 N3 e=>?_))
   cases b with
   |true=>
    rw [if_pos rfl]
    exact aAv V.f1 hr.overL S3 (F2.nx N3) e λS4 N4 F4 e=>cU (jC rfl rfl (EV.run V.fy hr.overL S4 F4 e λS5 N5 r5 q l k p' hk=>
     .yl S5 (((N02.trans N3.wr).trans N4).trans N5.wr) hk (aL N5.pre (aL N4.pre (aL N3.pre hli2))) r5 (F4.nx N5) q) V.co V.ia)
   |false=>
    rw [if_neg (by decide)]
    exact aAv V.f3 hr.overL S3 (F2.nx N3) e λS4 N4 F4 e=>mY rfl (nW V n hr ((N02.trans N3.wr).trans N4) S4 F4 (aL N4.pre (aL N3.pre hli2)) e)
  |done hvk S1 N1=>
   rw [hvk]at e
   show Sg C.M A _ (.pure (.again (.block [] env))) _ _ s1
   refine mY rfl ?_
   show Sg C.M A (.block [] env) (leafOf (.ok .next)) _ _ s1
   exact aE2 (.ok .next) (aCo V hr (N.trans (N1 _)) S1 (F.nx (N1 _)) e)
theorem aCu{G:GSh}{g:GFn}(V:GV C r G g env){it:Nat}{li:Lc}{p:Pos}{A:Around}{s0 s:Shared}{ρ0 ρ:List Lc}{H:MH}{lo:Lo}{Q:k7->MH->Prop}(hr:Room (r+1) A)(N:Nx ρ0 (Wr env) s0 ρ s)(S:Sim C H ρ s)(F:Fm C env ρ s lo)(hli:ρ[it]? =some li)
  (e:g.more it lo H Q):Sg C.M A (G.loopC env (.ref li.a)) (G.T1 env (.ref li.a)) (G.fs1 env p) (GΦ C G env ρ0 s0 Q) s:=
 aAu V.f2 hr.overL S F e λS1 N1 F1 e=>aAv V.f3 hr.overL S1 F1 e λS2 N2 F2 e=>by
  refine xE e λn e=>?_
  exact mY rfl (nW V n hr ((N.trans N1).trans N2) S2 F2 (aL N2.pre (aL N1.pre hli)) e)
theorem y4{G:GSh}{g:GFn}(V:GV C r G g env){A:Around}{s0 s:Shared}{ρ0 ρ:List Lc}{H:MH}{lo:Lo}{Q:k7->MH->Prop}(hr:Room (r+1) A)(N:Nx ρ0 (Wr env) s0 ρ s)(S:Sim C H ρ s)(F:Fm C env ρ s lo)
  (e:g.start lo H Q):Sg C.M A (.func G.body env) (C.M.den (.func G.body env)) [] (GΦ C G env ρ0 s0 Q) s:=by
 show Sg C.M A _ (.point [] λ_=>((execs G.body env).onRaise (leaving env)) >>=_) [] _ s
 refine aAw ?_
 rw [Sem.onRaise_eq_wrap,Sem.bind_eq_wrap',Sem.wrap_wrap]
 rw [Sem.wrap_congr (execs G.body env) _ _ (K':=GSh.Kf) (H':=GSh.Hf env) (λf=>by cases f<;>rfl) (λe=>by rw[Sem.bind_eq_wrap,Sem.wrap_wrap];rfl)]
 show Sg C.M A _ ((execs (G.pre++G.tail) env).wrap GSh.Kf (GSh.Hf env) id id) [] _ s
 rw [e8]
 refine aAu V.pre hr.overF S F e λ{s1 _ _ _} S1 N1 F1 e=>?_
 unfold GSh.tail
 refine cU ?_
 rw [exec_For]
 refine dJ (wpAny_standAt (dJ (EV.run V.it hr.overF S1 F1 e λ{x s2 ρ2 v2 H2} S2 N2 r2 e=>e.elim λci hi e=>?_)))
 refine xAE e λz96 n e=>?_;obtain⟨vs,hv⟩:=z96
 refine c8 (r2.toRef hi) λlc _ hx gl=>?_
 subst hx
 refine cJ (cZ S2 (.ref gl) hv) λad xs ha q2 q3=>?_
 cases ha
 refine dJ (wpAny_of_eq (V.hs _) (dJ (wpAny_standAt (dJ (wpAny_holding (wpAny_pyIter_list q2 ?_))))))
 have S3:=S2.alloc {cls:=.type "list_iterator",data:=.fields #[.ref lc.a,.int 0 0]} (.itr (some (ci,0))) ⟨rfl,rfl,lc,aL (List.prefix_append _ _) gl,_,Heap.get?_push_size _ rfl,rfl,rfl⟩
 have N3:Nx ρ2 noW s2 _ _:=.alloc {cls:=.type "list_iterator",data:=.fields #[.ref lc.a,.int 0 0]}
 exact aE3 λp=>nW V n (li:=⟨s2.heap.objs.size,s2.heap.objs.size,none⟩) hr (((N.trans N1).trans N2.wr).trans N3.wr) S3 ((F1.nx N2).nx N3) S2.last e
theorem aCv{G:GSh}{A:Around}{s0 s:Shared}{ρ0 ρ:List Lc}{H:MH}{lo:Lo}{Q:k7->MH->Prop}(N:Nx ρ0 (Wr env) s0 ρ s)(S:Sim C H ρ s)(F:Fm C env ρ s lo)(q:Q .done H):
  Sg C.M A (.func G.body env) (GSh.Kf .next) [] (GΦ C G env ρ0 s0 Q) s:=aAx (.ok (.ret .none)) (.done S N F.locals q)
end
section
variable {C:Cx}{r:Nat}{env:Env}
def e9(G:GSh)(ρ:List Lc)(s:Shared)(L:Addr)(lo:Lo):Prop:=∃ m,s.heap.Ns L m/\∀ x,(G.envL L).kindOf x=some .local->OV ρ s.heap (m x) (lo x)
def eB(G:GSh)(ρ:List Lc)(s:Shared)(l:Lc)(gn:Gn):Prop:=
 ∃ g nm qn,l.g=some g/\s.heap.get? l.a=some {cls:=.type "generator",data:=.fields #[.int (g:Nat) 0,nm,qn]}/\(match gn with
  | .fresh lo=>l.d≠l.a/\e9 G ρ s l.d lo/\s.gens[g]? =some (.fresh (.func G.body (G.envL l.d)))
  | .loop it lo=>l.d≠l.a/\e9 G ρ s l.d lo/\∃ li k l' p p',ρ[it]? =some li/\k (.send .none)=G.T1 (G.envL l.d) (.ref li.a)/\s.gens[g]? =some (.suspended k l' (G.loopC (G.envL l.d) (.ref li.a)) p (G.fs1 (G.envL l.d) p') false)
  | .last lo=>l.d≠l.a/\e9 G ρ s l.d lo/\∃ k l' p,k (.send .none)=GSh.Kf .next/\s.gens[g]? =some (.suspended k l' (.func G.body (G.envL l.d)) p [] false)
  | .run=>l.d=l.a/\s.gens[g]? =some .running
  | .fin=>l.d≠l.a/\(∃ o,s.heap.get? l.d=some o/\¬aS o)/\s.gens[g]? =some .finished)
theorem e9.mono{G:GSh}{ρ ρ':List Lc}{s s':Shared}{L:Addr}{lo:Lo}(h:e9 G ρ s L lo)(e:ρ<+:ρ')(i:Imm s.heap s'.heap)(h2:∀ o,s.heap.get? L=some o->s'.heap.get? L=some o):e9 G ρ' s' L lo:=by
 refine xEA h λm z97 hm=>?_;obtain⟨o,es,ep,ho,q⟩:=z97
 exact⟨m,⟨o,es,ep,h2 _ ho,q⟩,λx hx=>(hm x hx).mono e i⟩
theorem eB.mono{G:GSh}{ρ ρ':List Lc}{s s':Shared}{l:Lc}{gn:Gn}(e:ρ<+:ρ')(i:Imm s.heap s'.heap)(h1:∀ o,s.heap.get? l.a=some o->s'.heap.get? l.a=some o)
  (h2:∀ o,s.heap.get? l.d=some o->s'.heap.get? l.d=some o) (h3:∀ k x,l.g=some k->s.gens[k]? =some x->s'.gens[k]? =some x) (h:eB G ρ s l gn):eB G ρ' s' l gn:=by
 refine fC h λg nm qn hg ho hm=>?_
 refine⟨g,nm,qn,hg,h1 _ ho,?_⟩
 cases gn with
 |fresh lo=>exact⟨hm.1,hm.2.1.mono e i h2,h3 _ _ hg hm.2.2⟩
 |loop it lo=>refine gY hm λa b li k l' p p' x y z=>?_;exact⟨a,b.mono e i h2,li,k,l',p,p',aL e x,y,h3 _ _ hg z⟩
 |last lo=>refine qO hm λa b k l' p y z=>?_;exact⟨a,b.mono e i h2,k,l',p,y,h3 _ _ hg z⟩
 |run=>exact⟨hm.1,h3 _ _ hg hm.2⟩
 |fin=>refine xAA hm λa z98 z=>?_;obtain⟨o,x,y⟩:=z98;exact⟨a,⟨o,h2 _ x,y⟩,h3 _ _ hg z⟩
theorem eB.here{G:GSh}{ρ:List Lc}{s:Shared}{l:Lc}{gn:Gn}(h:eB G ρ s l gn):∃ o o',s.heap.get? l.a=some o/\s.heap.get? l.d=some o'/\¬aS o/\¬aS o':=by
 refine fC h λg nm qn hg ho hm=>?_
 have hi: ¬aS ({cls:=.type "generator",data:=.fields #[.int (g:Nat) 0,nm,qn]}:Obj):=by simp [aS]
 have fr:∀ lo,e9 G ρ s l.d lo->∃ o o',s.heap.get? l.a=some o/\s.heap.get? l.d=some o'/\¬aS o/\¬aS o':=by
  rintro lo ⟨m,⟨o,es,ep,h2,hd,_⟩,_⟩
  exact⟨_,o,ho,h2,hi,by simp [aS,hd]⟩
 cases gn with
 |fresh lo=>exact fr lo hm.2.1
 |loop it lo=>exact fr lo hm.2.1
 |last lo=>exact fr lo hm.2.1
 |run=>rw [hm.1];exact⟨_,_,ho,ho,hi,hi⟩
 |fin=>refine xAA hm λ_ z99 _=>?_;obtain⟨o,x,y⟩:=z99;exact⟨_,o,ho,x,hi,y⟩
def mkCx(prog:Program)(w:World)(base:Shared)(lim:base.heap.NoLimit)(G:GSh):Cx:=⟨prog,w,base,lim,eB G,eB.mono,eB.here⟩
structure GCx(C:Cx)(G:GSh):Prop where
 gr:∀ ρ s l gn,C.GR ρ s l gn=eB G ρ s l gn
 loc:∀ L x,(G.envL L).kindOf x≠some .cell/\(G.envL L).kindOf x≠some .free
 cells:∀ L,(G.envL L).cells= []
 kind:G.fd.scope.kind= .function
 gl:G.fd.globals=mainGlobals
 bi:G.fd.builtins=builtinsNs
def i7(ρ ρ':List Lc):Prop:=∀ (n:Nat) (l:Lc),ρ[n]? =some l->∃ l',ρ'[n]? =some l'/\l'.a=l.a
theorem VR.sameA{ρ ρ':List Lc}{h:Heap}(e:i7 ρ ρ'){u:Value}{v:V}(r:VR ρ h u v):VR ρ' h u v:=by
 refine VR.rec (motive_1:=λu v _=>VR ρ' h u v) (motive_2:=λus vs _=>VRs ρ' h us vs) .none .bool .int .str ?_ ?_ ?_ ?_ ?_ ?_ .raw .nil ?_ r
 ·intro a xs n vs g _ ih;exact .tup g ih
 ·intro a n x y z t u v dd g;exact .mat g
 ·intro n l g;refine xEA (e n l g) λl' h1 h2=>?_;rw[<-h2];exact .ref h1
 ·intro a n l g g';refine xEA (e n l g) λl' h1 h2=>?_;rw[<-h2]at g';exact .dget h1 g'
 ·intro a n l g g';refine xEA (e n l g) λl' h1 h2=>?_;rw[<-h2]at g';exact .scon h1 g'
 ·intro a x y z t u v g;exact .rng g
 ·intro u us v vs _ _ a b;exact .cons a b
theorem VRs.sameA{ρ ρ':List Lc}{h:Heap}(e:i7 ρ ρ'):∀ {us:List Value}{vs:List V},VRs ρ h us vs->VRs ρ' h us vs
 |_,_,.nil=>.nil
 |_,_,.cons a b=>.cons (a.sameA e) (b.sameA e)
theorem OV.sameA{ρ ρ':List Lc}{h:Heap}(e:i7 ρ ρ'):∀ {u:Option Value}{v:Option V},OV ρ h u v->OV ρ' h u v
 |none,none,_=>trivial
 |some _,some _,x=>VR.sameA e x
 |none,some _,x=>False.elim x
 |some _,none,x=>False.elim x
theorem OR.sameA{G:GSh}(hG:GCx C G){ρ ρ':List Lc}{s:Shared}{l:Lc}{m:MO}(e:i7 ρ ρ')(r:OR C ρ s l m):OR C ρ' s l m:=by
 cases m with
 |list vs=>refine jI r λa g xs n x y=>?_;exact⟨a,g,xs,n,x,y.sameA e⟩
 |ro vs=>refine pU r λa g xs x y=>?_;exact⟨a,g,xs,x,y.sameA e⟩
 |dict n f=>refine uP r λa g kvs q x y=>?_;exact⟨a,g,kvs,q,x,λk=>(y k).sameA e⟩
 |eset=>exact r
 |inst fs=>refine mT r λg ne o m a b c d=>?_;exact⟨g,ne,o,m,a,b,c,λk=>(d k).sameA e⟩
 |gen gn=>
  have r':C.GR ρ s l gn:=r
  rw [hG.gr]at r'
  show C.GR ρ' s l gn
  rw [hG.gr]
  refine fC r' λg nm qn hg ho hm=>?_
  refine⟨g,nm,qn,hg,ho,?_⟩
  have fr:∀ {lo},e9 G ρ s l.d lo->e9 G ρ' s l.d lo:=λ⟨m,hn,hm⟩=>⟨m,hn,λx hx=>(hm x hx).sameA e⟩
  cases gn with
  |fresh lo=>exact⟨hm.1,fr hm.2.1,hm.2.2⟩
  |loop it lo=>refine gY hm λa b li k l' p p' x y z=>?_;refine xEA (e _ _ x) λli' h1 h2=>?_;rw[<-h2]at y z;exact⟨a,fr b,li',k,l',p,p',h1,y,z⟩
  |last lo=>refine xAA hm λa b c=>?_;exact⟨a,fr b,c⟩
  |run=>exact hm
  |fin=>exact hm
 |itr p=>cases p with
  |none=>exact r
  |some p=>refine pU r λa g li x y=>?_;refine xEA (e _ _ x) λli' h1 h2=>?_;rw[<-h2]at y;exact⟨a,g,li',h1,y⟩
theorem uY{s:Shared}{g k:Nat}{x y:GenState}(h:k≠g)(e:s.gens[k]? =some y):(s.setGen g x).gens[k]? =some y:=by
 show(s.gens.setIfInBounds g x)[k]? =some y
 rw [Array.getElem?_setIfInBounds_ne (Ne.symm h)];exact e
theorem eY{s:Shared}{g:Nat}{x y:GenState}(e:s.gens[g]? =some y):(s.setGen g x).gens[g]? =some x:=by
 have:g<s.gens.size:=by
  refine Or.elim (Nat.lt_or_ge g s.gens.size) (λq=>?_) λq=>?_
  ·exact q
  ·rw[Array.getElem?_eq_none q]at e;cases e
 show(s.gens.setIfInBounds g x)[g]? =some x
 simp [Array.getElem?_setIfInBounds,this]
theorem sY{s:Shared}{g:Nat}{x:GenState}(h:AllBare s.gens)(hx:x.bare=true):AllBare (s.setGen g x).gens:=by
 intro y hy
 have hy':y∈s.gens.setIfInBounds g x:=hy
 obtain⟨i,hi,rfl⟩:=Array.mem_iff_getElem.mp hy'
 rw [Array.getElem_setIfInBounds (by simpa using hi)]
 split
 ·exact hx
 ·exact h _ (Array.getElem_mem _)
theorem lF{ρ:List Lc}{gi:Nat}{l l':Lc}(hl:ρ[gi]? =some l)(ha:l'.a=l.a):i7 ρ (ρ.set gi l'):=by
 intro n x hx
 have hlt:gi<ρ.length:=(List.getElem?_eq_some_iff.mp hl).1
 by_cases q:n=gi
 ·subst q
  rw [hl]at hx;cases hx
  exact⟨l',by rw[List.getElem?_set_self hlt],ha⟩
 ·exact⟨x,by rw[List.getElem?_set_ne (Ne.symm q)];exact hx,rfl⟩
theorem Sim.swapG{G:GSh}(hG:GCx C G){H:MH}{ρ:List Lc}{s:Shared}{gi g:Nat}{l l':Lc}{gn gn':Gn}{gs:GenState}(S:Sim C H ρ s)(hl:ρ[gi]? =some l)(hH:H[gi]? =some (.gen gn))(ha:l'.a=l.a)(hg:l'.g=l.g)(hg':l.g=some g)(hb:gs.bare=true)
  (hd:l'.d=l.a∨l'.d=l.d∨(¬Own ρ l'.d/\C.base.heap.get? l'.d=none)) (hnew:eB G (ρ.set gi l') (s.setGen g gs) l' gn'):Sim C (H.set gi (.gen gn')) (ρ.set gi l') (s.setGen g gs):=by
 have hlt:gi<ρ.length:=(List.getElem?_eq_some_iff.mp hl).1
 have hltH:gi<H.length:=by rw[<-S.len];exact hlt
 have sa:=lF hl ha
 have other:∀ {i:Nat}{x:Lc},(ρ.set gi l')[i]? =some x->(i=gi/\x=l')∨(i≠gi/\ρ[i]? =some x):=by
  intro i x h
  by_cases q:i=gi
  ·subst q;rw[List.getElem?_set_self hlt]at h;cases h;exact .inl ⟨rfl,rfl⟩
  ·rw[List.getElem?_set_ne (Ne.symm q)]at h;exact .inr ⟨q,h⟩
 have hbase:C.base.heap.get? l.a=none/\C.base.heap.get? l.d=none:=by
  rcases S.ro gi l hl with ⟨vs,e⟩ |e
  ·rw[hH]at e;cases e
  ·exact e
 have hdis:∀ {i:Nat}{x:Lc},i≠gi->ρ[i]? =some x->∀ b,l'.has b->¬x.has b:=by
  intro i x q hx b hb hxb
  have old:=S.disj gi i l x hl hx (Ne.symm q)
  rcases hb with rfl |rfl
  ·rw[ha]at hxb;exact old _ (.inl rfl) hxb
  ·rcases hd with e |e |⟨e,_⟩
   ·rw[e]at hxb;exact old _ (.inl rfl) hxb
   ·rw[e]at hxb;exact old _ (.inr rfl) hxb
   ·exact e ⟨x,List.mem_of_getElem? hx,hxb⟩
 refine⟨by simp [S.len],S.keep,λi m x hm hx=>?_,λi x hx=>?_,λi j li lj hi hj hne b h1 h2=>?_,λi j li lj k hi hj hne h1 h2=>?_,S.os,sY S.bare hb⟩
 ·rcases other hx with ⟨rfl,rfl⟩ |⟨q,hx'⟩
  ·rw[List.getElem?_set_self hltH]at hm;cases hm
   show C.GR _ _ _ _
   rw [hG.gr];exact hnew
  ·rw[List.getElem?_set_ne (Ne.symm q)]at hm
   have o:=S.objs i m x hm hx'
   have o2:OR C ρ (s.setGen g gs) x m:=o.mono (s:=s) (s':=s.setGen g gs) (List.prefix_refl _) (.refl _) (λ_ e=>e) (λ_ e=>e) (λk y hk e=>uY (λz=>S.disjG i gi x l k hx' hl q hk (by rw[hg',z])) e)
   exact OR.sameA hG sa o2
 ·rcases other hx with ⟨rfl,rfl⟩ |⟨q,hx'⟩
  ·right
   refine⟨by rw[ha];exact hbase.1,?_⟩
   rcases hd with e |e |⟨_,e⟩
   ·rw[e];exact hbase.1
   ·rw[e];exact hbase.2
   ·exact e
  ·rw[List.getElem?_set_ne (Ne.symm q)];exact S.ro i x hx'
 ·rcases other hi with ⟨rfl,rfl⟩ |⟨q,hi'⟩<;>rcases other hj with ⟨rfl,rfl⟩ |⟨q',hj'⟩
  ·exact hne rfl
  ·exact hdis q' hj' b h1 h2
  ·exact hdis q hi' b h2 h1
  ·exact S.disj i j li lj hi' hj' hne b h1 h2
 ·rcases other hi with ⟨rfl,rfl⟩ |⟨q,hi'⟩<;>rcases other hj with ⟨rfl,rfl⟩ |⟨q',hj'⟩
  ·exact hne rfl
  ·exact S.disjG i j l lj k hl hj' hne (hg▸h1) h2
  ·exact S.disjG i j li l k hi' hl hne h1 (hg▸h2)
  ·exact S.disjG i j li lj k hi' hj' hne h1 h2
def MO.gn:MO->Option Gn | .gen g=>some g |_=>none
theorem gn_mo{m:Option MO}{g:Gn}(e:m.bind MO.gn=some g):m=some (.gen g):=by
 refine xEA (Option.bind_eq_some_iff.mp e) λm z101 h2=>?_;subst z101
 cases m with
 |gen g=>cases h2;rfl
 |_=>cases h2
def GFn.finK(gi:Nat)(Q:Option V->MH->Prop):k7->MH->Prop:=λo H1=>H1[gi]? =some (.gen .run)/\match o with
 | .yl it lo v=>Q (some v) (H1.set gi (.gen (.loop it lo)))
 | .yr lo v=>Q (some v) (H1.set gi (.gen (.last lo)))
 | .done=>Q none (H1.set gi (.gen .fin))
def GFn.nxG(g:GFn)(gi:Nat)(H:MH)(Q:Option V->MH->Prop):Gn->Prop
 | .fresh lo=>g.start lo (H.set gi (.gen .run)) (GFn.finK gi Q)
 | .loop it lo=>g.more it lo (H.set gi (.gen .run)) (GFn.finK gi Q)
 | .last lo=>Q none (H.set gi (.gen .fin))
 | .fin=>Q none H
 | .run=>False
def GFn.nx(g:GFn)(gi:Nat)(H:MH)(Q:Option V->MH->Prop):Prop:=Lf (H[gi]?.bind MO.gn) λgn=>g.nxG gi H Q gn
theorem Fm.ofFrm{G:GSh}(hG:GCx C G){ρ:List Lc}{s:Shared}{L:Addr}{lo:Lo}(h:e9 G ρ s L lo)(ho: ¬Own ρ L)(hb:C.base.heap.get? L=none):Fm C (G.envL L) ρ s lo:=by
 refine xEA h λm hn hm=>?_
 have hc:∀ x c,(G.envL L).cells.lookup x=some c->False:=λx c e=>by rw[hG.cells]at e;cases e
 refine⟨hG.kind,hG.gl,hG.bi,⟨m,hn,hm⟩,λx hx=>?_,λb hb'=>?_,λx c e=>(hc x c e).elim,λx y c e=>(hc x c e).elim,λb hb'=>?_⟩
 ·refine Or.elim hx (λhx=>?_) λhx=>?_
  ·exact absurd hx (hG.loc L x).1
  ·exact absurd hx (hG.loc L x).2
 ·rcases hb' with rfl |⟨x,e⟩
  ·exact⟨ho,hb⟩
  ·exact(hc x b e).elim
 ·rcases hb' with rfl |⟨x,e⟩
  ·refine iA hn λo _ _ g _=>?_;exact⟨o,g⟩
  ·exact(hc x b e).elim
theorem Fm.frm{G:GSh}{ρ:List Lc}{s:Shared}{L:Addr}{lo:Lo}(F:Fm C (G.envL L) ρ s lo):e9 G ρ s L lo:=F.ns
theorem wJ{prog:Program}{w:World}{A:Around}{E:Value->Shared->Prop}{s:Shared}{α β:Type}{k':β->Sem α}{R:α->Shared->Prop}(hh:A.handled=none)
  (hE:∀ x h',(∃ o,h'.get? x=some o/\o.cls= .type "StopIteration")->(∀ b o,s.heap.get? b=some o->h'.get? b=some o)->E (.ref x) {s with heap:=h'}):
  wpAny (model prog w) A (newExc (.type "StopIteration") [] >>=λx=>(raiseNew x:Sem β) >>=k') R E s:=by
 refine wpAny_bind ?_
 simp only[newExc,newTuple]
 refine wpAny_bind (wpAny_newObj_type ?_ (by size_fits))
 refine wpAny_bind (m:=firstArgMember _ _) (wpAny_of_eq (a:=Value.none) (by first |rfl | (simp only[firstArgMember];rfl)) ?_)
 refine wpAny_newObj_type ?_ (by size_fits)
 refine wpAny_bind ?_
 simp only[raiseNew]
 refine wpAny_bind (wpAny_handled ?_)
 rw [hh]
 refine wpAny_bind (wpAny_pure (wpAny_throw ?_))
 exact hE _ _ ⟨_,Heap.get?_push_size _ rfl,rfl⟩ (λb o hb=>Heap.get?_push_of_some _ (Heap.get?_push_of_some _ hb))
theorem Sim.extS{H:MH}{ρ:List Lc}{s:Shared}{h':Heap}(S:Sim C H ρ s)(hk:∀ b o,s.heap.get? b=some o->h'.get? b=some o):Sim C H ρ {s with heap:=h'}:=S.ext (k:=s.toks) hk
structure GAt(C:Cx)(G:GSh)(H:MH)(ρ:List Lc)(s:Shared)(gi gk:Nat)(l:Lc):Prop where
 S:Sim C H ρ s
 hl:ρ[gi]? =some l
 hH:∃ gn,H[gi]? =some (.gen gn)
 hg:l.g=some gk
 ho:∃ nm qn,s.heap.get? l.a=some {cls:=.type "generator",data:=.fields #[.int (gk:Nat) 0,nm,qn]}
 base:C.base.heap.get? l.a=none/\C.base.heap.get? l.d=none
 ne:l.d≠l.a
 hL:∃ oL,s.heap.get? l.d=some oL
noncomputable abbrev lrun(l:Lc):Lc:= {l with d:=l.a}
theorem GAt.run{G:GSh}(hG:GCx C G){s:Shared}{ρ:List Lc}{H:MH}{gi gk:Nat}{l:Lc}{gs:GenState}(a:GAt C G H ρ s gi gk l)(hgs:s.gens[gk]? =some gs):
  Sim C (H.set gi (.gen .run)) (ρ.set gi (lrun l)) (s.setGen gk .running)/\¬Own (ρ.set gi (lrun l)) l.d/\i7 ρ (ρ.set gi (lrun l)):=by
 refine xEE a.ho λnm qn ho=>?_
 refine xE a.hH λgn hH=>?_
 have hlt:gi<ρ.length:=(List.getElem?_eq_some_iff.mp a.hl).1
 refine⟨a.S.swapG hG (l':=lrun l) a.hl hH rfl rfl a.hg rfl (.inl rfl) ⟨gk,nm,qn,a.hg,ho,rfl,eY hgs⟩,?_,lF a.hl rfl⟩
 rintro ⟨x,hx,hb⟩
 refine xE (List.getElem?_of_mem hx) λi hi=>?_
 by_cases q:i=gi
 ·subst q
  rw [List.getElem?_set_self hlt]at hi;cases hi
  refine Or.elim hb (λz=>?_) λz=>?_<;>exact a.ne z
 ·rw[List.getElem?_set_ne (Ne.symm q)]at hi
  exact a.S.disj gi i l x a.hl hi (Ne.symm q) _ (.inr rfl) hb
theorem GAt.back{G:GSh}(hG:GCx C G){s:Shared}{ρ:List Lc}{H:MH}{gi gk:Nat}{l:Lc}(a:GAt C G H ρ s gi gk l)(hown: ¬Own (ρ.set gi (lrun l)) l.d)
  {ρ1:List Lc}{s1:Shared}{H1:MH}{gs:GenState}{gn':Gn} (N:Nx (ρ.set gi (lrun l)) (Wr (G.envL l.d)) (s.setGen gk .running) ρ1 s1) (S1:Sim C H1 ρ1 s1) (hH1:H1[gi]? =some (.gen .run)) (hbare:gs.bare=true)
  (hnew:∀ nm qn,s1.heap.get? l.a=some {cls:=.type "generator",data:=.fields #[.int (gk:Nat) 0,nm,qn]}->i7 ρ1 (ρ1.set gi l)->(∃ y,s1.gens[gk]? =some y)->eB G (ρ1.set gi l) (s1.setGen gk gs) l gn'):
  Sim C (H1.set gi (.gen gn')) (ρ1.set gi l) (s1.setGen gk gs)/\Nx ρ noW s (ρ1.set gi l) (s1.setGen gk gs)/\i7 ρ1 (ρ1.set gi l):=by
 have hlt:gi<ρ.length:=(List.getElem?_eq_some_iff.mp a.hl).1
 have hl1:ρ1[gi]? =some (lrun l):=aL N.pre (by rw[List.getElem?_set_self hlt])
 have sa:i7 ρ1 (ρ1.set gi l):=lF hl1 rfl
 have o1:eB G ρ1 s1 (lrun l) .run:=by have:=S1.objs gi _ _ hH1 hl1;rw[<-hG.gr];exact this
 refine cW o1 λgk' nm' qn' hg' ho' _ hrun=>?_
 obtain rfl:gk'=gk:=Option.some.inj (hg'.symm.trans a.hg)
 refine xE a.hL λoL hoL=>?_
 refine⟨S1.swapG hG hl1 hH1 rfl rfl a.hg hbare (.inr (.inr ⟨N.own hoL hown,a.base.2⟩)) (hnew nm' qn' ho' sa ⟨_,hrun⟩),?_,sa⟩
 refine xE N.pre λt ht=>?_
 have hpre:ρ1.set gi l=ρ++t:=by
  rw [<-ht,List.set_append_left _ _ (by simpa using hlt),List.set_set]
  refine xE (List.getElem?_eq_some_iff.mp a.hl) λhh e=>?_
  rw [<-e,List.set_getElem_self]
 refine⟨⟨t,hpre.symm⟩,λx hx=>?_,λb o e ho' _=>?_,N.imm,λb o e=>N.al b o e⟩
 ·rw[hpre,List.drop_left]at hx
  refine N.new x ?_
  rw [<-ht,List.drop_left];exact hx
 ·refine N.kp b o e ?_ ?_
  ·rintro ⟨x,hx,hb⟩
   refine xE (List.getElem?_of_mem hx) λi hi=>?_
   by_cases q:i=gi
   ·subst q
    rw [List.getElem?_set_self hlt]at hi;cases hi
    exact ho' ⟨l,List.mem_of_getElem? a.hl,hb.elim .inl .inl⟩
   ·rw[List.getElem?_set_ne (Ne.symm q)]at hi
    exact ho' ⟨x,List.mem_of_getElem? hi,hb⟩
  ·rintro (rfl |⟨x,hx⟩)
   ·exact ho' ⟨l,List.mem_of_getElem? a.hl,.inr rfl⟩
   ·rw[hG.cells]at hx;cases hx
inductive l6(C:Cx)(gi:Nat)(ρ:List Lc)(s:Shared)(Q:Option V->MH->Prop):Option Value->Shared->Prop
 |item {u v ρ' s' H'} (S:Sim C H' ρ' s') (N:Nx ρ noW s ρ' s') (r:VR ρ' s'.heap u v) (hg:∃ gn,H'[gi]? =some (.gen gn)) (q:Q (some v) H'):l6 C gi ρ s Q (some u) s'
 |done {ρ' s' H'} (S:Sim C H' ρ' s') (N:Nx ρ noW s ρ' s') (q:Q none H'):l6 C gi ρ s Q none s'
theorem l6.ext{gi:Nat}{ρ:List Lc}{s s1:Shared}{Q:Option V->MH->Prop}{h':Heap}(h:l6 C gi ρ s Q none s1)(hk:∀ b o,s1.heap.get? b=some o->h'.get? b=some o):l6 C gi ρ s Q none {s1 with heap:=h'}:=by
 cases h with
 |done S N q=>exact .done (S.extS hk) (N.trans (.ext (k:=s1.toks) hk)) q
structure Wk(C:Cx)(A:Around)(P:Option Value->Shared->Prop)(Q:PySem.Fin->Shared->Prop)(E:Value->Shared->Prop)(kk:GenResult->Sem PySem.Fin):Prop where
 y:∀ v,kk (.yielded v)=ret v
 r:∃ k':PUnit->Sem PySem.Fin,kk (.returned .none)=(newExc (.type "StopIteration") [] >>=λx=>(raiseNew x:Sem PUnit) >>=k')
 h1:∀ u s',P (some u) s'->Q (.done (.ret u)) s'
 h2:∀ x h' s1,P none s1->(∃ o,h'.get? x=some o/\o.cls= .type "StopIteration")->(∀ b o,s1.heap.get? b=some o->h'.get? b=some o)->E (.ref x) {s1 with heap:=h'}
theorem GAt.main{G:GSh}(hG:GCx C G){A:Around}{s:Shared}{ρ:List Lc}{H:MH}{gi gk:Nat}{l:Lc}{gs:GenState}{Q0:Option V->MH->Prop}(hr:A.handled=none)(a:GAt C G H ρ s gi gk l)(hown: ¬Own (ρ.set gi (lrun l)) l.d)(hgs:s.gens[gk]? =some gs)
  (hgo:aEg C.M A (GΦ C G (G.envL l.d) (ρ.set gi (lrun l)) (s.setGen gk .running) (GFn.finK gi Q0)) (.send .none) (s.setGen gk .running) gs)
  {Q:PySem.Fin->Shared->Prop}{E:Value->Shared->Prop}{kk:GenResult->Sem PySem.Fin} (W:Wk C A (l6 C gi ρ s Q0) Q E kk):wpAny C.M A (.resume gk (.send .none) [] kk) Q E s:=by
 have frs:∀ {ρ1:List Lc}{s1:Shared}{lo:Lo}{gs':GenState},i7 ρ1 (ρ1.set gi l)->Fm C (G.envL l.d) ρ1 s1 lo->e9 G (ρ1.set gi l) (s1.setGen gk gs') l.d lo:=λsa F=>
  let ⟨m,hn,hm⟩:=F.frm;⟨m,hn,λx hx=>(hm x hx).sameA sa⟩
 refine uQ hgs hgo λe s1 hΦ=>?_
 cases hΦ with
 |yl S1 N1 hk hli ru Fu q=>
  refine⟨rfl,?_⟩
  rename_i li u l' k p p'
  have B:=a.back hG hown (gs:=.suspended k l' (G.loopC (G.envL l.d) (.ref li.a)) p (G.fs1 (G.envL l.d) p') false) (gn':=.loop _ _) N1 S1 q.1 rfl (λnm qn ho' sa ⟨y,hy⟩=>by
   refine xEA (sa _ li hli) λli' e1 e2=>?_
   exact⟨gk,nm,qn,a.hg,ho',a.ne,frs sa Fu,li',k,l',p,p',e1,by rw[e2];exact hk,by rw[e2];exact eY hy⟩)
  show wpAny C.M A (kk (.yielded u)) Q E _
  rw [W.y]
  exact wpAny_pure (W.h1 u _ (.item B.1 B.2.1 (ru.sameA B.2.2) ⟨_,List.getElem?_set_self (List.getElem?_eq_some_iff.mp q.1).1⟩ q.2))
 |yr S1 N1 hk ru Fu q=>
  refine⟨rfl,?_⟩
  rename_i u l' k p
  have B:=a.back hG hown (gs:=.suspended k l' (.func G.body (G.envL l.d)) p [] false) (gn':=.last _) N1 S1 q.1 rfl (λnm qn ho' sa ⟨y,hy⟩=>⟨gk,nm,qn,a.hg,ho',a.ne,frs sa Fu,k,l',p,hk,eY hy⟩)
  show wpAny C.M A (kk (.yielded u)) Q E _
  rw [W.y]
  exact wpAny_pure (W.h1 u _ (.item B.1 B.2.1 (ru.sameA B.2.2) ⟨_,List.getElem?_set_self (List.getElem?_eq_some_iff.mp q.1).1⟩ q.2))
 |done S1 N1 hD q=>
  refine⟨rfl,?_⟩
  have B:=a.back hG hown (gs:=.finished) (gn':=.fin) N1 S1 q.1 rfl (λnm qn ho' sa ⟨y,hy⟩=>⟨gk,nm,qn,a.hg,ho',a.ne,hD,eY hy⟩)
  show wpAny C.M A (kk (.returned .none)) Q E (s1.setGen gk .finished)
  refine xE W.r λk' hk2=>?_
  rw [hk2]
  exact wJ hr λx h' hx hk=>W.h2 x h' _ (.done B.1 B.2.1 q.2) hx hk
theorem tQ{A:Around}{s:Shared}{a:Addr}{gk:Nat}{gs:GenState}{Q:Option Value->Shared->Prop}(hIs:s.heap.IsGen a gk)(hgs:s.gens[gk]? =some gs)
  (h:wpAny C.M A.in1 (Builtin.Generator.genWake (.ref a) (.send .none)) (λfin s'=>∃ u,fin= .done (.ret u)/\Q (some u) s') (λe s'=>∃ x,e= .ref x/\(∃ o,s'.heap.get? x=some o/\o.cls= .type "StopIteration")/\Q none s') s):wpAny C.M A (pyNext (.ref a)) Q NoE s:=by
 unfold pyNext
 refine wpAny_bind (wpAny_attempt (wpAny_callSpecial?_slot (name:=Str.ofString "__next__") hIs.typeIs slot_gen_next
  (wpAny_call_entry slot_gen_next hIs.typeIs entry_gen_next (wpAny_mono h (λfin s' h=>?_) λe s' h=>?_) (args_gen_next _))))
 ·obtain⟨u,rfl,h⟩:=h
  exact⟨u,rfl,wpAny_pure h⟩
 ·obtain⟨x,rfl,⟨o,ho2,hc2⟩,h⟩:=h
  exact wpAny_bind (wpAny_isInstance (T:="StopIteration") (b:=true) ⟨o,ho2,hc2⟩ isSubtype_stop (wpAny_pure h))
theorem GAt.wake{G:GSh}(hG:GCx C G){A:Around}{s:Shared}{ρ:List Lc}{H:MH}{gi gk:Nat}{l:Lc}{gs:GenState}{Q0:Option V->MH->Prop}(hr:Room (r+2) A)(a:GAt C G H ρ s gi gk l)(hown: ¬Own (ρ.set gi (lrun l)) l.d)(hgs:s.gens[gk]? =some gs)
  (hgo:aEg C.M A.in1 (GΦ C G (G.envL l.d) (ρ.set gi (lrun l)) (s.setGen gk .running) (GFn.finK gi Q0)) (.send .none) (s.setGen gk .running) gs):wpAny C.M A (pyNext (.ref l.a)) (l6 C gi ρ s Q0) NoE s:=by
 refine xEE a.ho λnm qn ho=>?_
 have hIs:s.heap.IsGen l.a gk:=⟨_,nm,qn,ho,rfl,rfl,rfl⟩
 refine tQ hIs hgs ?_
 unfold Builtin.Generator.genWake
 refine wpAny_bind (wpAny_holding (wpAny_genNumber hIs (wpAny_bind (wpAny_genState hgs ?_))))
 cases gs with
 |running=>exact hgo.elim
 |finished=>exact hgo.elim
 |_=>
  refine wpAny_bind (wpAny_roomToWake (C.lim.keeps a.S.keep) hr.lt ?_)
  show wpAny _ A.in1 (.resume gk (.send .none) [] _) _ _ s
  exact GAt.main (A:=A.in1) hG (show A.in1.handled=none from hr.1) a hown hgs hgo ⟨λ_=>rfl,⟨_,rfl⟩,λu s' hp=>⟨u,rfl,hp⟩,λx h' s1 hp hx hk=>⟨x,rfl,hx,hp.ext hk⟩⟩
theorem Room.in1{A:Around}(hr:Room (r+2) A):Room (r+1) A.in1:=⟨hr.1,by have:=hr.2.1;show A.depth+10*(r+1)<=700;exact A38 this,by have:=hr.2.2;show A.units+1+40*(r+1)<=8000;exact A39 this⟩
theorem aCw{G:GSh}{g:GFn}(hG:GCx C G)(VV:∀ L,GV C r G g (G.envL L)){A:Around}{s:Shared}{ρ:List Lc}{H:MH}{gi:Nat}{l:Lc}{Q:Option V->MH->Prop}(hr:Room (r+2) A)(S:Sim C H ρ s)(hl:ρ[gi]? =some l)
  (e:g.nx gi H Q):wpAny C.M A (pyNext (.ref l.a)) (l6 C gi ρ s Q) NoE s:=by
 refine e.elim λgn hH e=>?_
 have hH:=gn_mo hH
 have o:eB G ρ s l gn:=by have:=S.objs gi _ l hH hl;rw[<-hG.gr];exact this
 refine fC o λgk nm qn hg ho hm=>?_
 have hbase:C.base.heap.get? l.a=none/\C.base.heap.get? l.d=none:=by
  rcases S.ro gi l hl with ⟨vs,e⟩ |e
  ·rw[hH]at e;cases e
  ·exact e
 have mk:∀ {lo},l.d≠l.a->e9 G ρ s l.d lo->GAt C G H ρ s gi gk l:=λhne hfr=>⟨S,hl,⟨_,hH⟩,hg,⟨nm,qn,ho⟩,hbase,hne,let ⟨m,⟨o,_,_,g,_⟩,_⟩:=hfr;⟨o,g⟩⟩
 have fm:∀ {lo},i7 ρ (ρ.set gi (lrun l))->e9 G ρ s l.d lo->¬Own (ρ.set gi (lrun l)) l.d->Fm C (G.envL l.d) (ρ.set gi (lrun l)) (s.setGen gk .running) lo:=λsa hfr hown=>
  Fm.ofFrm hG (let ⟨m,hn,hm⟩:=hfr;⟨m,hn,λx hx=>(hm x hx).sameA sa⟩) hown hbase.2
 cases gn with
 |fresh lo=>
  refine xAA hm λhne hfr hgs=>?_
  refine xAA ((mk hne hfr).run hG hgs) λS1 hown sa=>?_
  exact(mk hne hfr).wake hG hr hown hgs ⟨rfl,y4 (VV l.d) hr.in1 .refl S1 (fm sa hfr hown) e⟩
 |loop it lo=>
  refine gY hm λhne hfr li k l' p p' hli hk hgs=>?_
  refine xAA ((mk hne hfr).run hG hgs) λS1 hown sa=>?_
  refine xEA (sa it li hli) λli' e1 e2=>?_
  refine(mk hne hfr).wake hG hr hown hgs ?_
  show Sg C.M A.in1 _ (k (.send .none)) _ _ _
  rw [hk,<-e2]
  exact aCu (VV l.d) hr.in1 .refl S1 (fm sa hfr hown) e1 e
 |last lo=>
  refine qO hm λhne hfr k l' p hk hgs=>?_
  refine xAA ((mk hne hfr).run hG hgs) λS1 hown sa=>?_
  refine(mk hne hfr).wake hG hr hown hgs ?_
  show Sg C.M A.in1 _ (k (.send .none)) _ _ _
  rw [hk]
  exact aCv .refl S1 (fm sa hfr hown) ⟨List.getElem?_set_self (List.getElem?_eq_some_iff.mp hH).1,by rw[List.set_set];exact e⟩
 |run=>exact e.elim
 |fin=>
  refine xAA hm λhne _ hgs=>?_
  have hIs:s.heap.IsGen l.a gk:=⟨_,nm,qn,ho,rfl,rfl,rfl⟩
  refine tQ hIs hgs ?_
  unfold Builtin.Generator.genWake
  refine wpAny_bind (wpAny_holding (wpAny_genNumber hIs (wpAny_bind (wpAny_genState hgs ?_))))
  have W:∀ {kk:GenResult->Sem PySem.Fin}{Q:PySem.Fin->Shared->Prop}{E:Value->Shared->Prop},wpAny C.M A.in1 (kk .finished) Q E s->wpAny C.M A.in1 (.resume gk (.send .none) [] kk) Q E s:=by
   intro kk Q E h Γ p hΓ
   rw [Sem.wp_resume]
   exact⟨.finished,s,by unfold Wakes;rw[hgs];exact⟨rfl,rfl⟩,h Γ p hΓ⟩
  show wpAny _ A.in1 (.resume gk (.send .none) [] _) _ _ s
  refine W ?_
  have e2:(newExc (.type "StopIteration") [] >>=λx=>(raiseNew x:Sem PySem.Fin))=(newExc (.type "StopIteration") [] >>=λx=>(raiseNew x:Sem PySem.Fin) >>=λy=>(pure y:Sem PySem.Fin)):=by simp
  show wpAny C.M A.in1 (newExc (.type "StopIteration") [] >>=λx=>(raiseNew x:Sem PySem.Fin)) _ _ s
  rw [e2]
  exact wJ hr.1 λx h' hx hk=>⟨x,rfl,hx,.done (S.extS hk) (.ext (k:=s.toks) hk) e⟩
end
section
variable {C:Cx}{r:Nat}{env:Env}
theorem g_lt{G:GSh}(hG:GCx C G){H:MH}{ρ:List Lc}{s:Shared}{i k:Nat}{l:Lc}(S:Sim C H ρ s)(hl:ρ[i]? =some l)(hk:l.g=some k):k<s.gens.size:=by
 have hlt:i<H.length:=by rw[<-S.len];exact(List.getElem?_eq_some_iff.mp hl).1
 have o:=S.objs i H[i] l (List.getElem?_eq_getElem hlt) hl
 revert o
 cases H[i] with
 |list vs=>rintro ⟨_,g,_⟩;rw[g]at hk;cases hk
 |ro vs=>rintro ⟨_,g,_⟩;rw[g]at hk;cases hk
 |dict n f=>rintro ⟨_,g,_⟩;rw[g]at hk;cases hk
 |eset=>rintro ⟨_,g,_⟩;rw[g]at hk;cases hk
 |inst fs=>rintro ⟨g,_⟩;rw[g]at hk;cases hk
 |itr p=>
  cases p with
  |none=>rintro ⟨_,g,_⟩;rw[g]at hk;cases hk
  |some p=>rintro ⟨_,g,_⟩;rw[g]at hk;cases hk
 |gen gn=>
  intro o
  have o':eB G ρ s l gn:=by rw[<-hG.gr];exact o
  refine fC o' λg nm qn hg ho hm=>?_
  obtain rfl:g=k:=by rw[hg]at hk;exact Option.some.inj hk
  have sz:∀ {x},s.gens[g]? =some x->g<s.gens.size:=λ{x} e=>by
   refine Or.elim (Nat.lt_or_ge g s.gens.size) (λq=>?_) λq=>?_
   ·exact q
   ·rw[Array.getElem?_eq_none q]at e;cases e
  cases gn with
  |fresh lo=>exact sz hm.2.2
  |loop it lo=>refine gY hm λ_ _ _ _ _ _ _ _ _ z=>?_;exact sz z
  |last lo=>refine qO hm λ_ _ _ _ _ _ z=>?_;exact sz z
  |run=>exact sz hm.2
  |fin=>exact sz hm.2.2
def cGen(names:List Str)(more:List V):CF:=λvs H Q=>(vs++more).length=names.length/\Q (.ref H.length) (H++[.gen (.fresh (loB names (vs++more) lo0))])
theorem CV.gen{G:GSh}(hG:GCx C G)(D:Def C G.fa G.fd G.body){names:List Str}{dflt:List Value}{more:List V}(hgen:G.fd.scope.isGenerator=true)(hb:Binds C G.fd names dflt)(hd:∀ ρ h,VRs ρ h dflt more)
  (hn:∀ x∈names,G.fd.scope.names.lookup x=some .local):CV C (r+1) (.ref G.fa) (cGen names more):=by
 refine xEA D.obj λo ho hdata=>?_
 refine CC.cv ho hdata ?_
 intro A s ρ H us vs Q hr S hu e
 refine xA e λhlen q=>?_
 have hu':VRs ρ s.heap (us++dflt) (vs++more):=hu.append (hd _ _)
 have hlen':(us++dflt).length=names.length:=hu'.length.trans hlen
 refine codeAny_call_generator hr.lt (S.keep _ _ ho) hdata D.co hgen D.body (D.code.keeps S.keep) (hb s us S.keep hlen' _ _ _ _ ?_)
 rw [D.clo]
 refine wpAny_newFunctionEnv_cells D.kind (λx hx=>.inl (hn x.1 (List.of_mem_zip hx).1)) λenv he s1 I=>?_
 subst he
 refine xAAA (Fm.call D S hu' hlen' (λx hx=>.inl (hn x hx)) I) λS1 N1 F1 hfr=>?_
 refine⟨(C.lim.keeps S.keep).keeps I.toInCall.keep,?_⟩
 refine xEE I.toInCall.same λh1 tk1 e1=>?_
 refine xEA F1.ns λm hns hm=>?_
 have hLne:s.heap.objs.size≠s1.heap.objs.size:=λq=>by
  refine iA hns λo _ _ g _=>?_
  have:=Heap.lt_size g
  have h2:(callEnvC G.fd s.heap.objs.size G.fa).locals=s.heap.objs.size:=rfl
  rw [h2,q]at this
  exact Nat.lt_irrefl _ this
 have hgs:s1.gens=s.gens:=by rw[e1]
 have keepG:∀ b o,s1.heap.get? b=some o->(s1.heap.push {cls:=.type "generator",data:=.fields #[.int s1.gens.size 0,.str G.fd.name s1.toks,.str G.fd.qualname (s1.toks+1)]}).get? b=some o:=λb o e=>Heap.get?_push_of_some _ e
 have kall:∀ b o,s.heap.get? b=some o->(s1.heap.push {cls:=.type "generator",data:=.fields #[.int s1.gens.size 0,.str G.fd.name s1.toks,.str G.fd.qualname (s1.toks+1)]}).get? b=some o:=λb o e=>keepG b o (I.toInCall.keep b o e)
 have hka:s.heap.get? s1.heap.objs.size=none:=by
  cases q:s.heap.get? s1.heap.objs.size with
  |none=>rfl
  |some o=>have:=I.toInCall.keep _ _ q;rw[bG]at this;cases this
 have SN:=S.new (s':= {s1 with gens:=s1.gens.push (.fresh (.func G.body (callEnvC G.fd s.heap.objs.size G.fa))),toks:=s1.toks+1+1,heap:=s1.heap.push {cls:=.type "generator",data:=.fields #[.int s1.gens.size 0,.str G.fd.name s1.toks,.str G.fd.qualname (s1.toks+1)]}})
  (l:=⟨s1.heap.objs.size,s.heap.objs.size,some s.gens.size⟩) (m:=.gen (.fresh (loB names (vs++more) lo0))) kall (λk x e=>by
   have hlt:k<s.gens.size:=by
    refine Or.elim (Nat.lt_or_ge k s.gens.size) (λq=>?_) λq=>?_
    ·exact q
    ·rw[Array.getElem?_eq_none q]at e;cases e
   show(s1.gens.push _)[k]? =some x
   rw [hgs,Array.getElem?_push,if_neg (Nat.ne_of_lt hlt)];exact e) (by rw[e1]) (by rw[hgs];exact S.bare.push rfl) hka (bG _)
  (λk e l' hl' e'=>by
   refine xE (List.getElem?_of_mem hl') λi hi=>?_
   have:=g_lt hG S hi e';cases e;exact Nat.lt_irrefl _ this)
  (by
   show C.GR _ _ _ _
   rw [hG.gr]
   exact⟨s.gens.size,.str G.fd.name s1.toks,.str G.fd.qualname (s1.toks+1),rfl,by rw[<-hgs];exact Heap.get?_push_size _ rfl,hLne,⟨m,hns.keeps keepG,λx hx=>(hm x hx).mono (List.prefix_append _ _) (d3 keepG)⟩,by rw[hgs];simp;rfl⟩)
 exact⟨SN.1,SN.2 _,VR.ref (l:=⟨s1.heap.objs.size,s.heap.objs.size,some s.gens.size⟩) S.last,q⟩
theorem tP{G:GSh}(hG:GCx C G){H:MH}{ρ:List Lc}{s:Shared}{gi:Nat}{l:Lc}{gn:Gn}(S:Sim C H ρ s)(hl:ρ[gi]? =some l)(hH:H[gi]? =some (.gen gn)):∃ k,s.heap.IsGen l.a k:=by
 have o:eB G ρ s l gn:=by have:=S.objs gi _ l hH hl;rw[<-hG.gr];exact this
 refine fC o λgk nm qn hg ho hm=>?_
 exact⟨gk,_,nm,qn,ho,rfl,rfl,rfl⟩
inductive GnM{C:Cx}(ρ:List Lc)(s:Shared)(gi:Nat):Value->(Addr->Prop)->Prop
 |mk {l k} (h1:ρ[gi]? =some l) (h2:s.heap.IsGen l.a k):GnM ρ s gi (.ref l.a) (λ_=>False)
def nR{G:GSh}{g:GFn}(hG:GCx C G)(r0:Nat)(VV:∀ L,GV C r0 G g (G.envL L)):ItK C where
 σ:=Nat
 nx:=λgi H Q=>g.nx gi H λo H'=>Q (o.map λv=>(v,gi)) H'
 rel:=λρ s gi x X=>∃ l,ρ[gi]? =some l/\x= .ref l.a/\X=λ_=>False
 mid:=λρ s gi u x X=>GnM (C:=C) ρ s gi x X
 tg:=λ_=>True
 need:=r0+2
 mono:=λ⟨l,h1,h2,h3⟩ e i hk=>⟨l,aL e h1,h2,h3⟩
 alive:=λ⟨l,h1,h2,h3⟩ b hb=>by subst h3;exact hb.elim
 next:=by
  rintro A s ρ H gi x X Q r hnd hr S ⟨l,hl,rfl,rfl⟩ hX e
  have hr':Room (r0+2) A:=by
   refine xAA hr λh1 h2 h3=>?_
   exact⟨h1,A40 hnd h2,A41 hnd h3⟩
  have nxi:∀ {ρ' s'},Nx ρ noW s ρ' s'->NxI ρ (λ_=>False) s ρ' s':=λN=>⟨N.pre,N.new,N.kp,N.imm,λb o e _=>N.al b o e⟩
  refine wmN (aCw hG VV hr' S hl e) λo s' p=>?_
  cases p with
  |item S' N' r' hg q=>
   refine xE hg λgn hH=>?_
   refine xE (tP hG S' (aL N'.pre hl) hH) λk hk=>?_
   exact .item S' (nxi N') r' (.mk (aL N'.pre hl) hk) q
  |done S' N' q=>exact .done S' (nxi N') q
 lgo:=by
  rintro A s ρ H it x X u target r hr S M _ hX
  cases M with
  |mk h1 h2=>
   refine fC h2 λo nm qn h2 h3 _=>?_
   exact i9 (T:="generator") h2 h3 (by decide) ⟨S,.refl,_,h1,rfl,rfl⟩
def dQ(K:ItK C)(ai:Nat):Nat->K.σ->MH->(MH->Prop)->Prop
 |0,_,_,_=>False
 |n+1,it,H,Q=>K.nx it H λres H1=>match res with
  |none=>Q H1
  |some p=>Lf (H1[ai]?.bind MO.own) λvs=>vs.length<1000000/\dQ K ai n p.2 (H1.set ai (.list (vs++[p.1]))) Q
inductive XEnd(C:Cx)(ρ0:List Lc)(s0:Shared)(ai:Nat)(l:Lc)(Q:MH->Prop)(s':Shared):Prop
 |mk {ρ' H'} (S:Sim C H' ρ' s') (N:Nx ρ0 noW s0 ρ' s') (hl:ρ'[ai]? =some l) (q:Q H'):XEnd C ρ0 s0 ai l Q s'
theorem uD{K:ItK C}{ai:Nat}{l:Lc}{res:Value}(hneed:K.need<=r)(hlg:∀ {ρ s it x X u},K.mid ρ s it u x X->K.rel ρ s it x X):
  ∀ (n:Nat){A:Around}{s0 s:Shared}{ρ0 ρ:List Lc}{H:MH}{it:K.σ}{x:Value}{X:Addr->Prop}{Q:MH->Prop},Room r A.in1->ρ[ai]? =some l->Nx ρ0 noW s0 ρ s->Sim C H ρ s->
   K.rel ρ s it x X->(∀ b,X b->s0.heap.get? b=none/\¬Own ρ b/\C.base.heap.get? b=none)->dQ K ai n it H Q->
   codeAny C.M A (.builtin "list.extend.loop" ⟨[.ref l.a,x,res],[]⟩) (λrr s'=>rr= .ok (.ret res)/\XEnd C ρ0 s0 ai l Q s') s
 |0,_,_,_,_,_,_,_,_,_,_,_,_,_,_,_,_,e=>e.elim
 |n+1,A,s0,s,ρ0,ρ,H,it,x,X,Q,hr,hl,N,S,R,hX,e=>by
  refine codeAny_builtin PySem.F.entry_extend_loop ?_
  rw [Around.under_plainId PySem.F.plain_extend_loop _]
  show wpAny _ A.in1 (pyNext x >>=_) _ _ s
  refine wpAny_bind (wmN (K.next hneed hr S R (λb q=>⟨(hX b q).2.1,(hX b q).2.2⟩) e) λo s1 p=>?_)
  cases p with
  |done S1 I1 q=>exact wpAny_pure ⟨rfl,S1,N.stepI I1 (λb q=>(hX b q).1),aL I1.pre hl,q⟩
  |item S1 I1 ru R1 q=>
   refine q.elim λvs hv q=>?_
   refine xEE (g8 S1 (aL I1.pre hl) (jL hv)) λxs nn O=>?_
   have hsz:=O.r.sz
   have hlen:=q.1
   have hz:xs.size<=sizeLine:=by rw[sizeLine_eq];exact A33 hsz hlen
   have hX1:∀ b,X b->¬Own _ b:=λb q=>let ⟨o',e'⟩:=K.alive R b q;I1.owns e' (hX b q).2.1
   show wpAny _ A.in1 (updateSeq l.a (·.push _) >>=_) _ _ s1
   refine wpAny_bind (wpAny_updateSeq O.x rfl (wpAny_pure ?_) hz (by rw[Array.size_push];exact Nat.succ_le_succ hz))
   have st:=O.put (k:=s1.toks) S1 (λxs=>xs.push _) (by simpa using O.r.append (.cons ru .nil))
   have N2:Nx _ noW s1 _ _:=st.2 noW
   exact⟨plainId_quiet PySem.F.plain_extend_loop _,uD hneed hlg n hr (aL I1.pre hl) ((N.stepI I1 (λb q=>(hX b q).1)).trans N2) st.1 (K.mono (hlg R1) N2.pre N2.imm (λb o q e'=>N2.kp b o e' (hX1 b q) (λz=>z))) (λb q=>⟨(hX b q).1,hX1 b q,(hX b q).2.2⟩) q.2⟩
theorem nil_of{ρ:List Lc}{h:Heap}{xs:Array Value}(r:VRs ρ h xs.toList []):xs= #[]:=Array.eq_empty_of_size_eq_zero r.sz
theorem nQ{H:MH}{ρ:List Lc}{s:Shared}{la:Lc}{vs:List V}(S:Sim C (H++[.list vs]) ρ s)(hla:ρ[H.length]? =some la):∃ xs n,i8 (H++[.list vs]) ρ s H.length la vs xs n:=g8 S hla (by simp)
theorem nO{H:MH}{ρ:List Lc}{s:Shared}{la:Lc}{vs vs':List V}{xs:Array Value}{n:Nat}(S:Sim C (H++[.list vs]) ρ s)(O:i8 (H++[.list vs]) ρ s H.length la vs xs n)(f:Array Value->Array Value)(hv:VRs ρ s.heap (f xs).toList vs'):
  Sim C (H++[.list vs']) ρ {s with heap:=s.heap.update la.a (Obj.mapSeq f)}/\Nx ρ noW s ρ {s with heap:=s.heap.update la.a (Obj.mapSeq f)}:=by
 have st:=O.put (k:=s.toks) S f hv
 have e3:(H++[MO.list vs]).set H.length (MO.list vs')=H++[MO.list vs']:=by simp
 rw [e3]at st
 exact⟨st.1,st.2 _⟩
theorem qC{K:ItK C}{T:String}(hneed:K.need<=r)(hlg:∀ {ρ s it x X u},K.mid ρ s it u x X->K.rel ρ s it x X)(hT1:(Value.type T==Value.type "list")=false)(hT2:(Value.type T==Value.type "tuple")=false)
  (hno1:typeLookup (.type T) "__len__" =pure none) (hno2:typeLookup (.type T) "__length_hint__" =pure none){n:Nat}{A:Around}{s0 s:Shared}{ρ0 ρ:List Lc}{H:MH}{it:K.σ}{a:Addr}{X:Addr->Prop}{Q:MH->Prop}
  (hr:Room (r+1) A) (N0:Nx ρ0 noW s0 ρ s) (S:Sim C H ρ s) (R:K.rel ρ s it (.ref a) X) (hX:∀ b,X b->s0.heap.get? b=none/\¬Own ρ b/\C.base.heap.get? b=none) (hty:s.TypeIs (.ref a) T)
  (hit:∀ {A':Around}{E' Q':Value->Shared->Prop} (s':Shared),s'.heap.get? a=s.heap.get? a->Q' (.ref a) s'->wpAny C.M A' (pyIter (.ref a)) Q' E' s') (e:dQ K H.length n it (H++[.list []]) Q):
  wpAny C.M A (call (.type "list") [.ref a]) (b6 C ρ0 s0 λv H'=>v= .ref H.length/\Q H') NoE s:=by
 refine callType_codes (Q₁:=λobj s₁=>obj= .ref s.heap.objs.size/\s₁= {s with heap:=s.heap.push {cls:=.type "list",data:=.seq #[]}}) PySem.F.called_list (PySem.F.typeCall_list_1 _) PySem.F.entry_list_init
  (code_list_new _ ⟨rfl,rfl⟩) λobj s₁ h₁=>?_
 refine xA h₁ λz107 z108=>?_;clear h₁;subst z107;subst z108
 refine xEA hty λoa hoa hca=>?_
 have hS:(s.heap.push {cls:=.type "list",data:=.seq #[]}).get? s.heap.objs.size=some {cls:=.type "list",data:=.seq #[]}:=Heap.get?_push_size _ rfl
 refine⟨⟨_,hS,rfl⟩,PySem.F.args_list_init_2 _ _,?_⟩
 have S1:=S.alloc {cls:=.type "list",data:=.seq #[]} (.list []) ⟨rfl,rfl,#[],0,Heap.get?_push_size _ rfl,.nil⟩
 have N1:Nx ρ noW s _ _:=.alloc {cls:=.type "list",data:=.seq #[]}
 have hla:=S.last (l:=⟨s.heap.objs.size,s.heap.objs.size,none⟩)
 have hne:s.heap.objs.size≠a:=λq=>by have:=Heap.lt_size hoa;rw[q]at this;exact Nat.lt_irrefl _ this
 refine xEE (nQ S1 hla) λxs1 n1 O1=>?_
 have st2:=nO S1 O1 (λ_=> #[]) (vs':=[]) .nil
 show wpAny _ A.in1.in1 (do let old<-Builtin.List.listItems (.ref s.heap.objs.size);Builtin.List.listUpdate (.ref s.heap.objs.size) (λ_=> #[]);letGo old.toList.reverse;Builtin.List.listExtendWith (.ref s.heap.objs.size) (.ref a) .none) _ _ _
 refine wpAny_bind ?_
 unfold Builtin.List.listItems
 refine wpAny_bind (wpAny_seqItems hS rfl (wpAny_pure ?_))
 show wpAny _ A.in1.in1 (updateSeq s.heap.objs.size (λ_=> #[]) >>=λ_=>letGo (#[]:Array Value).toList.reverse >>=λ_=>Builtin.List.listExtendWith (.ref s.heap.objs.size) (.ref a) .none) _ _ _
 refine wpAny_bind (wpAny_updateSeq hS rfl (wpAny_bind (wpAny_letGo ?_)))
 have g2:((s.heap.push {cls:=.type "list",data:=.seq #[]}).update s.heap.objs.size (Obj.mapSeq λ_=> #[])).get? a=some oa:=((Heap.SameBut.update ..).2 a (Ne.symm hne)).trans (Heap.get?_push_of_some _ hoa)
 unfold Builtin.List.listExtendWith
 refine wpAny_bind (wpAny_typeOf ⟨oa,g2,hca⟩ ?_)
 have h1:Builtin.List.listSameRef (.ref s.heap.objs.size) (.ref a)=false:=by simp only[Builtin.List.listSameRef];simpa using hne
 simp only[h1,hT1,hT2,Bool.or_false,Bool.false_eq_true,if_false]
 refine wpAny_bind (hit _ (g2.trans hoa.symm) (wpAny_bind (wpAny_holding ?_)))
 unfold Builtin.List.listLengthHint
 refine wpAny_bind (wpAny_specialOf ⟨oa,g2,hca⟩ hno1 ?_)
 show wpAny _ A.in1.in1 (specialOf (Value.ref a) (Str.ofString "__length_hint__") >>=_) _ _ _
 refine wpAny_bind (wpAny_specialOf ⟨oa,g2,hca⟩ hno2 (wpAny_pure ?_))
 show wpAny _ A.in1.in1 (rule "list.extend.makes-room" >>=λ_=>Builtin.List.listTouch (.ref s.heap.objs.size) >>=λ_=>
  again (.builtin "list.extend.loop" ⟨[.ref s.heap.objs.size,.ref a,.none],[]⟩)) _ _ _
 refine wpAny_bind (wpAny_rule (wpAny_bind ?_))
 show wpAny _ A.in1.in1 (updateSeq s.heap.objs.size (·.push .none) >>=λ_=>updateSeq s.heap.objs.size (·.pop)) _ _ _
 refine xEE (nQ st2.1 hla) λxs2 n2 O2=>?_
 have z2:=nil_of O2.r
 subst z2
 have st3:=nO st2.1 O2 (λxs=>xs.push .none) (vs':=[.none]) (.cons .none .nil)
 refine wpAny_bind (wpAny_updateSeq O2.x rfl ?_ (by rw[sizeLine_eq];decide) (by rw[sizeLine_eq];decide))
 refine xEE (nQ st3.1 hla) λxs3 n3 O3=>?_
 have sz3:=O3.r.sz
 have st4:=nO st3.1 O3 (λxs=>xs.pop) (vs':=[]) (by
  have:xs3.pop.toList= []:=List.eq_nil_of_length_eq_zero (by rw[Array.length_toList,Array.size_pop,sz3];rfl)
  rw [this];exact .nil)
 refine wpAny_updateSeq O3.x rfl ?_ (by rw[sz3,sizeLine_eq];decide) (by rw[Array.size_pop,sz3,sizeLine_eq];decide)
 have N14:=N1.trans (st2.2.trans (st3.2.trans st4.2))
 have hr1:Room r A.in1.in1:=by
  refine xAA hr λh1 h2 h3=>?_
  exact⟨h1,by show A.depth+10*r<=700;exact A42 h2,by show A.units+1+1+40*r<=8000;exact A43 h3⟩
 refine wpAny_pure ⟨plainId_quiet PySem.F.plain_extend_loop _,?_⟩
 refine codeAny_mono (uD (l:=⟨s.heap.objs.size,s.heap.objs.size,none⟩) (ρ0:=ρ0) (s0:=s0) hneed hlg n hr1 hla (N0.trans N14) st4.1 (K.mono R N14.pre N14.imm (λb o q e'=>N14.kp b o e' (hX b q).2.1 (λz=>z)))
  (λb q=>⟨(hX b q).1,let ⟨o',e'⟩:=K.alive R b q;N14.own e' (hX b q).2.1,(hX b q).2.2⟩) e) λrr s5 p=>?_
 obtain⟨rfl,S5,N5,hl5,q⟩:=p
 exact⟨rfl,S5,N5,.ref hl5,rfl,q⟩
theorem aBw{G:GSh}{g:GFn}{n:Nat}(hG:GCx C G){r0:Nat}(VV:∀ L,GV C r0 G g (G.envL L)){A:Around}{s:Shared}{ρ:List Lc}{H:MH}{gi:Nat}{l:Lc}{gn:Gn}{Q:MH->Prop}(hnd:r0+2<=r)(hr:Room (r+1) A)(S:Sim C H ρ s)(hl:ρ[gi]? =some l)(hH:H[gi]? =some (.gen gn))
  (e:dQ (nR hG r0 VV) H.length n gi (H++[.list []]) Q):wpAny C.M A (call (.type "list") [.ref l.a]) (b6 C ρ s λv H'=>v= .ref H.length/\Q H') NoE s:=by
 refine xE (tP hG S hl hH) λk hk=>?_
 refine qC (K:=nR hG r0 VV) (T:="generator") hnd (λM=>by cases M with |mk h1 h2=>exact⟨_,h1,rfl,rfl⟩) (by decide) (by decide) PySem.F.gen_no_len PySem.F.gen_no_hint hr .refl S ⟨l,hl,rfl,rfl⟩ (λb hb=>hb.elim) hk.typeIs (λs' h q=>?_) e
 refine iA hk λo nm qn h2 h3=>?_
 exact wpAny_pyIter_gen (g:=k) ⟨o,nm,qn,h.trans h2,h3⟩ q
def isG(H:MH)(vs:List V):Option Nat:=((one vs).bind V.rf).bind λi=>(H[i]?.bind MO.gn).map λ_=>i
def lP(K:ItK C)(σ:Nat->K.σ):CF:=λvs H Q=>match isG H vs with
 |some i=>∃ n,dQ K H.length n (σ i) (H++[.list []]) λH'=>Q (.ref H.length) H'
 |none=>cList vs H Q
theorem CV.listG{G:GSh}{g:GFn}(hG:GCx C G){r0:Nat}(VV:∀ L,GV C r0 G g (G.envL L))(hnd:r0+2<=r):CV C (r+1) (.type "list") (lP (nR hG r0 VV) (λi=>i)):=by
 refine⟨dX,?_⟩
 intro A s ρ H us vs Q hr S rs e
 unfold lP at e
 split at e
 ·rename_i i hi
  refine xE e λn e=>?_
  refine xEA (Option.bind_eq_some_iff.mp hi) λj hj hi=>?_
  refine xEA (Option.map_eq_some_iff.mp hi) λgn hgn z109=>?_;subst z109
  refine xEA (Option.bind_eq_some_iff.mp hj) λv hv hj=>?_
  refine xEA (lI rs hv) λu z110 ru=>?_;subst z110
  refine c8 (ru.toRef hj) λl z111 z112 gl=>?_;subst z111;subst z112
  refine wmN (aBw hG VV hnd hr S gl (gn_mo hgn) e) λx s' p=>?_
  obtain⟨S',N',r',hv',q⟩:=p
  subst hv'
  exact⟨S',N',r',q⟩
 ·exact CV.list.call hr S rs e
end
section
variable {C:Cx}{r:Nat}{env:Env}
structure KCx(C:Cx)(K:Frag):Prop where
 mem:K.In C.base.heap
 makes:makesIn K dT=true
 init:findIn K (.ref dT) "__init__" =some (some (.ref 160))
 initT:typeIn K (.ref 160)=some (.type "function")
 callS:specialIn K (.ref dT) "__call__" =some (some (.builtin "type.__call__"))
 callM:specialIn K (.ref aE) "__call__" =some (some (.builtin "type.__call__"))
 typM:instIn K (.ref aE) (.type "type")=some true
 clsM:∃ oc od cd sl,K.lookup aE=some ⟨oc,od,.cls cd,sl⟩/\cd.mro= [.ref aE,.type "tuple",.type "object"]/\cd.hasDel=false/\cd.hasDict=false/\cd.slotNames= []/\(sl.toList[4]?).join=some .none/\cd.abstract=false/\cd.collection=none
 clsS:∃ oc od cd sl,K.lookup dT=some ⟨oc,od,.cls cd,sl⟩
 readsM:readsIn K aE (.type "type")=true
 newM:findCls K (.ref aE) (.type "type") "__new__" =some (.get (.builtin "staticmethod.__get__") (.ref 136) .none (.ref aE))
 makeM:findCls K (.ref aE) (.type "type") "_make" =some (.get (.builtin "classmethod.__get__") (.ref 91) .none (.ref aE))
 smM:recIn K 136 "staticmethod" =some [.ref 82]
 cmM:∃ b,recIn K 91 "classmethod" =some [.ref 89,b]
 initM:findIn K (.ref aE) "__init__" =some (some (.builtin "object.__init__"))
 newT:typeIn K (.ref 82)=some (.type "function")
theorem tJ{K:Frag}(hK:K.In C.base.heap){c:Addr}(hc:∃ oc od cd sl,K.lookup c=some ⟨oc,od,.cls cd,sl⟩)(hcall:specialIn K (.ref c) "__call__" =some (some (.builtin "type.__call__"))):
  ∀ h:Heap,(∀ b o,C.base.heap.get? b=some o->h.get? b=some o)->∃ k,(k=Keeper.frame∨k=Keeper.machine∨k=Keeper.boundFrame)/\Looks C.M h (keeperOf (.ref c)) k:=by
 intro h hk
 refine xEEEE hc λoc od cd sl e=>?_
 have X:=hK.keeps hk
 refine⟨.machine,.inr (.inl rfl),(Looks.ld (part:=none) (X _ _ e)).andThen ?_⟩
 refine(looks_specialIn X hcall).andThen ?_
 exact Looks.of_pure (by simp)
theorem Room.under_call{A:Around}{c:Addr}{rest:List Value}(hr:Room (r+1) A):Room r (A.under (.builtin "type.__call__" ⟨.ref c :: rest,[]⟩)):=by
 refine xAA hr λh1 h2 h3=>?_
 have w1:(Code.builtin "type.__call__" ⟨.ref c :: rest,[]⟩).weight=1:=by first |rfl |kernel_rfl
 have w2:(Code.builtin "type.__call__" ⟨.ref c :: rest,[]⟩).cUnits=1:=by first |rfl |kernel_rfl
 refine⟨h1,?_,?_⟩
 ·show A.depth+(Code.builtin "type.__call__" ⟨.ref c :: rest,[]⟩).weight+10*r<=700
  rw [w1];exact A30 h2
 ·show A.units+(Code.builtin "type.__call__" ⟨.ref c :: rest,[]⟩).cUnits+40*r<=8000
  rw [w2];exact A44 h3
def cNew(g:CF):CF:=λvs H Q=>g (.ref H.length :: vs) (H++[.inst λ_=>none]) λv H'=>v= .none/\Q (.ref H.length) H'
theorem sM.run{A:Around}{c:Code}{ρ:List Lc}{s s0:Shared}{Q:EK}{R:Result->Shared->Prop}(h:codeAny C.M A c (sM C ρ s Q) s0)(k:∀ {x s' ρ' v H'},Sim C H' ρ' s'->Nx ρ noW s ρ' s'->VR ρ' s'.heap x v->Q v H'->R (.ok (.ret x)) s'):codeAny C.M A c R s0:=
 codeAny_mono h λrr s' hh=>by
  cases rr with
  |error x=>exact hh.elim
  |ok f=>
   cases f with
   |ret x=>exact let ⟨S,N,r,q⟩:=hh;k S N r q
   |_=>exact hh.elim
theorem CV.sm{K:Frag}(hK:KCx C K){g:CF}(hi:CC C r (.ref 160) g):CV C (r+1) (.ref dT) (cNew g):=by
 refine⟨tJ hK.mem hK.clsS hK.callS,?_⟩
 intro A s ρ H us vs Q hr S rs e
 have X:=hK.mem.keeps S.keep
 obtain⟨h,gg,d,t,os⟩:=s
 refine wpAny_call (make_core (makes_of X hK.makes) (looks_findIn X hK.init) (λself=>bind_fn X self hK.initT) (.inl rfl) ?_)
 have keep:∀ b o,h.get? b=some o->((h.push emptyDict).push (instObj dT h.objs.size)).get? b=some o:=λb o e=>Heap.get?_push_of_some _ (Heap.get?_push_of_some _ e)
 have hget:((h.push emptyDict).push (instObj dT h.objs.size)).get? (h.objs.size+1)=some (instObj dT h.objs.size):=by heap_get
 have hgd:((h.push emptyDict).push (instObj dT h.objs.size)).get? h.objs.size=some emptyDict:=Heap.get?_push_of_some _ (Heap.get?_push_at rfl rfl)
 have G:=S.grow (l:=⟨h.objs.size+1,h.objs.size,none⟩) (m:=.inst λ_=>none) (k:=t) keep (Heap.get?_none_of_le (Nat.le_succ _)) (bG _) rfl ⟨rfl,Nat.ne_of_lt (Nat.lt_succ_self _),⟨_,hget,rfl,rfl,rfl⟩,λ_=>none,
  Heap.Ns1.of_empty ⟨_,#[],_,hgd,rfl,λe he=>absurd he (by simp),λ_=>rfl⟩,⟨_,hgd,rfl,rfl⟩,λx hx=>absurd rfl hx,λ_=>trivial⟩
 have hl:=S.last (l:=⟨h.objs.size+1,h.objs.size,none⟩)
 exact sM.run (hi (A:=A.under (.builtin "type.__call__" ⟨.ref dT :: us,[]⟩)) hr.under_call G.1 (.cons (.ref hl) (rs.nx (G.2 noW))) e) λS2 N2 r2 q=>by
  refine xA q λq1 q=>?_
  have:=r2.noT (by rw[q1];rfl)
  exact⟨this,S2,(G.2 _).trans N2,.ref (aL N2.pre hl),q⟩
theorem aBd(a b c d:Value):argsOk "object.__init__" ⟨[a,b,c,d],[]⟩:=by unfold argsOk;kernel_rfl
noncomputable abbrev rK(i j k:Value)(n:Nat)(dd:Option Addr):Obj:= {cls:=.ref aE,dict:=dd,data:=.seq #[i,j,k] n}
def NewM(C:Cx)(r:Nat):Prop:=∀ {A:Around}{s:Shared}{ρ:List Lc}{H:MH}{a b c:Value}{i j k:Int},Room r A->Sim C H ρ s->VR ρ s.heap a (.int i)->VR ρ s.heap b (.int j)->VR ρ s.heap c (.int k)->
 codeAny C.M A (.call (.ref 82) ⟨[.ref aE,a,b,c],[]⟩) (sM C ρ s λv H'=>v= .mat i j k/\H'=H) s
def v4:CF:=lf λvs H=>(Tis vs).bind λis=>match is with | [i,j,k]=>some (.mat i j k,H) |_=>none
theorem VR.toMat{ρ:List Lc}{h:Heap}{u:Value}{v:V}{i j k:Int}(r:VR ρ h u v)(e:v= .mat i j k):∃ a n t1 t2 t3 dd,u= .ref a/\h.get? a=some (rK (.int i t1) (.int j t2) (.int k t3) n dd):=by
 subst e
 refine jV r.inv λa n t u v dd h1 h2=>?_
 exact⟨a,n,t,u,v,dd,h1,h2⟩
theorem rI{K:Frag}(hK:KCx C K){h:Heap}(X:K.In h):Looks C.M h (mroOf (.ref aE)) [.ref aE,.type "tuple",.type "object"]:=by
 refine mG hK.clsM λoc od cd sl eC hmro _=>?_
 rw [<-hmro]
 exact((Looks.ld (part:=none) (X _ _ eC)).andThen .now).andThen .now
theorem tH{K:Frag}(hK:KCx C K){h:Heap}(X:K.In h):Looks C.M h (Bind.madeBy (.ref aE)) none:=by
 refine gX hK.clsM λoc od cd sl eC hmro hdel hdict hsn hsl habs hcol=>?_
 have hC:=X _ _ eC
 have hm:=rI hK X
 intro A Q E s k q
 unfold Bind.madeBy
 refine wpAny_bind (hm A _ E s k ?_)
 rw [List.forIn_cons]
 refine wpAny_bind (wpAny_bind (wpAny_bind (wpAny_bind (wpAny_loadPart (k _ _ hC) (wpAny_pure ?_)))))
 dsimp only
 rw [<-Array.getElem?_toList,hsl]
 exact wpAny_pure (wpAny_pure (wpAny_pure q))
theorem rR{K:Frag}(hK:KCx C K){h:Heap}(X:K.In h){T:Value}(hT:T= .ref aE∨T= .type "tuple" ∨T= .type "object"):Looks C.M h (isSubtype (.ref aE) T) true:=by
 refine mG hK.clsM λoc od cd sl eC hmro _=>?_
 exact looks_mroIn X (by unfold mroIn clsIn;rw[eC];rcases hT with rfl |rfl |rfl<;>simp [hmro])
set_option maxHeartbeats 1000000 in
theorem CV.mat{K:Frag}(hK:KCx C K)(hn:NewM C r):CV C (r+1) (.ref aE) v4:=by
 refine CV.of (tJ hK.mem (hK.clsM.elim λoc h=>h.elim λod h=>h.elim λcd h=>h.elim λsl h=>⟨oc,od,cd,sl,h.1⟩) hK.callM) λ{A s ρ H us vs v H'} hr S rs e=>?_
 refine xEA (Option.bind_eq_some_iff.mp e) λis hi e=>?_
 refine xEA (rs.ints hi) λts hl1 hl2=>?_
 split at e
 ·rename_i i j k
  cases e
  refine xEEE (ts3 hl1 hl2) λta tb tc z113=>?_;subst z113
  clear rs hi hl1 hl2
  have X:=hK.mem.keeps S.keep
  refine gX hK.clsM λoc od cd sl eC hmro hdel hdict hsn hsl habs hcol=>?_
  have hC:=X _ _ eC
  have call:=looks_specialIn (M:=C.M) X hK.callM
  have typ:=looks_instIn (M:=C.M) X hK.typM
  refine wpAny_call ?_
  obtain⟨h,g,d,t,os⟩:=s
  refine codeAny_of_tree ?_
  show wpAny _ _ (callAny (.ref aE) _) _ _ _
  refine nd_load hC ?_
  show wpAny _ _ (callAny.viaDunder (.ref aE) _) _ _ _
  unfold callAny.viaDunder
  refine wpAny_bind (call.at ?_)
  dsimp only
  rw [tc_bind]
  refine wpAny_bind (wpAny_pure (wpAny_bind (wpAny_pure ?_)))
  refine wpAny_pure (a:=PySem.Fin.again (.call (.builtin "type.__call__") ⟨.ref aE :: [.int i ta,.int j tb,.int k tc],[]⟩)) (And.intro rfl ?_)
  refine codeAny_call_builtin_at (Code.quiet_builtin _ (by decide+kernel)) entry_typeCall (check_slot tc_kind tc_split typ (tc_args _ _ _) ?_)
  unfold Builtin.«type.__call__»
  have made:=tH hK X
  have hm:=rI hK X
  have isT:=rR hK X (.inl rfl)
  have lkI:=looks_findIn (M:=C.M) X hK.initM
  have att:∀ {A':Around}{E':Value->Shared->Prop}{Q':Value->Shared->Prop}{b:Bool},Q' (.ref 82) ⟨h,g,d,t+1,os⟩->wpAny C.M A' (getAttr (.ref aE) "__new__" b) Q' E' ⟨h,g,d,t,os⟩:=
   λhq=>cls_bind X hK.readsM hK.newM (wpAny_call (sm_get (s:=⟨h,g,d,t+1,os⟩) X hK.smM (handed_on (by decide+kernel:handedIn (.ref 82)=true) hq)))
  repeat (first |with_reducible refine att ?_ |simp only[Bool.false_eq_true,if_false] |with_reducible refine wpAny_call ?_ |lk)
  refine sM.run (hn (s:=⟨h,g,d,t+1,os⟩) hr.under_call (S.toks _) (.int i ta) (.int j tb) (.int k tc)) λ{x s1 ρ1 v1 H1} S1 N1 r1 q=>?_
  refine xA q λq1 z114=>?_;clear q;subst z114
  refine jV (r1.toMat q1) λx n1 t1 u1 w1 dd1 z115 hx=>?_;subst z115
  rw [q1]at r1
  have X1:=hK.mem.keeps S1.keep
  clear att isT made typ call hm lkI hC X hn
  have tx:Looks C.M s1.heap (typeOf (.ref x)) (.ref aE):=(Looks.ld hx).andThen .now
  have isT1:=rR hK X1 (.inl rfl)
  have lkI:=looks_findIn (M:=C.M) X1 hK.initM
  have made1:=tH hK X1
  have isO:Looks C.M s1.heap (isInstance (.ref x) (.type "object")) true:=tx.andThen (rR hK X1 (.inr (.inr rfl)))
  have hC1:=X1 _ _ eC
  have hm1:=rI hK X1
  have fin:EPo C ρ ⟨h,g,d,t,os⟩ H1 (.mat i j k) (.ref x) s1:=⟨ρ1,S1,(Nx.toks (t+1)).trans N1,r1⟩
  clear S1 N1 S r1 q1 X1
  obtain⟨h1,g1,d1,tt1,os1⟩:=s1
  dsimp only at hx tx isT1 lkI isO hm1 made1 hC1
  unfold isInstance callSpecial? specialOf
  have bi:=Looks.of_pure (M:=C.M) (h:=h1) (oi_bind (.ref x))
  repeat (first |with_reducible refine wpAny_call ?_ |simp only[Bool.not_true,Bool.false_eq_true,if_false] |lk)
  refine codeAny_call_builtin oi_plain entry_oi (check_slot oi_kind oi_split isO (aBd _ _ _ _) ?_)
  show wpAny _ _ (Builtin.«object.__init__» ⟨[.ref x,.int i ta,.int j tb,.int k tc],[]⟩) _ _ _
  unfold Builtin.«object.__init__»
  repeat (first |simp only[List.isEmpty_cons,Bool.not_false,Bool.not_true,Bool.true_or,bne_self_eq_false,Bool.false_eq_true,if_false,if_true] |lk)
  exact fin
 ·first |exact aI e |cases e
end
section
variable {C:Cx}{r:Nat}{env:Env}
theorem aEo:builtinKind "tuple.__new__" =some .builtinFn:=by decide+kernel
theorem zP:splitId "tuple.__new__" =some ("tuple","__new__"):=by decide+kernel
theorem zQ:plainId "tuple.__new__" =true:=by decide+kernel
theorem aEp:Builtin.Slots.bestBase [.type "tuple"]=pure (.type "tuple"):=by first |rfl |kernel_rfl
structure sJ(M:Model)(h:Heap):Prop where
 obj:∃ oc od cd sl,h.get? aE=some ⟨oc,od,.cls cd,sl⟩/\cd.hasDel=false
 isT:Looks M h (isType (.ref aE)) true
 sub:Looks M h (isSubtype (.ref aE) (.type "tuple")) true
 base:Looks M h (Bind.staticBase (.ref aE)) (.type "tuple")
 init:Looks M h (typeLookup (.ref aE) "__init__") (some (.builtin "object.__init__"))
theorem mfacts{K:Frag}(hK:KCx C K)(hbs:∃ oc od cd sl,K.lookup aE=some ⟨oc,od,.cls cd,sl⟩/\cd.bases= [.type "tuple"]){M:Model}{h:Heap}(X:K.In h):sJ M h:=by
 refine gX hK.clsM λoc od cd sl eC hmro hdel hdict hsn hsl habs hcol=>?_
 refine qM hbs λoc' od' cd' sl' eC' hbase=>?_
 rw [eC]at eC'
 cases eC'
 have hC:=X _ _ eC
 have hm:Looks M h (mroOf (.ref aE)) cd.mro:=((Looks.ld (part:=none) hC).andThen .now).andThen .now
 rw [hmro]at hm
 have made:Looks M h (Bind.madeBy (.ref aE)) none:=by
  intro A Q E s k q
  unfold Bind.madeBy
  refine wpAny_bind (hm A _ E s k ?_)
  rw [List.forIn_cons]
  refine wpAny_bind (wpAny_bind (wpAny_bind (wpAny_bind (wpAny_loadPart (k _ _ hC) (wpAny_pure ?_)))))
  dsimp only
  rw [<-Array.getElem?_toList,hsl]
  exact wpAny_pure (wpAny_pure (wpAny_pure q))
 refine⟨⟨oc,od,cd,sl,hC,hdel⟩,?_,looks_mroIn X (by unfold mroIn clsIn;rw[eC];simp [hmro]),?_,looks_findIn X hK.initM⟩
 ·exact(Looks.ld (part:=some headPart) hC).andThen .now
 ·intro A Q E s k q
  unfold Bind.staticBase
  refine wpAny_bind (hm A _ E s k ?_)
  rw [List.forIn_cons]
  have mt:=PySem.F.called_tuple.made
  dsimp only
  refine wpAny_bind (wpAny_bind (wpAny_bind (made A _ E s k ?_)))
  rw [if_neg (by decide)]
  have hcd:Looks M h (classData aE) cd:=(Looks.ld (part:=none) hC).andThen .now
  refine wpAny_bind (hcd A _ E s k ?_)
  show wpAny _ _ (Builtin.Slots.bestBase cd.bases >>=_) _ _ _
  rw [hbase,aEp]
  refine wpAny_bind (wpAny_pure (wpAny_pure ?_))
  dsimp only
  rw [List.forIn_cons,mt]
  dsimp only
  refine wpAny_bind (wpAny_bind (wpAny_pure ?_))
  rw [if_pos (by decide)]
  exact wpAny_pure (wpAny_pure (wpAny_pure q))
set_option maxHeartbeats 1000000 in
theorem xX{prog:Program}{w:World}{A:Around}{s:Shared}{R:Result->Shared->Prop}{tp:Addr}{xs:Array Value}{n:Nat}(F:∀ h,(∀ b o,s.heap.get? b=some o->h.get? b=some o)->sJ (model prog w) h)(hx:s.heap.get? tp=some {cls:=.type "tuple",data:=.seq xs n})(hsz:xs.size<100)
  (h:∀ h' x dd,(∀ b o,s.heap.get? b=some o->h'.get? b=some o)->h'.get? x=some {cls:=.ref aE,dict:=dd,data:=.seq xs}->s.heap.get? x=none->R (.ok (.ret (.ref x))) {s with heap:=h'}):
  codeAny (model prog w) A (.call (.builtin "tuple.__new__") ⟨[.ref aE,.ref tp],[]⟩) R s:=by
 obtain⟨⟨oc,od,cd,sl,hC,hdel⟩,isT,sub,base,init⟩:=F s.heap (λ_ _ e=>e)
 have mt:=PySem.F.called_tuple.made
 refine codeAny_call_builtin zQ PySem.F.entry_tuple_new ?_
 obtain⟨hh,g,d,t,os⟩:=s
 dsimp only at*
 simp only[checkBuiltinCall,aEo,zP]
 have col:∀ {A':Around}{E':Value->Shared->Prop}{Q':List Value->Shared->Prop},(∀ h',(∀ b o,hh.get? b=some o->h'.get? b=some o)->Q' xs.toList ⟨h',g,d,t,os⟩)->wpAny (model prog w) A' (collect (.ref tp)) Q' E' ⟨hh,g,d,t,os⟩:=by
  intro A' E' Q' hq
  exact wpAny_collect_seq tp (.inr rfl) hx rfl rfl hq (by rw[sizeLine_eq];exact A2 hsz)
 repeat (first |simp only[Bool.not_true,Bool.false_eq_true,if_false,beq_self_eq_true,if_true] | (rw [mt];refine wpAny_pure ?_) |with_reducible refine col ?_ |lk)
 intro h1 hk1
 refine wpAny_bind (wpAny_pure (wpAny_bind (wpAny_alloc (wpAny_bind ?_))))
 unfold newObj
 dsimp only
 rw [if_neg (by simp [sizeLine_eq];exact A2 hsz)]
 unfold newObjAsIs classHasDel
 have hC1:=hk1 _ _ hC
 refine wpAny_bind (wpAny_alloc (wpAny_bind (wpAny_bind (wpAny_load (Heap.get?_push_of_some _ (Heap.get?_push_of_some _ hC1)) (wpAny_pure ?_)))))
 rw [hdel]
 refine wpAny_pure (wpAny_pure ?_)
 refine h _ _ _ (λb o e=>Heap.get?_push_of_some _ (Heap.get?_push_of_some _ (hk1 b o e))) (by rw[Array.toArray_toList];exact Heap.get?_push_size _ rfl) ?_
 cases q:hh.get? (h1.push {cls:=.type "dict",data:=.dict #[]}).objs.size with
 |none=>rfl
 |some o=>
  have:=Heap.get?_push_of_some {cls:=.type "dict",data:=.dict #[]} (hk1 _ _ q)
  rw [bG]at this;cases this
end
section
variable {C:Cx}{r:Nat}{env:Env}
theorem nil_in(h:Heap):Frag.In [] h:=λ_ _ e=>by cases e
theorem y7:findCls [] (.type "tuple") (.type "type") "__new__" =some (.val (.builtin "tuple.__new__")):=by first |decide+kernel |kernel_rfl
theorem y5{prog:Program}{w:World}{A:Around}{E:Value->Shared->Prop}{s:Shared}{pl:Sem Bool}{Q:Value×List Value->Shared->Prop}(h:Q (.builtin "tuple.__new__",[]) {s with toks:=s.toks+1}):wpAny (model prog w) A (getMethod (.type "tuple") "__new__" pl) Q E s:=by
 have X:=nil_in s.heap
 have hstub:opaqueClassAbove (.type "tuple")=pure none:=by unfold opaqueClassAbove;dsimp only;rw[show Manifest.isStub "tuple" =false by decide+kernel];rfl
 have ht:typeOf (.type "tuple")=pure (.type "type"):=by first |rfl |kernel_rfl
 have L0:Looks (model prog w) s.heap (typeOf (.type "tuple")) (.type "type"):=Looks.of_pure ht
 have hg:findIn [] (.type "type") "__getattribute__" =some (some (.builtin "type.__getattribute__")):=type_tga
 unfold getMethod specialOf
 refine wpAny_bind (wpAny_bind (L0.here ((looks_findIn X hg).here ?_)))
 dsimp only
 rw [if_pos canon_tga]
 refine wpAny_bind (wpAny_mono (Q:=λv=>Q (v,[])) (E:=E) ?_ (λ_ _ z=>wpAny_pure z) λ_ _ z=>z)
 have LO:Looks (model prog w) s.heap (opaqueClassAbove (.type "tuple")) none:=Looks.of_pure hstub
 have hh:handedIn (.builtin "tuple.__new__")=true:=by decide+kernel
 refine cls_open X LO L0 hg (looks_hook X (r:=none) (by rfl)) (by show subIn [] _ _=_;rfl) y7
  (wpAny_pure (by show wpAny _ _ (handedOut (.builtin "tuple.__new__")) _ _ _;rw[handedOut_of hh];exact wpAny_pure h))
def V.rw:V->Option Addr | .raw a=>some a |_=>Option.none
theorem VR.toRaw{ρ:List Lc}{h:Heap}{u:Value}{v:V}{a:Addr}(r:VR ρ h u v)(e:v.rw=some a):u= .ref a:=by
 cases v with
 |raw=>cases e;exact r.inv
 |_=>first |exact aI e |cases e
def i3(l:List Int):Option (Int×Int×Int):=match l with | [i,j,k]=>some (i,j,k) |_=>none
theorem i3_ok{l:List Int}{p:Int×Int×Int}(e:i3 l=some p):l= [p.1,p.2.1,p.2.2]:=by
 unfold i3 at e
 split at e
 ·cases e;rfl
 ·first |exact aI e |cases e
def zS(vs:List V):Option (List Int):=match vs with | [a,b]=>if a.rw=some 135 then b.tp.bind Tis else none |_=>none
theorem zR{ρ:List Lc}{h:Heap}{us:List Value}{vs:List V}{is:List Int}(r:VRs ρ h us vs)(e:zS vs=some is):∃ tp xs n ts,us= [.ref 135,.ref tp]/\h.get? tp=some {cls:=.type "tuple",data:=.seq xs n}/\ts.length=is.length/\xs.toList=(is.zip ts).map λx=>Value.int x.1 x.2:=by
 unfold zS at e
 split at e
 ·split at e
  ·rename_i h1
   refine xEA (Option.bind_eq_some_iff.mp e) λws h2 e=>?_
   refine cJ r.a2 λu v z116 ru rv=>?_;subst z116
   refine cW (rv.toTup h2) λtp xs n _ z117 g rs=>?_;subst z117
   refine xEA (rs.ints e) λts t1 t2=>?_
   exact⟨tp,xs,n,ts,by rw[ru.toRaw h1],g,t1,t2⟩
  ·first |exact aI e |cases e
 ·first |exact aI e |cases e
def aDh(fs:EFs):EF:=λlo H Q=>fs lo H λvs H1=>Lf ((zS vs).bind i3) λp=>Q (.mat p.1 p.2.1 p.2.2) H1
theorem EV.tnew{np apos pos:Pos}{es:List Expr}{fs:EFs}(F0:∀ h,(∀ b o,C.base.heap.get? b=some o->h.get? b=some o)->sJ C.M h)(hg:Glo C "tuple" (.type "tuple"))(hk:env.kindOf "tuple" =some .globalImplicit)(ha:EVs C r env es fs)(hfl:oH env es)(sh:fZ env (.Name "tuple" np) "__new__" apos pos es):
  EV C r env (.Call (.Attribute (.Name "tuple" np) "__new__" apos) es [] pos) (aDh fs):=
 λA s ρ H lo Q hr S F q=>d0 (P:=λ_ _=>True) sh.base sh.few sh.line (lL hg hk (by decide+kernel) S F λpl=>y5 (callWith_of (P:=λh=>∀ b o,C.base.heap.get? b=some o->h.get? b=some o) (by rw[hfl.2];rfl) dM
  (wmN (k4 ha hfl hr (S.toks (s.toks+1)) (F.nx (.toks _)) q) λa s1 p=>by
  obtain⟨ps,kw⟩:=a
  obtain⟨hkw,S1,N1,rs,q⟩:=p
  cases hkw
  refine⟨S1.keep,q.elim λp hp q=>?_⟩
  refine xEA (Option.bind_eq_some_iff.mp hp) λis h1 h2=>?_
  refine mS (zR rs h1) λtp xs n ts hps gt t1 t2=>?_
  cases hps
  obtain rfl:=i3_ok h2
  refine xEEE (ts3 t1 t2) λt u w t3=>?_
  have hx3:xs= #[.int p.1 t,.int p.2.1 u,.int p.2.2 w]:=Array.toList_inj.mp t3
  subst hx3
  exact wpAny_call (xX (λh hk=>F0 h λb o e=>hk b o (S1.keep b o e)) gt (show 3<100 by decide) λh' x dd hk hx hnx=>⟨S1.extS hk,(Nx.toks _).trans (N1.trans (.ext (k:=s1.toks) hk)),.mat hx,q⟩))))
end
section
variable {C:Cx}{r:Nat}{env:Env}
structure KMx(C:Cx)(K:Frag):Prop where
 toK:KCx C K
 bases:∃ oc od cd sl,K.lookup aE=some ⟨oc,od,.cls cd,sl⟩/\cd.bases= [.type "tuple"]
 iter:findIn K (.ref aE) "__iter__" =some (some (.builtin "tuple.__iter__"))
 len:findIn K (.ref aE) "__len__" =some (some (.builtin "tuple.__len__"))
 lt:findIn K (.ref aE) "__lt__" =some (some (.builtin "tuple.__lt__"))
 tup:subIn K (.ref aE) (.type "tuple")=some true
theorem aAc:entryFor table "tuple.__iter__" =some Builtin.«tuple.__iter__»:=entryFor_of_tree ⋯
theorem zZ:entryFor table "tuple.__len__" =some Builtin.«tuple.__len__»:=entryFor_of_tree ⋯
theorem aEs:builtinKind "tuple.__iter__" =some .slot:=by decide+kernel
theorem aAa:splitId "tuple.__iter__" =some ("tuple","__iter__"):=by decide+kernel
theorem aAb:plainId "tuple.__iter__" =true:=by decide+kernel
theorem aEt(a:Value):argsOk "tuple.__iter__" ⟨[a],[]⟩:=by unfold argsOk;kernel_rfl
theorem aEq:builtinKind "tuple.__len__" =some .slot:=by decide+kernel
theorem zX:splitId "tuple.__len__" =some ("tuple","__len__"):=by decide+kernel
theorem zY:plainId "tuple.__len__" =true:=by decide+kernel
theorem aEr(a:Value):argsOk "tuple.__len__" ⟨[a],[]⟩:=by unfold argsOk;kernel_rfl
theorem ifb{M:Model}{A:Around}{E:Value->Shared->Prop}{s:Shared}{b:Bool}{m:Sem (Value×List Value)}{x:Value×List Value}{Q:Option (Value×List Value)->Shared->Prop}(L:Looks M s.heap m x)(h:Q (some x) s):
  wpAny M A (if b=true then(do let y<-m;pure (some y)) else(do let y<-m;pure (some y):Sem (Option (Value×List Value))).tryCatch λ_=>do rule "special.get-raises-dropped";pure none) Q E s:=by
 split
 ·exact wpAny_bind (L.here (wpAny_pure h))
 ·exact wpAny_tryCatch (wpAny_bind (L.here (wpAny_pure h)))
set_option maxHeartbeats 1000000 in
theorem vB{K:Frag}(hK:KMx C K){A:Around}{E:Value->Shared->Prop}{s:Shared}{a:Addr}{xs:Array Value}{n:Nat}{dd:Option Addr}{Q:Value->Shared->Prop}(X:K.In s.heap)(hx:s.heap.get? a=some {cls:=.ref aE,dict:=dd,data:=.seq xs n})
  (h:Q (.ref s.heap.objs.size) {s with heap:=s.heap.push {cls:=.type "tuple_iterator",data:=.fields #[.ref a,.int 0 0]}}):wpAny C.M A (pyIter (.ref a)) Q E s:=by
 obtain⟨hh,g,d,t,os⟩:=s
 dsimp only at*
 have tx:Looks C.M hh (typeOf (.ref a)) (.ref aE):=(Looks.ld hx).andThen .now
 have L1:=looks_findIn (M:=C.M) X hK.iter
 have isI:Looks C.M hh (isInstance (.ref a) (.type "tuple")) true:=tx.andThen (looks_subIn X hK.tup)
 have bI:=Looks.of_pure (M:=C.M) (h:=hh) (slot_tuple_iter.bind (.ref a))
 unfold pyIter callSpecialIfBoundUnlessNone? specialOf
 repeat (first |with_reducible refine wpAny_call ?_ |lk)
 refine ifb (s:=⟨hh,g,d,t,os⟩) bI ?_
 repeat (first |simp only[show (Value.builtin "tuple.__iter__" ==Value.none)=false from by decide,Bool.false_eq_true,if_false] |with_reducible refine wpAny_call ?_ |lk)
 refine codeAny_call_builtin aAb aAc (check_slot aEs aAa isI (aEt _) ?_)
 show wpAny _ _ (do ret (<-newFields "tuple_iterator" [.ref a,rawInt 0])) _ _ _
 refine wpAny_bind (wpAny_newObj_type (wpAny_pure ?_))
 refine wpAny_pure (wpAny_bind (wpAny_bind (wpAny_typeOf (T:="tuple_iterator") ⟨_,Heap.get?_push_size _ rfl,rfl⟩ ?_)))
 exact wpAny_of_eq slot_tupleiter_next.lookup (wpAny_pure h)
theorem jN{prog:Program}{w:World}{A:Around}{E:Value->Shared->Prop}{s:Shared}{it t:Addr}{i:Nat}{items:Array Value}{ol:Obj}{nl:Nat}{x:Value}{Q:Option Value->Shared->Prop}(hit:IsTupIter s.heap it t i)
  (hol:s.heap.get? t=some ol) (hdl:ol.data= .seq items nl) (hx:items[i]? =some x)
  (hQ:∀ h',IsTupIter h' it t (i+1)->Heap.SameBut it s.heap h'->Q (some x) {s with heap:=h'}):wpAny (model prog w) A (pyNext (.ref it)) Q E s:=by
 refine c8 (id hit) λo ho hc hd=>?_
 unfold pyNext
 refine wpAny_bind (wpAny_attempt (wpAny_callSpecial?_slot (name:=Str.ofString "__next__") hit.typeIs slot_tupleiter_next
  (wpAny_call_entry slot_tupleiter_next hit.typeIs entry_tupleiter_next ?_ (args_tupleiter_next _))))
 show wpAny _ _ (field (.ref it) 0 >>=_) _ _ s
 refine wpAny_bind (wpAny_field ho hd (x:=.ref t) rfl ?_)
 show wpAny _ _ (if (Value.ref t==Value.none)=true then _ else _) _ _ s
 rw [if_neg (show¬((Value.ref t==Value.none)=true) from Bool.false_ne_true)]
 show wpAny _ _ (field (.ref it) 1 >>=_) _ _ s
 refine wpAny_bind (wpAny_field ho hd (x:=.int i 0) rfl ?_)
 show wpAny _ _ (seqItems? (.ref t) >>=_) _ _ s
 refine wpAny_bind (wpAny_seqItems hol hdl ?_)
 simp only[Int.toNat_natCast,hx]
 refine wpAny_bind (wpAny_setField ho hd (by simp) (wpAny_pure ⟨x,rfl,wpAny_pure (hQ _ ?_ (Heap.SameBut.update ..))⟩))
 exact⟨_,Heap.get?_update_self _ ho (Obj.isFreed_of_fields (Obj.data_mapFields hd _)),(Obj.cls_mapFields ..).trans hc,by
  rw [Obj.data_mapFields hd];simp [rawInt]⟩
theorem yT{prog:Program}{w:World}{A:Around}{E:Value->Shared->Prop}{s:Shared}{it t:Addr}{i:Nat}{items:Array Value}{ol:Obj}{nl:Nat}{Q:Option Value->Shared->Prop}(hh:A.handled=none)
  (hit:IsTupIter s.heap it t i) (hol:s.heap.get? t=some ol) (hdl:ol.data= .seq items nl) (hx:items[i]? =none)
  (hQ:∀ h',Heap.ExtBut it s.heap h'->Q none {s with heap:=h'}):wpAny (model prog w) A (pyNext (.ref it)) Q E s:=by
 refine c8 (id hit) λo ho hc hd=>?_
 unfold pyNext
 refine wpAny_bind (wpAny_attempt (wpAny_callSpecial?_slot (name:=Str.ofString "__next__") hit.typeIs slot_tupleiter_next
  (wpAny_call_entry slot_tupleiter_next hit.typeIs entry_tupleiter_next ?_ (args_tupleiter_next _))))
 show wpAny _ _ (field (.ref it) 0 >>=_) _ _ s
 refine wpAny_bind (wpAny_field ho hd (x:=.ref t) rfl ?_)
 show wpAny _ _ (if (Value.ref t==Value.none)=true then _ else _) _ _ s
 rw [if_neg (show¬((Value.ref t==Value.none)=true) from Bool.false_ne_true)]
 show wpAny _ _ (field (.ref it) 1 >>=_) _ _ s
 refine wpAny_bind (wpAny_field ho hd (x:=.int i 0) rfl ?_)
 show wpAny _ _ (seqItems? (.ref t) >>=_) _ _ s
 refine wpAny_bind (wpAny_seqItems hol hdl ?_)
 simp only[Int.toNat_natCast,hx]
 refine wpAny_bind (wpAny_rule (wpAny_bind (wpAny_setField ho hd (by simp) ?_)))
 show wpAny _ _ (newExc (.type "StopIteration") [] >>=_) _ _ _
 refine wpAny_bind ?_
 simp only[newExc,newTuple]
 refine wpAny_bind (wpAny_newObj_type ?_ (by size_fits))
 refine wpAny_bind (m:=firstArgMember _ _) (wpAny_of_eq (a:=Value.none) (by first |rfl | (simp only[firstArgMember];rfl)) ?_)
 refine wpAny_newObj_type ?_ (by size_fits)
 simp only[raiseNew]
 refine wpAny_bind (wpAny_handled ?_)
 first |rw [show A.in1.handled=none from hh] |rw [hh]
 refine wpAny_bind (wpAny_pure (wpAny_throw ?_))
 refine wpAny_bind (wpAny_isInstance (T:="StopIteration") (b:=true) ⟨_,Heap.get?_push_size _ rfl,rfl⟩ isSubtype_stop ?_)
 exact wpAny_pure (hQ _ (((Heap.SameBut.update ..).extBut.push _).push _))
theorem uS{K:Frag}(hK:KMx C K){A:Around}{E:Value->Shared->Prop}{s:Shared}{a:Addr}{x y z:Value}{n:Nat}{dd:Option Addr}{targets:List (Bool×(Value->Sem Unit))}{Q:Unit->Shared->Prop}(hh:A.handled=none)(X:K.In s.heap)
  (hx:s.heap.get? a=some {cls:=.ref aE,dict:=dd,data:=.seq #[x,y,z] n}) (hn:targets.length=3) (hstar:targets.findIdx? (·.1)=none)
  (h:∀ h',(∀ b o,s.heap.get? b=some o->h'.get? b=some o)->wpAny C.M A (assignInOrder (targets.map (·.2)) [x,y,z]) Q E {s with heap:=h'}):wpAny C.M A (unpack (.ref a) targets) Q E s:=by
 unfold unpack
 rw [hn,hstar]
 refine wpAny_bind (wpAny_holding ?_)
 unfold unpackItems
 have tx:Looks C.M s.heap (typeOf (.ref a)) (.ref aE):=(Looks.ld hx).andThen .now
 have L1:=looks_findIn (M:=C.M) X hK.iter
 refine wpAny_bind ?_
 unfold notIterableAtAll specialOf
 refine wpAny_bind (wpAny_bind (tx.here (L1.here ?_)))
 refine wpAny_pure ?_
 simp only[Bool.false_eq_true,if_false]
 refine wpAny_bind (wpAny_holding (vB hK X hx ?_))
 have hne:a≠s.heap.objs.size:=Nat.ne_of_lt (Heap.lt_size hx)
 have hit0:IsTupIter (s.heap.push {cls:=.type "tuple_iterator",data:=.fields #[.ref a,.int 0 0]}) s.heap.objs.size a 0:=⟨_,Heap.get?_push_size _ rfl,rfl,rfl⟩
 have hx0:=Heap.get?_push_of_some {cls:=.type "tuple_iterator",data:=.fields #[.ref a,.int 0 0]} hx
 refine wpAny_bind (wpAny_holding ?_)
 show wpAny _ _ (pyNext _ >>=_) _ _ _
 refine wpAny_bind (jN (s:= {s with heap:=s.heap.push {cls:=.type "tuple_iterator",data:=.fields #[.ref a,.int 0 0]}}) hit0 hx0 rfl (x:=x) rfl λh1 hit1 hs1=>?_)
 have hx1:=hs1.extBut a _ hne hx0
 refine wpAny_bind (wpAny_holding ?_)
 show wpAny _ _ (pyNext _ >>=_) _ _ _
 refine wpAny_bind (jN (s:= {s with heap:=h1}) hit1 hx1 rfl (x:=y) rfl λh2 hit2 hs2=>?_)
 have hx2:=hs2.extBut a _ hne hx1
 refine wpAny_bind (wpAny_holding ?_)
 show wpAny _ _ (pyNext _ >>=_) _ _ _
 refine wpAny_bind (jN (s:= {s with heap:=h2}) hit2 hx2 rfl (x:=z) rfl λh3 hit3 hs3=>?_)
 have hx3:=hs3.extBut a _ hne hx2
 refine wpAny_bind (wpAny_holding ?_)
 show wpAny _ _ (pure []) _ _ _
 refine wpAny_pure (wpAny_pure (wpAny_pure (wpAny_pure ?_)))
 rw [if_neg (by simp)]
 refine wpAny_bind (wpAny_holding (yT (s:= {s with heap:=h3}) hh hit3 hx3 rfl rfl λh4 he4=>?_))
 simp only[Option.isSome_none,Bool.false_eq_true,if_false]
 refine wpAny_pure (h h4 λb o e=>?_)
 have hb:b≠s.heap.objs.size:=Nat.ne_of_lt (Heap.lt_size e)
 exact he4 b o hb (hs3.extBut b o hb (hs2.extBut b o hb (hs1.extBut b o hb (Heap.get?_push_of_some _ e))))
def V.mt:V->Option (Int×Int×Int) | .mat i j k=>some (i,j,k) |_=>Option.none
theorem mt_ok{v:V}{p:Int×Int×Int}(e:v.mt=some p):v= .mat p.1 p.2.1 p.2.2:=by
 cases v with
 |mat=>cases e;rfl
 |_=>first |exact aI e |cases e
def dD(n:Nat)(g:AFs):AF:=λv lo H Q=>match v.mt with
 |some p=>n=3/\g [.int p.1,.int p.2.1,.int p.2.2] lo H Q
 |none=>aTup n g v lo H Q
theorem AV.tupleM{K:Frag}(hK:KMx C K){ts:List Expr}{k:Nat}{pos}{n:Nat}{g:AFs}(h:AVs C r env ts g)(hn:(assignEach ts env).length=n:=by exact rfl)(hstar:(assignEach ts env).findIdx? (·.1)=none:=by rfl'):AV C r env (.Tuple ts k pos) (dD n g):=by
 intro A s ρ H lo u v Q hr S F rv e
 unfold dD at e
 split at e
 ·rename_i p hp
  obtain⟨h3,e⟩:=e
  subst h3
  obtain⟨a,n,t1,t2,t3,dd,rfl,hx⟩:=rv.toMat (mt_ok hp)
  rw [assign_Tuple]
  refine wpAny_bind (wpAny_standAt (uS hK hr.1 (hK.toK.mem.keeps S.keep) hx hn hstar λh' hk=>?_))
  exact wmN (h hr (S.extS hk) (F.nx (.ext (k:=s.toks) hk)) (.cons (.int _ _) (.cons (.int _ _) (.cons (.int _ _) .nil))) e) λ_ _ p=>p.from (Nx.ext (k:=s.toks) hk)
 ·exact AVW.tuple h hn hstar hr S F rv e
def cI:CF:=λvs H Q=>match (one vs).bind V.mt with
 |some _=>Q (.int 3) H
 |none=>cLen vs H Q
end
section
variable {C:Cx}{r:Nat}{env:Env}
set_option maxHeartbeats 1000000 in
theorem sE{K:Frag}(hK:KMx C K){A:Around}{E:Value->Shared->Prop}{s:Shared}{a:Addr}{xs:Array Value}{n:Nat}{dd:Option Addr}{Q:Value->Shared->Prop}(X:K.In s.heap)(hx:s.heap.get? a=some {cls:=.ref aE,dict:=dd,data:=.seq xs n})(hfit:(xs.size:Int)<2 ^ 63)
  (h:Q (.int xs.size (s.toks+1)) {s with toks:=s.toks+1+1}):wpAny C.M A (call (.builtin "len") [.ref a]) Q E s:=by
 refine call_function_entry kind_len plain_len entry_len (args_len1 _) ?_
 unfold Builtin.«len»
 refine wpAny_bind (m:=oneArg "len" _) (wpAny_pure ?_)
 have tx:Looks C.M s.heap (typeOf (.ref a)) (.ref aE):=(Looks.ld hx).andThen .now
 have L1:=looks_findIn (M:=C.M) X hK.len
 have isI:Looks C.M s.heap (isInstance (.ref a) (.type "tuple")) true:=tx.andThen (looks_subIn X hK.tup)
 have bI:=Looks.of_pure (M:=C.M) (h:=s.heap) (slot_tuple_len.bind (.ref a))
 have key:∀ {A':Around}{E':Value->Shared->Prop}{Q':Option Value->Shared->Prop},Q' (some (.int xs.size s.toks)) {s with toks:=s.toks+1}->wpAny C.M A' (callSpecial? (.ref a) "__len__") Q' E' s:=by
  intro A' E' Q' hq
  unfold callSpecial? specialOf
  refine wpAny_bind (wpAny_bind (tx.here (L1.here ?_)))
  dsimp only
  refine wpAny_holding (wpAny_bind (bI.here ?_))
  refine wpAny_bind (wpAny_call ?_)
  refine codeAny_call_builtin zY zZ (check_slot aEq zX isI (aEr _) ?_)
  show wpAny _ _ (do let ts<-Builtin.Tuple.tupleItemsOf (.ref a);retInt ts.size) _ _ s
  unfold Builtin.Tuple.tupleItemsOf
  refine wpAny_bind (wpAny_bind (wpAny_seqItems hx rfl (wpAny_pure (wpAny_bind (wpAny_mkInt (wpAny_pure (wpAny_pure hq)))))))
 refine wpAny_bind (key ?_)
 refine wpAny_bind (wpAny_holding (wpAny_pure ?_))
 refine wpAny_bind (wpAny_letGo ?_)
 rw [if_neg A14,if_neg (A45 hfit)]
 exact wpAny_bind (wpAny_mkInt (wpAny_pure ⟨_,rfl,h⟩))
theorem CV.lenM{K:Frag}(hK:KMx C K):CV C r (.builtin "len") cI:=by
 refine⟨dM,?_⟩
 intro A s ρ H us vs Q hr S rs e
 unfold cI at e
 split at e
 ·rename_i p hp
  refine xEA (Option.bind_eq_some_iff.mp hp) λv hv hp=>?_
  refine xEA (lI rs hv) λu z119 ru=>?_;subst z119
  refine jV (ru.toMat (mt_ok hp)) λa n t1 t2 t3 dd z120 hx=>?_;subst z120
  exact sE hK (hK.toK.mem.keeps S.keep) hx (by simp) (.tok (k:=s.toks+1+1) S (.int _ _) e)
 ·exact CV.len.call hr S rs e
end
section
variable {C:Cx}{r:Nat}{env:Env}
theorem vH:typeLookup (.type "map") "__len__" =pure none:=by rw[typeLookup_type,builtinLookup_eq_fast];kernel_rfl
theorem tF:typeLookup (.type "map") "__length_hint__" =pure none:=by rw[typeLookup_type,builtinLookup_eq_fast];kernel_rfl
theorem aBq:Slot "map" "__init__" "object.__init__" :=
 .of (owner:="object") (n:="__init__") (by rw[typeLookup_type,builtinLookup_eq_fast];kernel_rfl) (by decide+kernel) (by decide+kernel) (by decide+kernel)
  (by first |exact .inl (by decide+kernel) |exact .inr (by decide+kernel)) (by rw[isSubtype_type];kernel_rfl)
theorem iP:Slot "map" "__next__" "map.__next__" :=
 .of (owner:="map") (n:="__next__") (by rw[typeLookup_type,builtinLookup_eq_fast];kernel_rfl) (by decide+kernel) (by decide+kernel) (by decide+kernel)
  (by first |exact .inl (by decide+kernel) |exact .inr (by decide+kernel)) (by rw[isSubtype_type];kernel_rfl)
theorem tG:Slot "map" "__iter__" "map.__iter__" :=
 .of (owner:="map") (n:="__iter__") (by rw[typeLookup_type,builtinLookup_eq_fast];kernel_rfl) (by decide+kernel) (by decide+kernel) (by decide+kernel)
  (by first |exact .inl (by decide+kernel) |exact .inr (by decide+kernel)) (by rw[isSubtype_type];kernel_rfl)
theorem iO:entryFor table "map.__next__" =some Builtin.«map.__next__»:=entryFor_of_tree ⋯
theorem jE(a:Value):argsOk "map.__next__" ⟨[a],[]⟩:=by unfold argsOk;kernel_rfl
theorem nK:entryFor table "map.__iter__" =some Builtin.«dict_keyiterator.__iter__»:=
 entryFor_alias (id':="dict_keyiterator.__iter__") (by rw[fastTable_eq_tree];kernel_rfl) (by first |rfl |decide+kernel) (by decide+kernel) (by rw[fastTable_eq_tree];kernel_rfl)
theorem pL(a:Value):argsOk "map.__iter__" ⟨[a],[]⟩:=by unfold argsOk;kernel_rfl
theorem w4:mroOf (.type "map")=pure [.type "map",.type "object"]:=by rw[mroOf_type];kernel_rfl
theorem aBp:typeLookup (.type "map") "__new__" =pure (some (.builtin "map.__new__")):=by rw[typeLookup_type,builtinLookup_eq_fast];kernel_rfl
theorem vI:TypeCalled "map" "map.__new__" "object.__init__" :=
 ⟨by decide+kernel,by decide+kernel,⟨_,_,w4⟩,madeBy_type w4 aBp (by decide+kernel),by decide+kernel,by rw[isSubtype_type];kernel_rfl,aBq⟩
theorem yX(a b:Value):checkTypeCall "map" ⟨[a,b],[]⟩=pure ():=by rfl'
theorem yY(a b:Value):checkBuiltinCall "map.__new__" ⟨[.type "map",a,b],[]⟩=pure ():=by rfl'
theorem pK:entryFor table "map.__new__" =some Builtin.«map.__new__»:=entryFor_of_tree ⋯
theorem aFn:isSubtype (.type "map") (.type "map")=pure true:=by rw[isSubtype_type];kernel_rfl
end
section
variable {C:Cx}{r:Nat}{env:Env}
noncomputable abbrev aBs(h:Heap)(l:Addr):Heap:=h.push {cls:=.type "list_iterator",data:=.fields #[.ref l,.int 0 0]}
noncomputable abbrev w5(h:Heap)(l:Addr):Heap:=(aBs h l).push {cls:=.type "tuple",data:=.seq #[.ref h.objs.size]}
noncomputable abbrev aBr(h:Heap)(f:Value)(l:Addr):Heap:=(w5 h l).push {cls:=.type "map",data:=.fields #[.ref (aBs h l).objs.size,f]}
theorem pJ(f:Value)(l:Addr)(xs:Array Value):
  Meets (Builtin.«map.__new__» ⟨[.type "map",f,.ref l],[]⟩) (λ_ R s=>s.heap.IsList l xs/\R (.ok (.ret (.ref (w5 s.heap l).objs.size))) {s with heap:=aBr s.heap f l}):=
 .of_wp λprog w A R s h=>by
  obtain⟨hp,g,d,tk,os⟩:=s;refine xA h λhl1 h=>?_
  have hsub:=aFn
  have hL1:Heap.IsList (Shared.heap ⟨hp,g,d,tk,os⟩) l xs:=hl1
  wp_walk using wpAny_pyIter_list hL1
  exact⟨_,rfl,h⟩
theorem aDt{prog:Program}{w:World}{A:Around}{E:Value->Shared->Prop}{s:Shared}{f:Value}{l:Addr}{xs:Array Value}{Q:Value->Shared->Prop}(hl:s.heap.IsList l xs)
  (h:Q (.ref (w5 s.heap l).objs.size) {s with heap:=aBr s.heap f l}):wpAny (model prog w) A (call (.type "map") [f,.ref l]) Q E s:=by
 refine callType_new vI (by decide) (yX _ _) (yY _ _) (λobj=>PySem.F.args_object_init_3 obj _ _) pK (pJ f l xs) ⟨hl,?_⟩
 exact⟨⟨_,Heap.get?_push_size _ rfl,rfl⟩,h⟩
theorem jO{prog:Program}{w:World}{A:Around}{E:Value->Shared->Prop}{s:Shared}{it l:Addr}{i:Nat}{items:Array Value}{x:Value}{Q:Option Value->Shared->Prop}(hit:s.heap.IsListIter it l i)
  (hl:s.heap.IsList l items) (hx:items[i]? =some x)
  (hQ:∀ h',h'.IsListIter it l (i+1)->Heap.SameBut it s.heap h'->Q (some x) {s with heap:=h'}):wpAny (model prog w) A (callSpecial? (.ref it) "__next__") Q E s:=by
 refine c8 (id hit) λo ho hc hd=>?_
 refine wD hl λol hol _ nl hdl=>?_
 refine wpAny_callSpecial?_slot (name:=Str.ofString "__next__") hit.typeIs slot_listiter_next
  (wpAny_call_entry slot_listiter_next hit.typeIs entry_listiter_next ?_ (args_listiter_next _))
 show wpAny _ _ (field (.ref it) 0 >>=_) _ _ s
 refine wpAny_bind (wpAny_field ho hd (x:=.ref l) rfl ?_)
 show wpAny _ _ (if (Value.ref l==Value.none)=true then _ else _) _ _ s
 rw [if_neg (show¬((Value.ref l==Value.none)=true) from Bool.false_ne_true)]
 show wpAny _ _ (field (.ref it) 1 >>=_) _ _ s
 refine wpAny_bind (wpAny_field ho hd (x:=.int i 0) rfl ?_)
 show wpAny _ _ (seqItems? (.ref l) >>=_) _ _ s
 refine wpAny_bind (wpAny_seqItems hol hdl ?_)
 simp only[Int.toNat_natCast,hx]
 refine wpAny_bind (wpAny_setField ho hd (by simp) (wpAny_pure ⟨x,rfl,hQ _ ?_ (Heap.SameBut.update ..)⟩))
 exact⟨_,Heap.get?_update_self _ ho (Obj.isFreed_of_fields (Obj.data_mapFields hd _)),(Obj.cls_mapFields ..).trans hc,by
  rw [Obj.data_mapFields hd];simp [rawInt]⟩
theorem j6{prog:Program}{w:World}{A:Around}{E:Value->Shared->Prop}{s:Shared}{it l:Addr}{i:Nat}{items:Array Value}{Q:Option Value->Shared->Prop}(hh:A.handled=none)
  (hit:s.heap.IsListIter it l i) (hl:s.heap.IsList l items) (hx:items[i]? =none)
  (hE:∀ h' y,(∃ o,h'.get? y=some o/\o.cls= .type "StopIteration")->Heap.ExtBut it s.heap h'->E (.ref y) {s with heap:=h'}):wpAny (model prog w) A (callSpecial? (.ref it) "__next__") Q E s:=by
 refine c8 (id hit) λo ho hc hd=>?_
 refine wD hl λol hol _ nl hdl=>?_
 refine wpAny_callSpecial?_slot (name:=Str.ofString "__next__") hit.typeIs slot_listiter_next
  (wpAny_call_entry slot_listiter_next hit.typeIs entry_listiter_next ?_ (args_listiter_next _))
 show wpAny _ _ (field (.ref it) 0 >>=_) _ _ s
 refine wpAny_bind (wpAny_field ho hd (x:=.ref l) rfl ?_)
 show wpAny _ _ (if (Value.ref l==Value.none)=true then _ else _) _ _ s
 rw [if_neg (show¬((Value.ref l==Value.none)=true) from Bool.false_ne_true)]
 show wpAny _ _ (field (.ref it) 1 >>=_) _ _ s
 refine wpAny_bind (wpAny_field ho hd (x:=.int i 0) rfl ?_)
 show wpAny _ _ (seqItems? (.ref l) >>=_) _ _ s
 refine wpAny_bind (wpAny_seqItems hol hdl ?_)
 simp only[Int.toNat_natCast,hx]
 refine wpAny_bind (wpAny_rule (wpAny_bind (wpAny_setField ho hd (by simp) ?_)))
 show wpAny _ _ (newExc (.type "StopIteration") [] >>=_) _ _ _
 refine wpAny_bind ?_
 simp only[newExc,newTuple]
 refine wpAny_bind (wpAny_newObj_type ?_ (by size_fits))
 refine wpAny_bind (m:=firstArgMember _ _) (wpAny_of_eq (a:=Value.none) (by first |rfl | (simp only[firstArgMember];rfl)) ?_)
 refine wpAny_newObj_type ?_ (by size_fits)
 simp only[raiseNew]
 refine wpAny_bind (wpAny_handled ?_)
 rw [show A.in1.handled=none from hh]
 refine wpAny_bind (wpAny_pure (wpAny_throw ?_))
 exact hE _ _ ⟨_,Heap.get?_push_size _ rfl,rfl⟩ (((Heap.SameBut.update ..).extBut.push _).push _)
structure uO(h:Heap)(z TI it m l:Addr)(k:Nat):Prop where
 z:h.get? z=some {cls:=.type "map",data:=.fields #[.ref TI,.ref m]}
 TI:h.get? TI=some {cls:=.type "tuple",data:=.seq #[.ref it]}
 it:h.IsListIter it l k
 m:h.get? m=some (methodObj (.ref 89) (.ref aE))
theorem aBo{prog:Program}{w:World}{A:Around}{E:Value->Shared->Prop}{s:Shared}{z TI it m l:Addr}{k:Nat}{items:Array Value}{x:Value}{Q:Option Value->Shared->Prop}(P:uO s.heap z TI it m l k)(hzi:z≠it)(hTi:TI≠it)(hmi:m≠it)
  (hl:s.heap.IsList l items) (hx:items[k]? =some x)
  (hQ:∀ h',uO h' z TI it m l (k+1)->Heap.SameBut it s.heap h'->codeAny (model prog w) A.in1 (.call (.ref 89) ⟨[.ref aE,x],[]⟩) (λrr s'=>match rr with | .ok (.ret v)=>Q (some v) s' |_=>False) {s with heap:=h'}):
  wpAny (model prog w) A (pyNext (.ref z)) Q E s:=by
 have hT:s.TypeIs (.ref z) "map" :=⟨_,P.z,rfl⟩
 unfold pyNext
 refine wpAny_bind (wpAny_attempt (wpAny_callSpecial?_slot (name:=Str.ofString "__next__") hT iP (wpAny_call_entry iP hT iO ?_ (jE _))))
 unfold Builtin.«map.__next__»
 refine wpAny_bind (m:=slotArgs "__next__" 0 _) (wpAny_pure ?_)
 refine wpAny_bind (wpAny_field P.z rfl (x:=.ref TI) rfl ?_)
 refine wpAny_bind (wpAny_seqItems P.TI rfl ?_)
 dsimp only
 rw [<-Array.forIn_toList]
 show wpAny _ _ (forIn [Value.ref it] #[] _ >>=_) _ _ s
 rw [List.forIn_cons]
 refine wpAny_bind (wpAny_bind (wpAny_bind (wpAny_holding ?_)))
 unfold Builtin.SmallTypes.nextOf
 refine wpAny_bind (jO P.it hl hx λh1 hit1 hs1=>?_)
 refine wpAny_pure (wpAny_pure ?_)
 dsimp only
 rw [List.forIn_nil]
 refine wpAny_pure ?_
 have P1:uO h1 z TI it m l (k+1):=⟨hs1.extBut z _ hzi P.z,hs1.extBut TI _ hTi P.TI,hit1,hs1.extBut m _ hmi P.m⟩
 refine wpAny_bind (wpAny_field (s:= {s with heap:=h1}) P1.z rfl (x:=.ref m) rfl ?_)
 refine wpAny_bind (wpAny_holding (wpAny_call (method_call (s:= {s with heap:=h1}) P1.m ?_)))
 refine codeAny_mono (hQ h1 P1 hs1) ?_
 intro rr s' hr
 cases rr with
 |error e=>exact hr.elim
 |ok f=>
  cases f with
  |ret v=>exact wpAny_bind (wpAny_letGo (wpAny_pure ⟨v,rfl,wpAny_pure hr⟩))
  |_=>exact hr.elim
theorem aFo{prog:Program}{w:World}{A:Around}{E:Value->Shared->Prop}{s:Shared}{z TI it m l:Addr}{k:Nat}{items:Array Value}{Q:Option Value->Shared->Prop}(hh:A.handled=none)(P:uO s.heap z TI it m l k)
  (hl:s.heap.IsList l items) (hx:items[k]? =none) (hQ:∀ h',Heap.ExtBut it s.heap h'->Q none {s with heap:=h'}):wpAny (model prog w) A (pyNext (.ref z)) Q E s:=by
 have hT:s.TypeIs (.ref z) "map" :=⟨_,P.z,rfl⟩
 unfold pyNext
 refine wpAny_bind (wpAny_attempt (wpAny_callSpecial?_slot (name:=Str.ofString "__next__") hT iP (wpAny_call_entry iP hT iO ?_ (jE _))))
 unfold Builtin.«map.__next__»
 refine wpAny_bind (m:=slotArgs "__next__" 0 _) (wpAny_pure ?_)
 refine wpAny_bind (wpAny_field P.z rfl (x:=.ref TI) rfl ?_)
 refine wpAny_bind (wpAny_seqItems P.TI rfl ?_)
 dsimp only
 rw [<-Array.forIn_toList]
 show wpAny _ _ (forIn [Value.ref it] #[] _ >>=_) _ _ s
 rw [List.forIn_cons]
 refine wpAny_bind (wpAny_bind (wpAny_bind (wpAny_holding ?_)))
 unfold Builtin.SmallTypes.nextOf
 refine wpAny_bind (j6 hh P.it hl hx λh1 y hy he=>?_)
 refine xEA hy λo ho hc=>?_
 refine wpAny_bind (wpAny_isInstance (T:="StopIteration") (b:=true) ⟨o,ho,hc⟩ isSubtype_stop ?_)
 exact wpAny_pure (hQ h1 he)
theorem Ti_eq{v:V}{i:Int}(e:Ti v=some i):v= .int i:=by
 cases v with
 |int=>cases e;rfl
 |_=>first |exact aI e |cases e
theorem aEe:∀ {vs:List V}{is:List Int},Tis vs=some is->vs=is.map .int
 | [],_,e=>by cases e;rfl
 |v :: vs,is,e=>by
  simp only[Tis,List.mapM_cons,Option.bind_eq_bind,Option.bind_eq_some_iff,Option.pure_def,Option.some.injEq]at e
  refine zI e λi h1 js h2 z121=>?_;clear e;subst z121
  rw [Ti_eq h1,aEe h2];rfl
def t3(v:V):Option (Int×Int×Int):=(v.tp.bind Tis).bind i3
theorem t3_eq{v:V}{p:Int×Int×Int}(e:t3 v=some p):v= .tup [.int p.1,.int p.2.1,.int p.2.2]:=by
 refine xEA (Option.bind_eq_some_iff.mp e) λl h1 h2=>?_
 refine xEA (Option.bind_eq_some_iff.mp h1) λws h3 h4=>?_
 obtain rfl:=i3_ok h2
 obtain rfl:=aEe h4
 cases v with
 |tup=>cases h3;rfl
 |_=>cases h3
def oG(C:Cx)(r:Nat):Prop:=∀ {A:Around}{s:Shared}{ρ:List Lc}{H:MH}{a:Value}{i j k:Int},Room r A->Sim C H ρ s->VR ρ s.heap a (.tup [.int i,.int j,.int k])->
 codeAny C.M A (.call (.ref 89) ⟨[.ref aE,a],[]⟩) (sM C ρ s λv H'=>v= .mat i j k/\H'=H) s
inductive MpR(ρ:List Lc)(h:Heap)(σ:Nat×Nat):Value->(Addr->Prop)->Prop
 |mk {z TI it m l} (h1:ρ[σ.1]? =some l) (n1:z≠it) (n2:TI≠it) (n3:m≠it) (P:uO h z TI it m l.a σ.2):MpR ρ h σ (.ref z) (λb=>b=z∨b=it∨b=m)
theorem MpR.mono{ρ ρ':List Lc}{h h':Heap}{σ:Nat×Nat}{x:Value}{X:Addr->Prop}(R:MpR ρ h σ x X)(e:ρ<+:ρ')(i:Imm h h')(hk:∀ b o,X b->h.get? b=some o->h'.get? b=some o):MpR ρ' h' σ x X:=by
 cases R with
 |mk h1 n1 n2 n3 P=>
  obtain⟨p1,p2,⟨o,p3,p3'⟩,p4⟩:=P
  exact .mk (aL e h1) n1 n2 n3 ⟨hk _ _ (.inl rfl) p1,i _ _ p2 (by simp [aS]),⟨o,hk _ _ (.inr (.inl rfl)) p3,p3'⟩,hk _ _ (.inr (.inr rfl)) p4⟩
theorem NxI.thenN{ρ ρ1 ρ2:List Lc}{X:Addr->Prop}{s s1 s2:Shared}(I:NxI ρ X s ρ1 s1)(N:Nx ρ1 noW s1 ρ2 s2)(hX:∀ b,X b->(∃ o,s.heap.get? b=some o)->∃ o,s1.heap.get? b=some o):NxI ρ X s ρ2 s2:=by
 refine⟨I.pre.trans N.pre,λl hl=>?_,λb o e ho hx=>N.kp b o (I.kp b o e ho hx) (I.owns e ho) id,I.imm.trans N.imm,λb o e hx=>let ⟨o',e'⟩:=I.al b o e hx;N.al b o' e'⟩
 refine xE I.pre λt z122=>?_;subst z122
 refine xE N.pre λt' z123=>?_;subst z123
 rw [List.append_assoc,List.drop_left]at hl
 have fr:∀ b,s1.heap.get? b=none->s.heap.get? b=none:=λb hb=>by
  cases e:s.heap.get? b with
  |none=>rfl
  |some o=>
   have:∃ o',s1.heap.get? b=some o':=Classical.byCases (λq:X b=>hX b q ⟨o,e⟩) λq=>I.al b o e q
   refine xE this λo' e'=>?_
   rw [hb]at e';cases e'
 refine Or.elim (List.mem_append.mp hl) (λq=>?_) λq=>?_
 ·exact I.new l (by simpa using q)
 ·have n:=N.new l (by simpa using q)
  exact⟨fr _ n.1,fr _ n.2⟩
def tL(C:Cx)(r0:Nat)(hm:oG C r0):ItK C where
 σ:=Nat×Nat
 nx:=λit H Q=>Lf (lst H (.ref it.1)) λvs=>match vs[it.2]? with
  |none=>Q none H
  |some v=>Lf (t3 v) λp=>Q (some (.mat p.1 p.2.1 p.2.2,(it.1,it.2+1))) H
 rel:=λρ s σ x X=>MpR ρ s.heap σ x X
 mid:=λρ s σ u x X=>MpR ρ s.heap σ x X
 tg:=λ_=>True
 need:=r0+1
 mono:=λR e i hk=>R.mono e i hk
 alive:=λR b hb=>by
  cases R with
  |mk h1 n1 n2 n3 P=>
   obtain⟨p1,p2,⟨o,p3,p3'⟩,p4⟩:=P
   rcases hb with rfl |rfl |rfl
   ·exact⟨_,p1⟩
   ·exact⟨_,p3⟩
   ·exact⟨_,p4⟩
 next:=λ{A s ρ H σ x X Q r} hnd hr S R hX q=>by
  have hr':Room r0 A.in1:=by
   refine xAA hr λa b c=>?_
   exact⟨a,by show A.depth+10*r0<=700;exact A46 hnd b,by show A.units+1+40*r0<=8000;exact A47 hnd c⟩
  refine q.elim λvs hl q=>?_
  cases R with
  |mk h1 n1 n2 n3 P=>
  rename_i z TI it m l
  refine cJ (cZ S (.ref h1) hl) λad xs q1 q2 q3=>?_
  cases q1
  refine c8 P.it λoi hoi hci hdi=>?_
  have hi:∀ o,s.heap.get? it=some o->¬aS o:=λo' e'=>by rw[hoi]at e';cases e';exact rO hci hdi
  have hXi:=hX it (.inr (.inl rfl))
  cases hv:vs[σ.2]? with
  |some v=>
   rw [hv]at q
   refine Lf.elim (o:=t3 v) q λp hp q=>?_
   refine xEA (q3.get hv) λu hu ru=>?_
   rw [t3_eq hp]at ru
   refine aBo P n1 n2 n3 q2 (by simpa using hu) λh' P' hs=>?_
   have st:=S.iterStep (h':=h') (a:=it) (λb o hb e=>(hs.2 b hb).trans e) hi hXi.1 hXi.2
   refine sM.run (hm hr' st.1 (ru.mono (List.prefix_refl _) st.2.imm)) λS2 N2 r2 q2=>?_
   refine xA q2 λqv z124=>?_;clear q2;subst z124
   have kp:∀ b o,(b=z∨b=it∨b=m)->h'.get? b=some o->_:=λb o hb eb=>N2.kp b o eb (hX b hb).1 (λq=>q)
   have I2:=st.2.thenN N2 λb hb _=>by rw[show b=it from hb];refine xEA P'.it λo e _=>?_;exact⟨o,e⟩
   refine .item (it':=(σ.1,σ.2+1)) S2 ⟨I2.pre,I2.new,λb o e ho hb=>I2.kp b o e ho λq=>hb (.inr (.inl q)),I2.imm,λb o e hb=>I2.al b o e λq=>hb (.inr (.inl q))⟩ r2 ?_ (by rw[qv];exact q)
   refine xEA P'.it λoi' e1' e2'=>?_
   exact .mk (aL N2.pre h1) n1 n2 n3 ⟨kp z _ (.inl rfl) P'.z,N2.imm _ _ P'.TI (by simp [aS]),⟨oi',kp it _ (.inr (.inl rfl)) e1',e2'⟩,kp m _ (.inr (.inr rfl)) P'.m⟩
  |none=>
   rw [hv]at q
   refine aFo hr.1 P q2 (Array.getElem?_eq_none (by rw[q3.sz];exact List.getElem?_eq_none_iff.mp hv)) λh' he=>?_
   have st:=S.iterStep (h':=h') (a:=it) (λb o hb e=>he b o hb e) hi hXi.1 hXi.2
   exact .done st.1 ⟨st.2.pre,st.2.new,λb o e ho hb=>st.2.kp b o e ho (λq=>hb (.inr (.inl q))),st.2.imm,λb o e hb=>st.2.al b o e (λq=>hb (.inr (.inl q)))⟩ q
 lgo:=λ{A s ρ H σ x X u target r} hr S R _ hX=>by
  have R':=R
  cases R with
  |mk h1 n1 n2 n3 P=>exact i9 (T:="map") P.z rfl (by decide) ⟨S,.refl,R'⟩
end
section
variable {C:Cx}{r:Nat}{env:Env}
theorem vC{prog:Program}{w:World}{A:Around}{E:Value->Shared->Prop}{s:Shared}{z:Addr}{Q:Value->Shared->Prop}(hT:s.TypeIs (.ref z) "map")(h:Q (.ref z) s):wpAny (model prog w) A (pyIter (.ref z)) Q E s:=by
 refine wpAny_pyIter_slot hT tG (wpAny_call_entry tG hT nK ?_ (pL _))
 show wpAny _ _ (ret (.ref z)) _ _ s
 exact wpAny_pure ⟨_,rfl,"map",_,hT,iP.lookup,h⟩
theorem aBv{r0:Nat}(hm:oG C r0){n:Nat}{A:Around}{s0 s:Shared}{ρ0 ρ:List Lc}{H:MH}{σ:Nat×Nat}{z:Addr}{X:Addr->Prop}{Q:MH->Prop}(hnd:r0+1<=r)(hr:Room (r+1) A)(N0:Nx ρ0 noW s0 ρ s)(S:Sim C H ρ s)(R:MpR ρ s.heap σ (.ref z) X)
  (hX:∀ b,X b->s0.heap.get? b=none/\¬Own ρ b/\C.base.heap.get? b=none)
  (e:dQ (tL C r0 hm) H.length n σ (H++[.list []]) Q):wpAny C.M A (call (.type "list") [.ref z]) (b6 C ρ0 s0 λv H'=>v= .ref H.length/\Q H') NoE s:=by
 have hz:∃ TI m,s.heap.get? z=some {cls:=.type "map",data:=.fields #[TI,m]}:=by
  cases R with
  |mk h1 n1 n2 n3 P=>exact⟨_,_,P.z⟩
 refine xEE hz λTI m hz=>?_
 exact qC (K:=tL C r0 hm) (T:="map") hnd (λM=>M) (by decide) (by decide) vH tF hr N0 S R hX ⟨_,hz,rfl⟩ (λs' h q=>vC ⟨_,h.trans hz,rfl⟩ q) e
end
section
variable {C:Cx}{r:Nat}{env:Env}
theorem rU{K:Frag}(hK:KCx C K){A:Around}{E:Value->Shared->Prop}{s:Shared}{b:Bool}{Q:Value->Shared->Prop}(X:K.In s.heap)
  (h:Q (.ref s.heap.objs.size) {s with heap:=s.heap.push (methodObj (.ref 89) (.ref aE)),toks:=s.toks+1}):wpAny C.M A (getAttr (.ref aE) "_make" b) Q E s:=by
 refine xE hK.cmM λbb hb=>?_
 refine cls_bind X hK.readsM hK.makeM (wpAny_call (cm_get (s:= {s with toks:=s.toks+1}) X hb ?_))
 exact handed_on rfl h
theorem uL{M:Model}{A:Around}{E:Value->Shared->Prop}{s:Shared}{f:Value}{pos:Pos}{e:Expr}{es:List Expr}{Q:Args->Shared->Prop}(he:starEach (e :: es) env=(false,eval e env) :: starEach es env)
  (h:wpAny M A (spliced (backTo pos (starEach (e :: es) env))) (λvs s'=>Q ⟨vs,[]⟩ s') E s):wpAny M A (evalArgs f true (backTo pos (starEach (e :: es) env)) []) Q E s:=by
 rw [he]at h ⊢
 exact evalArgs_plain h
def eLM(K:ItK C)(σ:Nat->K.σ)(f:EF):EF:=λlo H Q=>f lo H λa H1=>Lf a.rf λci=>(∃ vs,lst H1 (.ref ci)=some vs)/\∃ n,dQ K H1.length n (σ ci) (H1++[.list []]) λH2=>Q (.ref H1.length) H2
theorem EV.listMap{K:Frag}(hK:KCx C K){r0:Nat}(hm:oG C r0)(hnd:r0+1<=r){p1 p2 p3 p4 p5 p6:Pos}{e:Expr}{f:EF}(he:EV C (r+1) env e f)
  (gl:Glo C "list" (.type "list")) (gm:Glo C "map" (.type "map")) (gM:Glo C "Match" (.ref aE)) (kl:env.kindOf "list" =some .globalImplicit) (km:env.kindOf "map" =some .globalImplicit) (kM:env.kindOf "Match" =some .globalImplicit)
  (e1:starEach [.Call (.Name "map" p2) [.Attribute (.Name "Match" p3) "_make" p4,e] [] p5] env=(false,eval (.Call (.Name "map" p2) [.Attribute (.Name "Match" p3) "_make" p4,e] [] p5) env) :: starEach [] env)
  (e2:starEach [.Attribute (.Name "Match" p3) "_make" p4,e] env=(false,eval (.Attribute (.Name "Match" p3) "_make" p4) env) :: starEach [e] env) (e3:starEach [e] env=(false,eval e env) :: starEach [] env)
  (b1:∀ pos,(backTo pos (starEach [.Call (.Name "map" p2) [.Attribute (.Name "Match" p3) "_make" p4,e] [] p5] env)).any (·.1)=false) (b2:∀ pos,(backTo pos (starEach [.Attribute (.Name "Match" p3) "_make" p4,e] env)).any (·.1)=false)
  (hab:attributeBase (.Name "Match" p3) "_make" env (eval (.Name "Match" p3) env)=eval (.Name "Match" p3) env) (hlt:∀ o y,letTemporaryGo (.Name "Match" p3) o y=pure ()):
  EV C (r+1) env (.Call (.Name "list" p1) [.Call (.Name "map" p2) [.Attribute (.Name "Match" p3) "_make" p4,e] [] p5] [] p6) (eLM (tL C r0 hm) (λi=>(i,0)) f):=by
 intro A s ρ H lo Q hr S F q
 refine wpAny_Call_ofName (lL gl kl (by decide+kernel) S F ?_)
 refine callWith_of (P:=λh=>∀ b o,C.base.heap.get? b=some o->h.get? b=some o) (by rw[b1];rfl) dX ?_
 refine uL e1 (wpAny_items_cons ?_ e1)
 refine wpAny_Call_ofName (lL gm km (by decide+kernel) S F ?_)
 refine callWith_of (P:=λh=>∀ b o,C.base.heap.get? b=some o->h.get? b=some o) (by rw[b2];rfl) dX ?_
 refine uL e2 (wpAny_items_cons ?_ e2)
 refine c7 hab (lL gM kM (by decide+kernel) S F ?_)
 refine rU hK (hK.mem.keeps S.keep) ?_
 have N0:Nx ρ noW s ρ {s with heap:=s.heap.push (methodObj (.ref 89) (.ref aE)),toks:=s.toks+1}:=(Nx.push _).trans (.toks _)
 have hm0:(s.heap.push (methodObj (.ref 89) (.ref aE))).get? s.heap.objs.size=some (methodObj (.ref 89) (.ref aE)):=Heap.get?_push_size _ rfl
 refine wpAny_items_cons (he.run hr ((S.push (methodObj (.ref 89) (.ref aE))).toks (s.toks+1)) (F.nx N0) q λ{x s1 ρ1 v1 H1} S1 N1 r1 q=>q.elim λci hci q=>?_) e3
 refine xAE q λz125 n q=>?_;obtain⟨vs,hl⟩:=z125
 refine wpAny_items_nil ⟨S1.keep,?_⟩
 refine c8 (r1.toRef hci) λlc _ z126 g=>?_;subst z126
 refine cJ (cZ S1 (.ref g) hl) λad xs ha q2 q3=>?_
 cases ha
 have hom: ¬Own ρ s.heap.objs.size:=dZ S (bG _)
 have hm1:=N1.kp _ _ hm0 hom (λq=>q)
 have kp:∀ b o,s1.heap.get? b=some o->(aBr s1.heap (.ref s.heap.objs.size) lc.a).get? b=some o:=λb o e=>Heap.get?_push_of_some _ (Heap.get?_push_of_some _ (Heap.get?_push_of_some _ e))
 refine aDt q2 (wpAny_items_nil ⟨λb o e=>kp b o (S1.keep b o e),?_⟩)
 have S2:=S1.extS kp
 have N01:=N0.trans N1
 have z1:(aBs s1.heap lc.a).objs.size=s1.heap.objs.size+1:=Heap.size_push ..
 have z2:(w5 s1.heap lc.a).objs.size=s1.heap.objs.size+2:=by rw[Heap.size_push,z1]
 refine wmN (aBv hm (s0:=s) (ρ0:=ρ) (σ:=(ci,0)) hnd hr (N01.trans (.ext (k:=s1.toks) kp)) S2
  (.mk g (by rw[z2];exact Nat.ne_of_gt (Nat.lt_add_of_pos_right (by decide))) (by rw[z1];exact Nat.ne_of_gt (Nat.lt_succ_self _)) (Nat.ne_of_lt (Heap.lt_size hm1))
   ⟨Heap.get?_push_size _ rfl,Heap.get?_push_of_some _ (Heap.get?_push_size _ rfl),⟨_,Heap.get?_push_of_some _ (Heap.get?_push_of_some _ (Heap.get?_push_size _ rfl)),rfl,rfl⟩,kp _ _ hm1⟩) (λb hb=>?_) q) λx s' p=>?_
 ·rcases hb with rfl |rfl |rfl
  ·exact c0 N01 S1 (by rw[z2];exact Heap.get?_none_of_le (Nat.le_add_right _ _))
  ·exact c0 N01 S1 (bG _)
  ·exact⟨bG _,N1.own hm0 hom,dL S (bG _)⟩
 ·obtain⟨S',N',r',hv,q⟩:=p
  subst hv
  exact⟨S',N',r',q⟩
end
section
variable {a b c d e f g h i j k l:Int}{m n p q r s t u v w x y:Nat}
theorem Yn0:m<=n->¬(m<=p)->((2:Nat)*q)<=(p+m)->(p+m)<((2:Nat)*(q+(1:Nat)))->q<n:=Z.R 0x2001042a41f6b00007dac00be07da2a000007a2a02b0be007a2aa00107a68007 [] [m,n,p,q] ⋯ ⋯
theorem Yn1:(m-n)<=(p+(1:Nat))->((2:Nat)*q)<=(n+m)->(n+m)<((2:Nat)*(q+(1:Nat)))->(m-(q+(1:Nat)))<=p:=Z.R 0x100000000008100004100000000104100102a07dac0a01001f6b002f81f68a400001e8a40ac2f801c1f6a029a01007 [] [m,n,p,q] ⋯ ⋯
theorem Yn2: ¬(m<=n)->((2:Nat)*p)<=(n+m)->(n+m)<((2:Nat)*(p+(1:Nat)))->(p+(1:Nat))<=m:=Z.R 0x80041a01f6a00007da800be07da29000007a2902a0be007a29a00107 [] [m,n,p] ⋯ ⋯
theorem Yn3:m<=n->¬(m<=p)->((2:Nat)*q)<=(p+m)->(p+m)<((2:Nat)*(q+(1:Nat)))->¬(n=q):=Z.R 0x800410a8ae904407dac00be07da2a000007a2a02b0be007a2aa00107a68007 [] [m,n,p,q] ⋯ ⋯
theorem Yn4:m<n->p<=m->¬(p<=q)->((2:Nat)*r)<=(q+p)->(q+p)<((2:Nat)*(r+(1:Nat)))->r<n:=Z.R 0x20010420a907db00001f6c002f81f6aac00001eaac0b02f801e8aea0041e8a801e907da00007 [] [m,n,p,q,r] ⋯ ⋯
theorem Yn5:(m-n)<=(p+(1:Nat))->((2:Nat)*q)<=(n+m)->(n+m)<((2:Nat)*(q+(1:Nat)))->(q-n)<=p:=Z.R 0x40000000080001001040000000080001040aa9ac1001f6b002f81f68a400001e8a40ac2f801c1f6a029a01007 [] [m,n,p,q] ⋯ ⋯
theorem Yn6:m<=n->¬(m<=p)->((2:Nat)*q)<=(p+m)->(p+m)<((2:Nat)*(q+(1:Nat)))->q<=n:=Z.R 0x800410a9ac007dac00be07da2a000007a2a02b0be007a2aa00107a68007 [] [m,n,p,q] ⋯ ⋯
theorem Yn7: ¬(m<=n)->((2:Nat)*p)<=(n+m)->(n+m)<((2:Nat)*(p+(1:Nat)))->n<=p:=Z.R 0x204006aa4007da800be07da29000007a2902a0be007a29a00107 [] [m,n,p] ⋯ ⋯
theorem Yn8:m<=n->¬(m<=p)->n=q->((2:Nat)*q)<=(p+m)->(p+m)<((2:Nat)*(q+(1:Nat)))->False:=Z.R 0x400810a807dac00be07da2a000007a2a02b0be007ae9047a2aa00107a68007 [] [m,n,p,q] ⋯ ⋯
end
section
def PW{α:Type}(n:Nat)(c:Nat->Nat->Bool):KasT α->(α->Prop)->Prop
 | .ret a,Q=>Q a
 | .ask i j k,Q=>i<n/\j<n/\i≠j/\PW n c (k (c i j)) Q
theorem PW.bind{α β:Type}{n:Nat}{c:Nat->Nat->Bool}{f:α->KasT β}{Q:β->Prop}:∀ {t:KasT α},PW n c t (λa=>PW n c (f a) Q)->PW n c (t.bind f) Q
 | .ret _,h=>h
 | .ask i j k,⟨h1,h2,h0,h3⟩=>⟨h1,h2,h0,PW.bind h3⟩
theorem PW.mono{α:Type}{n:Nat}{c:Nat->Nat->Bool}{Q Q':α->Prop}(hq:∀ a,Q a->Q' a):∀ {t:KasT α},PW n c t Q->PW n c t Q'
 | .ret _,h=>hq _ h
 | .ask i j k,⟨h1,h2,h0,h3⟩=>⟨h1,h2,h0,PW.mono hq h3⟩
theorem PW.wp{α:Type}{n:Nat}{c:Nat->Nat->Bool}{Q:α->Prop}{R:α->Shared->Prop}{cmp:Nat->Nat->(Bool->Shared->Prop)->Shared->Prop}{I:Shared->Prop}(hc:∀ i j D s,i<n->j<n->i≠j->I s->(∀ s',I s'->D (c i j) s')->cmp i j D s)
  (hq:∀ a s,Q a->I s->R a s):∀ {t:KasT α},PW n c t Q->∀ s,I s->t.kasWp cmp R s
 | .ret _,h,s,hs=>hq _ s h hs
 | .ask i j k,⟨h1,h2,h0,h3⟩,s,hs=>hc i j _ s h1 h2 h0 hs λs' hs'=>PW.wp hc hq h3 s' hs'
structure Ord(n:Nat)(c:Nat->Nat->Bool):Prop where
 tr:∀ x y z,c x y=true->c y z=true->c x z=true
 tot:∀ x y,x<n->y<n->x≠y->c x y=true∨c y x=true
 asy:∀ x y,c x y=true->c y x=false
def gt(p:Array Nat)(i:Nat):Nat:=p.getD i 0
structure Pm(n:Nat)(p:Array Nat):Prop where
 pm:p.Perm (List.toArray (List.range n))
theorem Pm.tl{n:Nat}{p:Array Nat}(P:Pm n p):p.toList.Perm (List.range n):=P.pm.toList
theorem Pm.sz{n:Nat}{p:Array Nat}(P:Pm n p):p.size=n:=by
 have:=P.tl.length_eq
 rw [List.length_range]at this
 exact this
theorem Pm.at{n:Nat}{p:Array Nat}(P:Pm n p){i:Nat}(h:i<n):∃ h':i<p.toList.length,gt p i=p.toList[i]:=by
 have h':i<p.size:=P.sz.symm▸h
 refine⟨h',?_⟩
 unfold gt
 rw [Array.getD_eq_getD_getElem?,Array.getElem?_eq_getElem h'];rfl
theorem Pm.lt{n:Nat}{p:Array Nat}(P:Pm n p)(i:Nat)(h:i<n):gt p i<n:=by
 obtain⟨h',e⟩:=P.at h
 rw [e]
 exact List.mem_range.mp (P.tl.mem_iff.mp (List.getElem_mem h'))
theorem Pm.inj{n:Nat}{p:Array Nat}(P:Pm n p)(i j:Nat)(hi:i<n)(hj:j<n)(h:gt p i=gt p j):i=j:=by
 obtain⟨h1,e1⟩:=P.at hi
 obtain⟨h2,e2⟩:=P.at hj
 rw [e1,e2]at h
 exact(List.getElem_inj (P.tl.nodup_iff.mpr List.nodup_range)).mp h
def Sd(c:Nat->Nat->Bool)(p:Array Nat)(m:Nat):Prop:=∀ i j,i<j->j<m->c (gt p i) (gt p j)=true
def Ds(c:Nat->Nat->Bool)(p:Array Nat)(m:Nat):Prop:=∀ i j,i<j->j<m->c (gt p j) (gt p i)=true
variable {n:Nat}{c:Nat->Nat->Bool}
theorem Sd.snoc(O:Ord n c){p:Array Nat}{k:Nat}(h:Sd c p k)(h1:1<=k)(hc:c (gt p (k-1)) (gt p k)=true):Sd c p (k+1):=by
 intro i j hij hj
 rcases Nat.lt_or_ge j k with q |q
 ·exact h i j hij q
 ·obtain rfl:j=k:=A63 hj q
  rcases Nat.lt_or_ge i (j-1) with z |z
  ·exact O.tr _ _ _ (h i (j-1) z (A64 z)) hc
  ·obtain rfl:i=j-1:=A65 hij z
   exact hc
theorem Ds.snoc(O:Ord n c){p:Array Nat}{k:Nat}(h:Ds c p k)(h1:1<=k)(hc:c (gt p k) (gt p (k-1))=true):Ds c p (k+1):=by
 intro i j hij hj
 rcases Nat.lt_or_ge j k with q |q
 ·exact h i j hij q
 ·obtain rfl:j=k:=A63 hj q
  rcases Nat.lt_or_ge i (j-1) with z |z
  ·exact O.tr _ _ _ hc (h i (j-1) z (A64 z))
  ·obtain rfl:i=j-1:=A65 hij z
   exact hc
theorem other(O:Ord n c){p:Array Nat}(P:Pm n p){i j:Nat}(hi:i<n)(hj:j<n)(hij:i≠j)(h:c (gt p i) (gt p j)=false):c (gt p j) (gt p i)=true:=by
 rcases O.tot _ _ (P.lt i hi) (P.lt j hj) (λq=>hij (P.inj i j hi hj q)) with q |q
 ·rw[q]at h;cases h
 ·exact q
theorem v7(O:Ord n c){p:Array Nat}(P:Pm n p):∀ (f k:Nat),1<=k->k+f<=n->Sd c p k->PW n c (kas_asc p f k) (λm=>k<=m/\m<=k+f/\Sd c p m/\(m<k+f->c (gt p m) (gt p (m-1))=true))
 |0,k,h1,h2,h=>⟨Nat.le_refl _,Nat.le_refl _,h,λq=>absurd q (Nat.lt_irrefl _)⟩
 |f+1,k,h1,h2,h=>by
  refine⟨P.lt k (A66 h2),P.lt (k-1) (A67 h2),λq=>by have:=P.inj k (k-1) (A66 h2) (A67 h2) q;exact(A68 h1 this).elim,?_⟩
  cases hc:c (p.getD k 0) (p.getD (k-1) 0) with
  |true=>exact⟨Nat.le_refl _,A69,h,λ_=>hc⟩
  |false=>
   show PW n c (if false=true then _ else kas_asc p f (k+1)) _
   rw [if_neg (by decide)]
   exact(v7 O P f (k+1) A70 (A71 h2) (h.snoc O h1 (other O P (A66 h2) (A67 h2) (A72 h1) hc))).mono λm ⟨a,b,d,e⟩=>⟨A32 a,A73 b,d,λq=>e (A74 q)⟩
theorem xO(O:Ord n c){p:Array Nat}(P:Pm n p):∀ (f k:Nat),1<=k->k+f<=n->Ds c p k->PW n c (kas_desc f p k 0) (λr=>r.1=p/\r.2.2=0/\k<=r.2.1/\r.2.1<=k+f/\Ds c p r.2.1)
 |0,k,h1,h2,h=>⟨rfl,rfl,Nat.le_refl _,Nat.le_refl _,h⟩
 |f+1,k,h1,h2,h=>by
  refine⟨P.lt k (A66 h2),P.lt (k-1) (A67 h2),λq=>by have:=P.inj k (k-1) (A66 h2) (A67 h2) q;exact(A68 h1 this).elim,?_⟩
  cases hc:c (p.getD k 0) (p.getD (k-1) 0) with
  |true=>
   show PW n c (if true=true then(if 0>0 then _ else kas_desc f p (k+1) 0) else _) _
   rw [if_pos rfl,if_neg A75]
   exact(xO O P f (k+1) A70 (A71 h2) (h.snoc O h1 hc)).mono λr ⟨a,b,d,e,g⟩=>⟨a,b,A32 d,A73 e,g⟩
  |false=>
   have h3:=other O P (i:=k) (j:=k-1) (A66 h2) (A67 h2) (A72 h1) hc
   show PW n c (if false=true then _ else KasT.ask (p.getD (k-1) 0) (p.getD k 0) λd=>if d=true then .ret (p,k,0) else kas_desc f p (k+1) (0+1)) _
   rw [if_neg (by decide)]
   refine⟨P.lt (k-1) (A67 h2),P.lt k (A66 h2),λq=>by have:=P.inj (k-1) k (A67 h2) (A66 h2) q;exact(A76 h1 this).elim,?_⟩
   have h3':c (p.getD (k-1) 0) (p.getD k 0)=true:=h3
   rw [h3']
   show PW n c (KasT.ret (p,k,0)) _
   exact⟨rfl,rfl,Nat.le_refl _,by show k<=k+(f+1);exact A69,h⟩
theorem tN{p q:Array Nat}{i j:Nat}(h:p[i]? =q[j]?):gt p i=gt q j:=by
 unfold gt
 rw [Array.getD_eq_getD_getElem?,Array.getD_eq_getD_getElem?,h]
theorem aCp{p:Array Nat}{m k:Nat}(hm:m<=p.size):gt (kas_rev p 0 m) k=if k<m then gt p (m-1-k) else gt p k:=by
 have h:=getElem?_mirror_all (xs:=p) (i:=0) (j:=m) hm k
 split
 ·rename_i q
  rw [if_pos ⟨Nat.zero_le _,q⟩]at h
  refine tN (h.trans ?_)
  congr 1
  exact A77
 ·rename_i q
  rw [if_neg (λz=>q z.2)]at h
  exact tN h
theorem Pm.rev{p:Array Nat}{m:Nat}(P:Pm n p):Pm n (kas_rev p 0 m):=⟨(mirror_perm _ _ _ _).trans P.pm⟩
theorem Ds.rev{p:Array Nat}{m:Nat}(P:Pm n p)(hm:m<=n)(h:Ds c p m):Sd c (kas_rev p 0 m) m:=by
 intro i j hij hj
 rw [aCp (by rw[P.sz];exact hm),aCp (by rw[P.sz];exact hm),if_pos (A53 hij hj),if_pos hj]
 exact h _ _ (A78 hij hj) (A79 hj)
theorem aDn(O:Ord n c){p:Array Nat}(P:Pm n p)(hn:1<=n):PW n c (kas_count n p) (λr=>Pm n r.2/\1<=r.1/\r.1<=n/\Sd c r.2 r.1):=by
 unfold kas_count
 refine PW.bind ((v7 O P (n-1) 1 (Nat.le_refl _) (A80 hn) (λi j h1 h2=>by exact(A81 h1 h2).elim)).mono λm ⟨a,b,d,e⟩=>?_)
 split
 ·rename_i hm
  exact⟨P,a,A82 hn b,d⟩
 ·rename_i hm
  have hm':m≠n:=by simpa using hm
  split
  ·rename_i h1
   refine⟨P.lt 0 (A83 b h1),P.lt (m-1) (A84 b h1),λq=>by have:=P.inj 0 (m-1) (A83 b h1) (A84 b h1) q;exact(A85 h1 this).elim,?_⟩
   have:c (p.getD 0 0) (p.getD (m-1) 0)=true:=d 0 (m-1) (A86 h1) (A87 h1)
   rw [this]
   show PW n c (KasT.ret (m,p)) _
   exact⟨P,a,A88 b h1,d⟩
  ·rename_i h1
   obtain rfl:m=1:=A89 a h1
   have hd:Ds c p 2:=by
    intro i j h2 h3
    obtain rfl:j=1:=A90 h2 h3
    obtain rfl:i=0:=A91 h2
    exact e (A92 hn hm')
   unfold kas_descPart
   refine PW.bind ((xO O P (n-(1+1)) 2 A93 (A94 hn hm') hd).mono λr ⟨r1,r2,r3,r4,r5⟩=>?_)
   rw [if_neg (A95 r2)]
   unfold kas_tail3
   rw [r1]
   have hrn:r.2.1<=n:=A96 hn hm' r4
   refine PW.bind ((v7 O P.rev (n-r.2.1) r.2.1 (A97 r3) (A98 hrn) (r5.rev P hrn)).mono λm' ⟨a',b',d',e'⟩=>?_)
   exact⟨P.rev,by show 1<=m';exact A99 r3 a',by show m'<=n;exact A100 hrn b',d'⟩
theorem m9(O:Ord n c){p:Array Nat}(P:Pm n p){k:Nat}(hk:k<n)(hs:Sd c p k):∀ (f l r:Nat),l<=r->r<=k->r-l<=f->(∀ i,i<l->c (gt p i) (gt p k)=true)->(∀ i,r<=i->i<k->c (gt p k) (gt p i)=true)->
  PW n c (kas_place p k f l r) (λx=>x<=k/\(∀ i,i<x->c (gt p i) (gt p k)=true)/\(∀ i,x<=i->i<k->c (gt p k) (gt p i)=true))
 |0,l,r,h1,h2,h3,h4,h5=>⟨A101 h1 h2,h4,λi hi=>h5 i (A102 h3 hi)⟩
 |f+1,l,r,h1,h2,h3,h4,h5=>by
  unfold kas_place
  split
  ·exact⟨A101 h1 h2,h4,λi hi=>h5 i (by omega)⟩
  ·rename_i hlr
   refine⟨P.lt k hk,P.lt ((l+r)/2) (by exact Yn4 hk h2 hlr (Nat.mul_div_le _ 2) (Nat.lt_mul_div_succ _ (by decide))),λq=>by have:=P.inj k ((l+r)/2) hk (by exact Yn4 hk h2 hlr (Nat.mul_div_le _ 2) (Nat.lt_mul_div_succ _ (by decide))) q;exact Yn8 h2 hlr this (Nat.mul_div_le _ 2) (Nat.lt_mul_div_succ _ (by decide)),?_⟩
   cases hc:c (p.getD k 0) (p.getD ((l+r)/2) 0) with
   |true=>
    show PW n c (kas_place p k f l ((l+r)/2)) _
    refine m9 O P hk hs f l ((l+r)/2) (by exact Yn7 hlr (Nat.mul_div_le _ 2) (Nat.lt_mul_div_succ _ (by decide))) (by exact Yn6 h2 hlr (Nat.mul_div_le _ 2) (Nat.lt_mul_div_succ _ (by decide))) (by exact Yn5 h3 (Nat.mul_div_le _ 2) (Nat.lt_mul_div_succ _ (by decide))) h4 λi hi hik=>?_
    rcases Nat.eq_or_lt_of_le hi with q |q
    ·rw[<-q];exact hc
    ·exact O.tr _ _ _ hc (hs _ i q hik)
   |false=>
    show PW n c (kas_place p k f ((l+r)/2+1) r) _
    have h6:=other O P (i:=k) (j:=(l+r)/2) hk (by exact Yn4 hk h2 hlr (Nat.mul_div_le _ 2) (Nat.lt_mul_div_succ _ (by decide))) (by exact Yn3 h2 hlr (Nat.mul_div_le _ 2) (Nat.lt_mul_div_succ _ (by decide))) hc
    refine m9 O P hk hs f ((l+r)/2+1) r (by exact Yn2 hlr (Nat.mul_div_le _ 2) (Nat.lt_mul_div_succ _ (by decide))) h2 (by exact Yn1 h3 (Nat.mul_div_le _ 2) (Nat.lt_mul_div_succ _ (by decide))) (λi hi=>?_) h5
    rcases Nat.eq_or_lt_of_le (Nat.le_of_lt_succ hi) with q |q
    ·rw[q];exact h6
    ·exact O.tr _ _ _ (hs i _ q (by exact Yn0 h2 hlr (Nat.mul_div_le _ 2) (Nat.lt_mul_div_succ _ (by decide)))) h6
theorem aCq{p:Array Nat}{k l i:Nat}(hk:k<p.size)(hl:l<=k):gt (bubble p k (k-l)) i=if i=l then gt p k else if l<i/\i<=k then gt p (i-1) else gt p i:=by
 have h:=getElem?_bubble (xs:=p) (src:=k) hk (k-l) A103 i
 have e:k-(k-l)=l:=A104 hl
 rw [e]at h
 split
 ·rename_i q;rw[if_pos q]at h;exact tN h
 ·rename_i q
  rw [if_neg q]at h
  split
  ·rename_i q2;rw[if_pos q2]at h;exact tN h
  ·rename_i q2;rw[if_neg q2]at h;exact tN h
theorem aDz(O:Ord n c):∀ (f:Nat){p:Array Nat} (k:Nat),Pm n p->Sd c p k->k+f=n->PW n c (kas_bin f p k) (λq=>Pm n q/\Sd c q n)
 |0,p,k,P,hs,he=>by
  obtain rfl:k=n:=A105 he
  exact⟨P,hs⟩
 |f+1,p,k,P,hs,he=>by
  unfold kas_bin
  have hk:k<n:=A106 he
  refine PW.bind ((m9 O P hk hs k 0 k (Nat.zero_le _) (Nat.le_refl _) A107 (λi hi=>absurd hi (Nat.not_lt_zero _)) (λi h1 h2=>absurd h1 (A108 h2))).mono λl ⟨a,b,d⟩=>?_)
  have hks:k<p.size:=by rw[P.sz];exact hk
  refine aDz O f (k+1) ⟨(bubble_perm _ _ _).trans P.pm⟩ (λi j hij hj=>?_) (A109 he)
  ·rw[aCq hks a,aCq hks a]
   by_cases h1:i=l
   ·rw[if_pos h1,if_neg (A110 hij h1),if_pos (A111 hij hj h1)]
    exact d _ (A112 hij h1) (A113 hij hj)
   ·rw[if_neg h1]
    by_cases h2:l<i/\i<=k
    ·rw[if_pos h2,if_neg (A114 hij h2),if_pos (A115 hij hj h2)]
     exact hs _ _ (A116 hij h2) (A117 hj h2)
    ·rw[if_neg h2]
     by_cases h3:j=l
     ·rw[if_pos h3];exact b _ (A118 hij h3)
     ·rw[if_neg h3]
      by_cases h4:l<j/\j<=k
      ·rw[if_pos h4]
       have:i<l:=A119 hij h1 h2 h4
       exact hs _ _ (A120 h4 this) (A121 h4)
      ·rw[if_neg h4]
       exact hs _ _ hij (A122 a hj h3 h4)
theorem aEz(O:Ord n c)(hn:1<=n):PW n c (kas_sort n) (λp=>Pm n p/\Sd c p n):=by
 unfold kas_sort
 have P:Pm n (List.toArray (List.range n)):=⟨Array.Perm.refl _⟩
 refine PW.bind ((aDn O P hn).mono λr ⟨a,b,d,e⟩=>?_)
 split
 ·rename_i h
  have hm:max r.1 1=r.1:=A123 b
  rw [hm]
  exact aDz O _ r.1 a e (A124 h)
 ·rename_i h
  have:r.1=n:=A125 d h
  rw [this]at e
  exact⟨a,e⟩
def v9{α:Type}(key:α->Int)(l:List α):Prop:=l.Pairwise λa b=>key a<key b
theorem lE{α:Type}{key:α->Int}:∀ {a b:List α},a.Perm b->v9 key a->v9 key b->a=b
 | [],_,p,_,_=>p.nil_eq
 |x :: r,b,p,ha,hb=>by
  cases b with
  |nil=>exact absurd p.length_eq (by simp)
  |cons y t=>
   have hx:x∈y :: t:=p.mem_iff.mp (.head _)
   have hy:y∈x :: r:=p.mem_iff.mpr (.head _)
   have e:x=y:=by
    rcases List.mem_cons.mp hx with h |h
    ·exact h
    ·rcases List.mem_cons.mp hy with h' |h'
     ·exact h'.symm
     ·have a1:=(List.pairwise_cons.mp ha).1 y h'
      have a2:=(List.pairwise_cons.mp hb).1 x h
      exact(A126 a1 a2).elim
   subst e
   rw [lE (List.Perm.cons_inv p) (List.pairwise_cons.mp ha).2 (List.pairwise_cons.mp hb).2]
def ins{α:Type}(key:α->Int)(x:α):List α->List α
 | []=>[x]
 |y :: r=>if key x<key y then x :: y :: r else y :: ins key x r
def isort{α:Type}(key:α->Int):List α->List α
 | []=>[]
 |x :: r=>ins key x (isort key r)
theorem nV{α:Type}(key:α->Int)(x:α):∀ l:List α,(ins key x l).Perm (x :: l)
 | []=>.refl _
 |y :: r=>by
  unfold ins
  split
  ·exact .refl _
  ·exact((nV key x r).cons y).trans (.swap x y r)
theorem cA{α:Type}(key:α->Int):∀ l:List α,(isort key l).Perm l
 | []=>.refl _
 |x :: r=>(nV key x _).trans ((cA key r).cons x)
theorem aCd{α:Type}{key:α->Int}{x:α}:∀ {l:List α},v9 key l->(∀ y∈l,key y≠key x)->v9 key (ins key x l)
 | [],_,_=>List.pairwise_singleton _ _
 |y :: r,h,hn=>by
  unfold ins
  have h1:=List.pairwise_cons.mp h
  split
  ·rename_i hlt
   refine List.pairwise_cons.mpr ⟨λz hz=>?_,h⟩
   rcases List.mem_cons.mp hz with rfl |hz
   ·exact hlt
   ·have:=h1.1 z hz;exact A52 hlt this
  ·rename_i hlt
   have hne:=hn y (.head _)
   refine List.pairwise_cons.mpr ⟨λz hz=>?_,aCd h1.2 λz hz=>hn z (.tail _ hz)⟩
   rcases List.mem_cons.mp ((nV key x r).mem_iff.mp hz) with rfl |hz
   ·exact A127 hlt hne
   ·exact h1.1 z hz
theorem j7{α:Type}{key:α->Int}:∀ {l:List α},l.Pairwise (λa b=>key a≠key b)->v9 key (isort key l)
 | [],_=>.nil
 |x :: r,h=>by
  have h1:=List.pairwise_cons.mp h
  exact aCd (j7 h1.2) λy hy=>(h1.1 y ((cA key r).mem_iff.mp hy)).symm
theorem out_eq{α:Type}(d:α)(key:α->Int){vs:List α}(hd:vs.Pairwise λa b=>key a≠key b){p:Array Nat}(P:Pm vs.length p)(hs:Sd (λa b=>decide (key (vs.getD a d)<key (vs.getD b d))) p vs.length):
  p.toList.map (λi=>vs.getD i d)=isort key vs:=by
 refine lE (key:=key) ?_ ?_ (j7 hd)
 ·have h1:p.toList.Perm (List.range vs.length):=by simpa using P.pm.toList
  have h2:(List.range vs.length).map (λi=>vs.getD i d)=vs:=by
   refine List.ext_getElem (by simp) λi h1 h2=>?_
   simp at h1
   simp [h1]
  have h3:=h1.map (λi=>vs.getD i d)
  rw [h2]at h3
  exact h3.trans (cA key vs).symm
 ·unfold v9
  rw [List.pairwise_map,List.pairwise_iff_getElem]
  intro i j hi hj hij
  have hz:p.size=vs.length:=P.sz
  simp only[Array.length_toList]at hi hj
  have:=hs i j hij (A118 hj hz)
  have e1:gt p i=p[i]:=by unfold gt;simp [Array.getD,hi]
  have e2:gt p j=p[j]:=by unfold gt;simp [Array.getD,hj]
  rw [e1,e2]at this
  simpa using this
end
section
variable {C:Cx}{r:Nat}{env:Env}
theorem zU:builtinKind "tuple.__lt__" =some .slot:=by decide+kernel
theorem xZ:splitId "tuple.__lt__" =some ("tuple","__lt__"):=by decide+kernel
theorem x8:plainId "tuple.__lt__" =true:=by decide+kernel
theorem zW(a b:Value):argsOk "tuple.__lt__" ⟨[a,b],[]⟩:=by unfold argsOk;kernel_rfl
theorem x9:entryFor table "tuple.__lt__" =some Builtin.«tuple.__lt__»:=entryFor_of_tree ⋯
theorem zT:Slot "tuple" "__lt__" "tuple.__lt__" :=
 .of (owner:="tuple") (n:="__lt__") (by rw[typeLookup_type,builtinLookup_eq_fast];kernel_rfl) (by decide+kernel) (by decide+kernel) (by decide+kernel)
  (by first |exact .inl (by decide+kernel) |exact .inr (by decide+kernel)) (by rw[isSubtype_type];kernel_rfl)
theorem lt_mat{K:Frag}(hK:KMx C K){A:Around}{E:Value->Shared->Prop}{s:Shared}{x y:Addr}{i j:Int}{t u:Tok}{x2 x3 y2 y3:Value}{n m:Nat}{dd de:Option Addr}{Q:Bool->Shared->Prop}(hu:A.units<cLine)(X:K.In s.heap)
  (hx:s.heap.get? x=some (rK (.int i t) x2 x3 n dd)) (hy:s.heap.get? y=some (rK (.int j u) y2 y3 m de)) (hij:i≠j) (h:Q (decide (i<j)) s):wpAny C.M A (keyLt' oneType' (.ref x) (.ref y)) Q E s:=by
 have tx:Looks C.M s.heap (typeOf (.ref x)) (.ref aE):=(Looks.ld hx).andThen .now
 have ty:Looks C.M s.heap (typeOf (.ref y)) (.ref aE):=(Looks.ld hy).andThen .now
 have L1:=looks_findIn (M:=C.M) X hK.lt
 have isX:Looks C.M s.heap (isInstance (.ref x) (.type "tuple")) true:=tx.andThen (looks_subIn X hK.tup)
 have isY:Looks C.M s.heap (isInstance (.ref y) (.type "tuple")) true:=ty.andThen (looks_subIn X hK.tup)
 have bI:=Looks.of_pure (M:=C.M) (h:=s.heap) (zT.bind (.ref x))
 rw [keyLt'_oneType,oneLt'_eq]
 simp only[if_true]
 refine wpAny_bind (wpAny_cRoomFor hu ?_)
 have fin:wpAny C.M A (call (.builtin "tuple.__lt__") [.ref x,.ref y]) (λv s'=>v= .bool (decide (i<j))/\s'=s) E s:=by
  refine wpAny_call (codeAny_call_builtin x8 x9 (check_slot zU xZ isX (zW _ _) ?_))
  show wpAny _ _ (do
   if !(<-isInstance (.ref y) (.type "tuple")) then return<-ret .notImplemented
   let xs<-Builtin.Tuple.tupleItemsOf (.ref x)
   let ys<-Builtin.Tuple.tupleItemsOf (.ref y)
   for (x,y) in xs.toList.zip ys.toList do
    if !(<-eqBool x y) then
     rule "tuple.compare.by-the-first-pair-that-differs";return<-ret (<-richCompare .Lt x y)
   ret (Builtin.Tuple.tupleCompareSizes .Lt xs.size ys.size)) _ _ s
  refine wpAny_bind (isY.here ?_)
  rw [if_neg (by decide)]
  unfold Builtin.Tuple.tupleItemsOf
  refine wpAny_bind (wpAny_bind (wpAny_seqItems hx rfl (wpAny_pure (wpAny_bind (wpAny_bind (wpAny_seqItems hy rfl (wpAny_pure ?_)))))))
  show wpAny _ _ (forIn [(Value.int i t,Value.int j u),(x2,y2),(x3,y3)] _ _ >>=_) _ _ s
  rw [List.forIn_cons]
  refine wpAny_bind (wpAny_bind (wpAny_bind (wpAny_eqBool_int ?_)))
  rw [if_pos (by simpa using hij)]
  refine wpAny_bind (wpAny_rule (wpAny_bind ?_))
  show wpAny _ _ (compareOp .Lt (.int i t) (.int j u)) _ _ s
  refine lt_int ?_
  exact wpAny_bind (wpAny_pure (wpAny_pure (wpAny_pure (wpAny_pure ⟨rfl,rfl⟩))))
 refine wpAny_bind ?_
 simp only[callSpecialIfBound?,bindSpecialIfBound?]
 refine wpAny_holding (wpAny_bind (wpAny_bind (wpAny_bind (tx.here (L1.here ?_)))))
 refine wpAny_bind (wpAny_askSetting ?_)
 refine ifb bI ?_
 refine wpAny_bind (wpAny_mono fin ?_ λ_ _ z=>z)
 rintro v s' ⟨rfl,rfl⟩
 refine wpAny_pure ?_
 exact wpAny_truthy_bool h
end
section
variable {C:Cx}{r:Nat}{env:Env}
def dE:V->Int | .mat i _ _=>i |_=>0
def w6:V->Bool | .mat _ _ _=>true |_=>false
def okSort(vs:List V):Prop:=(∀ v∈vs,w6 v=true)/\(vs.Pairwise λa b=>dE a≠dE b)/\vs.length<64
theorem VRs.map_getD{ρ:List Lc}{h:Heap}{us:List Value}{vs:List V}(rs:VRs ρ h us vs):∀ idx:List Nat,(∀ i∈idx,i<us.length)->VRs ρ h (idx.map λi=>us.getD i Value.none) (idx.map λi=>vs.getD i V.none)
 | [],_=>.nil
 |i :: idx,hi=>by
  have hlt:=hi i (.head _)
  have hlt':i<vs.length:=by rw[<-rs.length];exact hlt
  refine xEA (rs.get (i:=i) (v:=vs[i]) (List.getElem?_eq_getElem hlt')) λu hu ru=>?_
  refine .cons ?_ (VRs.map_getD rs idx λj hj=>hi j (.tail _ hj))
  have e1:us.getD i Value.none=u:=by rw[List.getD_eq_getElem?_getD,hu];rfl
  have e2:vs.getD i V.none=vs[i]:=by rw[List.getD_eq_getElem?_getD,List.getElem?_eq_getElem hlt'];rfl
  show VR ρ h (us.getD i Value.none) (vs.getD i V.none)
  rw [e1,e2];exact ru
theorem tM{α:Type}{kf:α->Int}:∀ {vs:List α},vs.length<2->isort kf vs=vs
 | [],_=>rfl
 | [v],_=>rfl
 |_ :: _ :: t,h=>absurd h (Nat.not_lt.mpr (Nat.le_add_left 2 t.length))
theorem zF(xs:Array Value):(arrOf (SortSt.mk' general' (xs.zip xs) #[] 7 none)).map (·.2)=xs:=by
 show(xs.zip xs).map (·.2)=xs
 apply Array.toList_inj.mp
 rw [Array.toList_map,Array.toList_zip]
 exact List.map_snd_zip (Nat.le_refl _)
inductive MatQ(h:Heap):Value->Int->Prop
 |mk {a:Addr}{i:Int}{t:Tok}{x2 x3:Value}{n:Nat}{dd:Option Addr} (g:h.get? a=some (rK (.int i t) x2 x3 n dd)):MatQ h (.ref a) i
theorem mat_q{ρ:List Lc}{h:Heap}{u:Value}{v:V}(r:VR ρ h u v)(hm:w6 v=true):MatQ h u (dE v):=by
 have r:=r.inv
 cases v with
 |mat i j k=>
  obtain⟨a,n,t,u',w,dd,rfl,g⟩:=r
  exact .mk g
 |_=>exact absurd hm Bool.false_ne_true
theorem vG{ρ:List Lc}{h:Heap}{us:List Value}{vs:List V}(rs:VRs ρ h us vs)(hm:∀ v∈vs,w6 v=true){q:Nat}(hq:q<vs.length):MatQ h (us.getD q Value.none) (dE (vs.getD q V.none)):=by
 refine xEA (rs.get (List.getElem?_eq_getElem hq)) λu hu ru=>?_
 have m:=mat_q ru (hm vs[q] (List.getElem_mem hq))
 rw [List.getD_eq_getElem?_getD,hu,List.getD_eq_getElem?_getD,List.getElem?_eq_getElem hq];exact m
theorem yW{C:Cx}{h:Heap}{u:Value}{k:Int}(m:MatQ h u k):Looks C.M h (typeOf u) (.ref aE):=by
 cases m with
 |mk g=>exact(Looks.ld g).andThen .now
theorem aFm{C:Cx}{ρ:List Lc}{h:Heap}{us:List Value}{vs:List V}(rs:VRs ρ h us vs)(hm:∀ v∈vs,w6 v=true):∀ u∈us,Looks C.M h (typeOf u) (.ref aE):=λu hu=>by
 refine xE (List.getElem?_of_mem hu) λq hq=>?_
 have m:=vG rs hm (rs.length▸(List.getElem?_eq_some_iff.mp hq).1:q<vs.length)
 rw [List.getD_eq_getElem?_getD,hq]at m
 exact yW m
theorem ord_f{n:Nat}{f:Nat->Int}(key:∀ a b,a<b->b<n->f a≠f b):Ord n (λa b=>decide (f a<f b)) where
 tr:=λx y z h1 h2=>decide_eq_true (Int.lt_trans (of_decide_eq_true h1) (of_decide_eq_true h2))
 tot:=λx y hx hy hne=>(Nat.lt_or_gt_of_ne hne).elim (λq=>(Int.lt_or_gt_of_ne (key x y q hy)).imp decide_eq_true decide_eq_true) λq=>(Int.lt_or_gt_of_ne (key y x q hx)).symm.imp decide_eq_true decide_eq_true
 asy:=λx y h=>decide_eq_false (Int.not_lt.mpr (Int.le_of_lt (of_decide_eq_true h)))
theorem aFe{vs:List V}(hd:vs.Pairwise λa b=>dE a≠dE b):Ord vs.length (λa b=>decide (dE (vs.getD a V.none)<dE (vs.getD b V.none))):=
 ord_f (f:=λa=>dE (vs.getD a V.none)) λa b hab hb=>by
  have:=List.pairwise_iff_getElem.mp hd a b (A53 hab hb) hb hab
  rw [List.getD_eq_getElem?_getD,List.getD_eq_getElem?_getD,List.getElem?_eq_getElem hb,List.getElem?_eq_getElem (A53 hab hb)];exact this
theorem yO{K:Frag}(hK:KMx C K){A:Around}{s:Shared}{ρ:List Lc}{H:MH}{i:Nat}{l:Lc}{vs:List V}{W:Addr->Prop}{P:PySem.Fin->Shared->Prop}(hu:A.units<cLine)(S:Sim C H ρ s)(hl:ρ[i]? =some l)(hH:H[i]? =some (.list vs))(hok:okSort vs)
  (h:∀ s',Sim C (H.set i (.list (isort dE vs))) ρ s'->Nx ρ W s ρ s'->P (.done (.ret .none)) s'):wpAny C.M A (Builtin.«list.sort» ⟨[.ref l.a],[]⟩) P NoE s:=by
 have hilt:i<H.length:=(List.getElem?_eq_some_iff.mp hH).1
 refine jI (S.objs i _ l hH hl) λg1 g2 xs n hx rs=>?_
 have hlen:=rs.length
 simp only[Array.length_toList]at hlen
 refine xAA hok λhm hd h64=>?_
 have stA:=i8.put (k:=s.toks) S ⟨hl,g1,g2,hH,hx,rs⟩ (λ_=> #[]) (vs':=[]) .nil
 have SA:=stA.1
 have NA:Nx ρ W s ρ _:=stA.2 W
 have hHA:(H.set i (.list []))[i]? =some (.list []):=List.getElem?_set_self hilt
 rw [list_sort_plain]
 have ho:s.heap.get? l.a=some (seqObj "list" xs n):=hx
 refine wpAny_bind (listItems_at ho rfl ?_)
 refine wpAny_bind (listUpdate_at ho rfl ?_ (by rw[sizeLine_eq];exact A48 hlen h64) (Nat.zero_le _))
 obtain⟨e1,ho1⟩:∃ e1,(s.heap.update l.a (Obj.mapSeq λ_=>(#[]:Array Value))).get? l.a=some (seqObj "list" #[] e1):=⟨_,get?_update_seq ho λ_=> #[]⟩
 refine wpAny_bind (seqEpoch_at ho1 rfl ?_)
 refine wpAny_bind (wpAny_newTuple ?_ (by rw[sizeLine_eq];simp;exact A48 hlen h64))
 refine wpAny_bind (wpAny_newList ?_ (Nat.zero_le _))
 refine wpAny_holding ?_
 let h3:Heap:=((s.heap.update l.a (Obj.mapSeq λ_=>(#[]:Array Value))).push (seqObj "tuple" xs.toList.toArray 0)).push (seqObj "list" #[] 0)
 have kp:∀ b o,(s.heap.update l.a (Obj.mapSeq λ_=>(#[]:Array Value))).get? b=some o->h3.get? b=some o:=λb o e=>Heap.get?_push_of_some _ (Heap.get?_push_of_some _ e)
 have S3:Sim C (H.set i (.list [])) ρ {s with heap:=h3}:=SA.extS kp
 have N3:Nx ρ W s ρ {s with heap:=h3}:=NA.trans (.ext (k:=s.toks) kp)
 have ho3:h3.get? l.a=some (seqObj "list" #[] e1):=kp _ _ ho1
 show wpAny C.M A _ P NoE {s with heap:=h3}
 dsimp only
 have rs3:VRs ρ h3 xs.toList vs:=rs.mono (List.prefix_refl _) N3.imm
 have fin:∀ (out:Array Value),VRs ρ h3 out.toList (isort dE vs)->out.size<=sizeLine/\P (.done (.ret .none)) {s with heap:=h3.update l.a (Obj.mapSeq λ_=>out)}:=by
  intro out ro
  refine jI (S3.objs i _ l hHA hl) λk1 k2 xs3 n3 hx3 rs3'=>?_
  have st:=i8.put (k:=s.toks) S3 ⟨hl,k1,k2,hHA,hx3,rs3'⟩ (λ_=>out) ro
  have hol:=ro.length
  have hsl:=(cA dE vs).length_eq
  simp only[Array.length_toList]at hol
  refine⟨by rw[sizeLine_eq];exact A49 h64 hol hsl,h _ ?_ (N3.trans (st.2 W))⟩
  have:=st.1
  rw [List.set_set]at this
  exact this
 by_cases h2:xs.size<2
 ·rw[if_pos h2,if_pos h2]
  refine wpAny_bind (wpAny_pure ?_)
  rw [StateT.run_pure]
  refine wpAny_bind (wpAny_pure ?_)
  dsimp only
  have hs:isort dE vs=vs:=tM (hlen▸h2)
  refine xA (fin xs (by rw[hs];exact rs3)) λf1 f2=>?_
  refine wpAny_bind (seqEpoch_at (s:= {s with heap:=h3}) ho3 rfl ?_)
  rw [zF]
  refine wpAny_bind (listUpdate_at (s:= {s with heap:=h3}) ho3 rfl ?_ (Nat.zero_le _) (Nat.le_succ_of_le f1))
  simp only[bne_self_eq_false,Bool.false_eq_true,if_false]
  exact wpAny_pure f2
 ·rw[if_neg h2,if_neg h2]
  have hv2:2<=xs.toList.length:=by simp;exact A51 h2
  have X3:K.In h3:=hK.toK.mem.keeps S3.keep
  have hT:=aFm (C:=C) rs3 hm
  have ek:xs=xs.toList.toArray:=by simp
  rw [ek]
  refine wpAny_bind (kas_kind (s:= {s with heap:=h3}) hv2 hT (by decide) (by decide) ?_)
  have est:SortSt.mk' oneType' (xs.toList.toArray.zip xs.toList.toArray) #[] 7 none=kas_st oneType' (pairsOf xs.toList) (List.toArray (List.range xs.toList.length)):=by
   have e:=kas_range (pairsOf xs.toList)
   rw [pairsOf_size]at e
   show SortSt.mk' oneType' (pairsOf xs.toList) #[] 7 none=SortSt.mk' oneType' ((List.toArray (List.range xs.toList.length)).map (kas_item (pairsOf xs.toList))) #[] 7 none
   rw [e]
  have hvl:xs.toList.length=vs.length:=by simp [hlen]
  have O:=aFe hd
  have pw:=aEz O (A57 hv2 hvl)
  have ask:(kas_sort xs.toList.length).kasWp (kas_cmp C.prog C.w A oneType' (pairsOf xs.toList)) (λp s'=>(Pm vs.length p/\Sd (λa b=>decide (dE (vs.getD a V.none)<dE (vs.getD b V.none))) p vs.length)/\s'= {s with heap:=h3}) {s with heap:=h3}:=by
   rw [hvl,<-kas_ask_eq]
   refine PW.wp (I:=λs'=>s'= {s with heap:=h3}) (λi j D s' hi hj hij hs' hD=>?_) (λp s' hp hs'=>⟨hp,hs'⟩) pw _ rfl
   subst hs'
   have hne:dE (vs.getD i V.none)≠dE (vs.getD j V.none):=by
    exact λe=>(O.tot i j hi hj hij).elim (λq=>absurd e (Int.ne_of_lt (of_decide_eq_true q))) λq=>absurd e.symm (Int.ne_of_lt (of_decide_eq_true q))
   have MA:=vG rs3 hm hi
   have MB:=vG rs3 hm hj
   have hD':=hD _ rfl
   unfold kas_ask
   revert MA MB hne hD'
   generalize xs.toList.getD i Value.none=ua
   generalize xs.toList.getD j Value.none=ub
   generalize dE (vs.getD i V.none)=ka
   generalize dE (vs.getD j V.none)=kb
   intro hne MA MB hD'
   cases MA with
   |mk ha=>cases MB with
    |mk hb=>exact lt_mat hK hu X3 ha hb hne hD'
  have run:=kas_runs (E:=NoE) (Q:=λ_ st' s'=>∃ p:Array Nat,p.size=xs.toList.length/\arrOf st'=p.map (kas_item (pairsOf xs.toList))/\failedOf st'=none/\(Pm vs.length p/\Sd (λa b=>decide (dE (vs.getD a V.none)<dE (vs.getD b V.none))) p vs.length)/\s'= {s with heap:=h3})
   hv2 (by rw[hvl];exact h64) (λp' st' s' a1 a2 a3 a4=>⟨p',a1,a2,a3,a4⟩) ask
  rw [<-est]at run
  refine wpAny_bind (wpAny_mono run ?_ λ_ _ e=>e)
  rintro ⟨⟨⟩,st'⟩ s' ⟨p,hp,har,hf,⟨hP,hS⟩,rfl⟩
  dsimp only
  have hout:(arrOf st').map (·.2)=List.toArray (p.toList.map λi=>xs.toList.getD i Value.none):=by
   apply Array.toList_inj.mp
   rw [har,Array.map_map,Array.toList_map]
   exact List.map_congr_left λi _=>by show(kas_item (pairsOf xs.toList) i).2=_;rw[kas_item_eq]
  have hlt:∀ i∈p.toList,i<xs.toList.length:=λi hi=>by
   have h1:p.toList.Perm (List.range vs.length):=by simpa using hP.pm.toList
   have:=h1.mem_iff.mp hi
   rw [hvl];simpa using this
  refine xA (fin (List.toArray (p.toList.map λi=>xs.toList.getD i Value.none)) (by
   have:=rs3.map_getD p.toList hlt
   rw [out_eq V.none dE hd hP hS]at this
   simpa using this)) λf1 f2=>?_
  refine wpAny_bind (seqEpoch_at (s:= {s with heap:=h3}) ho3 rfl ?_)
  rw [hout]
  refine wpAny_bind (listUpdate_at (s:= {s with heap:=h3}) ho3 rfl ?_ (Nat.zero_le _) (Nat.le_succ_of_le f1))
  rw [hf]
  simp only[bne_self_eq_false,Bool.false_eq_true,if_false]
  exact wpAny_pure f2
end
section
variable {C:Cx}{r:Nat}{env:Env}
def eSort(f:EF):EF:=λlo H Q=>f lo H λa H1=>Lf a.rf λi=>Lf (H1[i]?.bind MO.own) λvs=>okSort vs/\Q .none (H1.set i (.list (isort dE vs)))
theorem EV.sort{K:Frag}(hK:KMx C K){o:Expr}{f:EF}{apos pos:Pos}(ho:EV C (r+1) env o f)(sh:fZ env o "sort" apos pos []):EV C (r+1) env (.Call (.Attribute o "sort" apos) [] [] pos) (eSort f):=
 λA s ρ H lo Q hr S F q=>mI ho sh PySem.F.slot_list_sort PySem.F.type_list_sort hr S F q (λv H1 q=>q.elim λi hi q=>q.elim λvs hv _=>⟨i,vs,hi,jL hv⟩) λ{s1 ρ1 l i vs xs n H1} S1 N1 O q=>by
  refine q.elim λi' hi q=>?_
  cases hi
  refine q.elim λws hw q=>?_
  obtain rfl:=O.same hw
  refine callWith_of (P:=λh=>∀ b o,C.base.heap.get? b=some o->h.get? b=some o) rfl dM (wmN (k4 (C:=C) (f:=.builtin "list.sort") (pos:=pos) EVs.nil (env:=env) ⟨.inl rfl,λ_=>rfl⟩ hr S1 (F.nx N1) (Q:=λvs H'=>vs= []/\H'=H1) ⟨rfl,rfl⟩) λa s2 p=>?_)
  obtain⟨ps,kw⟩:=a
  obtain⟨hkw,S2,N2,rs,e1,e2⟩:=p
  cases hkw
  subst e1 e2
  cases rs
  refine⟨S2.keep,?_⟩
  refine xEE (g8 S2 (aL N2.pre O.g) O.h) λxs n O2=>?_
  refine wpAny_call_entry PyProof.Rows.slot_list_sort ⟨_,O2.x,rfl⟩ PyProof.Rows.entry_list_sort ?_ (PyProof.Rows.args_list_sort _)
  refine yO hK (W:=noW) ?_ S2 O2.g O.h q.1 λs3 S3 N3=>⟨.none,rfl,S3,(N1.trans N2).trans N3,.none,q.2⟩
  have:=hr.2.2
  show A.units+1<9900
  exact A59 this
theorem SV.doc{x:Str}{k:Nat}{p pos:Pos}(hi:interactive env=false)(hs:swapsWith (.Constant (.str x) k p) none pos.line env=pure false):SV C r env (.Expr (.Constant (.str x) k p) pos) (sK .next):=
 SV.expr (f:=eK (.str x)) EV.str hi hs
theorem OpR.iadd:OpR C r (inplaceOp .Add) yS:=OpR.i2 λ_ _ k=>PySem.AutoIntOps.iadd_0 (k _ _ (.int _ _))
theorem Room.le{a b:Nat}{A:Around}(h:Nat.ble a b=true)(hr:Room b A):Room a A:=by
 have:=Nat.le_of_ble_eq_true h
 refine xAA hr λh1 h2 h3=>?_
 exact⟨h1,A60 this h2,A61 this h3⟩
theorem CV.lift{a b:Nat}{f:Value}{g:CF}(h:CV C a f g)(q:Nat.ble a b=true):CV C b f g:=⟨h.keep,λhr S rs e=>h.call (hr.le q) S rs e⟩
end
section
noncomputable abbrev AnyT:=∀ {α:Type} (as:Array α),(α->Bool)->optParam Nat 0->optParam Nat as.size->Bool
def anyL:AnyT:=λ{α} as p i j=>match Nat.beq i 0,Nat.beq j as.size with
 |true,true=>as.toList.any p
 |_,_=>as.any p i j
theorem aGd: @Eq AnyT @Array.any.{0} @anyL:=by
 funext α as p i j
 unfold anyL
 split
 ·rename_i h1 h2
  have h1:=Nat.eq_of_beq_eq_true h1
  have h2:=Nat.eq_of_beq_eq_true h2
  subst h1 h2
  exact Array.any_toList.symm
 ·rfl
theorem holdT{P:Prop}(_:P):True:=trivial
set_option maxHeartbeats 1000000 in
@[irreducible] noncomputable def tnG: {G:AnyT->Builtin // PySem.W.Fast.tw4202317264376624991=G @Array.any.{0}}:=
 let G:AnyT->Builtin:=_
 let u:True:=holdT (P:=PySem.W.Fast.tw4202317264376624991=G @Array.any.{0}) (by
  delta PySem.W.Fast.tw4202317264376624991
  generalize @Array.any.{0}=A
  exact rfl)
 ⟨G,@Eq.refl Builtin PySem.W.Fast.tw4202317264376624991⟩
end
section
open PySem.Sem (wp)
noncomputable abbrev Ev(α:Type):=Pos->BT->Nat->Nat->Option (Except Value α×Pos×BT×Nat×Nat)
noncomputable abbrev Cf:=Ctx->Pos->BT->Nat->Nat->Option (Result×BT×Nat×Nat)
def evS{α:Type}(cf:Cf)(S:Setting)(Γ:Ctx)(t:Sem α):Ev α:=
 @Sem.rec α (λ_=>Ev α)
  (λa p T n k=>some (.ok a,p,T,n,k))
  (λe p T n k=>some (.error e,p,T,n,k))
  (λ_ _ _ _ _=>none)
  (λ_ _ _ _ _=>none)
  (λ_ _ ih p T n k=>ih () p T n k)
  (λq _ ih _ T n k=>ih () q T n k)
  (λa _ _ ih p T n k=>bif Nat.blt a n then(T.get a).bind λo=>(alive o).bind λo'=>ih o' p T n k else none)
  (λa _ f _ ih p T n k=>bif Nat.blt a n then(T.get a).bind λo=>(alive o).bind λ_=>ih () p (T.set a f) n k else none)
  (λo _ ih p T n k=>bif ((T.ins n o).get n).isSome then ih n p (T.ins n o) (n+1) k else none)
  (λa _ ih p T n k=>bif Nat.blt a n then(T.get a).bind λo=>ih (alive o) p T n k else ih none p T n k)
  (λ_ _ ih p T n k=>ih () p T n k)
  (λ_ _ _ _ _ _ _=>none)
  (λ_ ih p T n k=>ih k p T n (k+1))
  (λ_ ih p T n k=>ih S p T n k)
  (λ_ _ _ _ _ _ _ _=>none)
  (λ_ _ _ _ _ _ _ _=>none)
  (λc h _ _ _ ih p T n k=>(cf (Γ.enter c h p) p T n k).bind λy=>ih y.1 p y.2.1 y.2.2.1 y.2.2.2)
  (λown _ ih p T n k=>ih (if own then Γ.own else Γ.handled) p T n k)
  (λ_ _ _ _ _ _ _=>none)
  (λ_ _ _ _ _ _ _=>none)
  (λ_ _ _ _ _ _ _ _ _=>none)
  (λ_ _ _ _ _ _ _ _ _=>none)
  (λ_ ih p T n k=>ih ((Γ.code,p) :: Γ.below) p T n k)
  (λ_ _ _ _ _ _ _=>none)
  (λ_ ih p T n k=>ih 0 p T n k)
  (λ_ _ _ _ _ _ _ _ _ _=>none) t
variable (M:Model)(life:Life)(gens:Array GenState)(drawn:Drawn)(os:OsState)
def ab(T:BT)(n k:Nat):Shared:=⟨absHeap T n life,gens,drawn,k,os⟩
def Ph{α:Type}(Q:α->Pos->Shared->Prop)(E:Value->Pos->Shared->Prop):Option (Except Value α×Pos×BT×Nat×Nat)->Prop
 |some (.ok a,p,T,n,k)=>Q a p (ab life gens drawn os T n k)
 |some (.error e,p,T,n,k)=>E e p (ab life gens drawn os T n k)
 |none=>False
def PhC(R:Result->Shared->Prop):Option (Result×BT×Nat×Nat)->Prop
 |some (r,T,n,k)=>R r (ab life gens drawn os T n k)
 |none=>False
theorem ob{β γ:Type}{P:Option γ->Prop}(h0: ¬P none){o:Option β}{f:β->Option γ}(h:P (o.bind f)):∃ y,o=some y/\P (f y):=by
 cases o with
 |none=>exact absurd h h0
 |some y=>exact⟨y,rfl,h⟩
theorem obb{γ:Type}{P:Option γ->Prop}(h0: ¬P none){b:Bool}{x:Option γ}(h:P (bif b then x else none)):b=true/\P x:=by
 cases b with
 |false=>exact absurd h h0
 |true=>exact⟨rfl,h⟩
theorem aDa{α:Type}{cf:Cf}{Γ:Ctx}
  (hcf:∀ {Γ p T n k R},PhC life gens drawn os R (cf Γ p T n k)->wpCode M Γ R p (ab life gens drawn os T n k))
  (t:Sem α):∀ {Q:α->Pos->Shared->Prop}{E:Value->Pos->Shared->Prop}{p T n k},Ph life gens drawn os Q E (evS cf ⟨M.prog,M.w.params⟩ Γ t p T n k)->wp M Γ t Q E p (ab life gens drawn os T n k):=by
 induction t with
 |pure a=>intro Q E p T n k h;exact h
 |raise e=>intro Q E p T n k h;exact h
 |unsupported |finish |register |choose |os |genState |newGen |resume | «yield» |fork |await=>intro Q E p T n k h;exact h.elim
 |rule _ k ih=>intro Q E p T n k h;exact ih () h
 | «at» q k ih=>intro Q E p T n k h;exact ih () h
 |point _ k ih=>intro Q E p T n k h;exact ih () h
 |ask k ih=>intro Q E p T n k h;exact ih _ h
 |thread k ih=>intro Q E p T n k h;exact ih _ h
 |stack k ih=>intro Q E p T n k h;exact ih _ h
 |handled own k ih=>intro Q E p T n k h;exact ih _ h
 |fresh k ih=>intro Q E p T n k h;exact ih _ h
 |load a part k ih=>
  intro Q E p T n j h
  refine xA (obb (P:=Ph life gens drawn os Q E) id h) λhb h=>?_
  refine xEA (ob (P:=Ph life gens drawn os Q E) id h) λo hg h=>?_
  refine xEA (ob (P:=Ph life gens drawn os Q E) id h) λo' ho h=>?_
  exact⟨o',(abs_get (Nat.le_of_ble_eq_true hb) hg).trans ho,ih o' h⟩
 |update a part f k ih=>
  intro Q E p T n j h
  refine xA (obb (P:=Ph life gens drawn os Q E) id h) λhb h=>?_
  refine xEA (ob (P:=Ph life gens drawn os Q E) id h) λo hg h=>?_
  refine xEA (ob (P:=Ph life gens drawn os Q E) id h) λo' ho h=>?_
  have:=ih () h
  unfold ab at this
  rw [absHeap_set hg]at this
  exact⟨by show((absHeap T n life).get? a).isSome=true;rw[abs_get (Nat.le_of_ble_eq_true hb) hg,ho];rfl,this⟩
 |alloc o k ih=>
  intro Q E p T n j h
  refine xA (obb (P:=Ph life gens drawn os Q E) id h) λhb h=>?_
  have:=ih n h
  show wp M Γ (k (absHeap T n life).objs.size) _ _ p {ab life gens drawn os T n j with heap:=(absHeap T n life).push o}
  rw [absHeap_size,<-absHeap_ins hb]
  exact this
 |loadIfAlive a k ih=>
  intro Q E p T n j h
  show wp M Γ (k ((absHeap T n life).get? a)) _ _ p _
  revert h
  show Ph life gens drawn os Q E (bif Nat.blt a n then _ else _)->_
  cases hb:Nat.blt a n with
  |false=>
   intro h
   rw [abs_get_none (λq=>by rw[show Nat.blt a n=true from Nat.ble_eq_true_of_le q]at hb;cases hb)]
   exact ih _ h
  |true=>
   intro h
   refine xEA (ob (P:=Ph life gens drawn os Q E) id h) λo hg h=>?_
   rw [abs_get (Nat.le_of_ble_eq_true hb) hg]
   exact ih _ h
 |call c hd g l k ih=>
  intro Q E p T n j h
  refine hcf (R:=λr s=>wp M Γ (k r) Q E p s) ?_
  refine xEA (ob (P:=Ph life gens drawn os Q E) id h) λy hc h=>?_
  rw [hc]
  exact ih _ h
def evC(den:Code->Sem Fin)(S:Setting)(f:Nat):Cf:=
 @Nat.rec (λ_=>Cf) (λ_ _ _ _ _=>none) (λ_ rec Γ p T n k=>match evS rec S Γ (den Γ.code) p T n k with
  |some (.ok (.done fl),_,T',n',k')=>some ((Except.ok fl:Result),T',n',k')
  |some (.ok (.again c),p',T',n',k')=>bif c.quiet then rec (Γ.goto c) p' T' n' k' else none
  |some (.error e,_,T',n',k')=>some ((Except.error e:Result),T',n',k')
  |none=>none) f
theorem vR:∀ (f:Nat){Γ R p T n k},PhC life gens drawn os R (evC M.den ⟨M.prog,M.w.params⟩ f Γ p T n k)->wpCode M Γ R p (ab life gens drawn os T n k)
 |0,_,_,_,_,_,_,h=>h.elim
 |f+1,Γ,R,p,T,n,k,h=>by
  rw [wpCode_iff_wp]
  refine aDa M life gens drawn os (λhq=>vR f hq) (M.den Γ.code) ?_
  revert h
  show PhC life gens drawn os R (match evS (evC M.den ⟨M.prog,M.w.params⟩ f) ⟨M.prog,M.w.params⟩ Γ (M.den Γ.code) p T n k with
   |some (.ok (.done fl),_,T',n',k')=>some ((Except.ok fl:Result),T',n',k')
   |some (.ok (.again c),p',T',n',k')=>bif c.quiet then evC M.den ⟨M.prog,M.w.params⟩ f (Γ.goto c) p' T' n' k' else none
   |some (.error e,_,T',n',k')=>some ((Except.error e:Result),T',n',k')
   |none=>none)->_
  cases evS (evC M.den ⟨M.prog,M.w.params⟩ f) ⟨M.prog,M.w.params⟩ Γ (M.den Γ.code) p T n k with
  |none=>exact False.elim
  |some y=>
   obtain⟨x,p₁,T₁,n₁,k₁⟩:=y
   cases x with
   |error e=>exact id
   |ok fin=>cases fin with
    |done fl=>exact id
    |again c=>
     intro h
     revert h
     show PhC life gens drawn os R (bif c.quiet then evC M.den ⟨M.prog,M.w.params⟩ f (Γ.goto c) p₁ T₁ n₁ k₁ else none)->_
     intro h
     refine xA (obb (P:=PhC life gens drawn os R) id h) λhq h=>?_
     exact⟨hq,vR f h⟩
end
section
def setDoc(D:Str):Stmt->Stmt
 | .ClassDef n b k (.Expr (.Constant (.str _) x q) q' :: rest) d t s ts bi st p=>.ClassDef n b k (.Expr (.Constant (.str D) x q) q' :: rest) d t s ts bi st p
 |x=>x
def setAt(D:Str):List Stmt->List Stmt
 |a :: b :: c :: d :: e :: f :: r=>a :: b :: c :: d :: e :: setDoc D f :: r
 |l=>l
def aEj(p:Program)(D:Str):Program:= {p with main:= {p.main with body:=setAt D p.main.body}}
def tn:Builtin:=tnG.1 @anyL
theorem tn_eq:Builtin.«type.__new__»=tn:=
 (PySem.W.Fast.te4202317264376624991).trans (tnG.2.trans (congrArg tnG.1 aGd))
def tbl(id:String):Option Builtin:=match PySem.W.S.eqLit (PySem.code "type.__new__") id with
 |true=>some tn
 |false=>PySem.W.Fast.tw14364793385576792824 id
theorem tbl_eq:table=tbl:=by
 funext id
 unfold tbl
 have h:=congrFun (PySem.W.S.eqLit_eq "type.__new__" _ rfl) id
 rw [<-h]
 by_cases e:id="type.__new__"
 ·subst e
  have:(("type.__new__" :String)=="type.__new__")=true:=beq_self_eq_true _
  rw [this]
  show table "type.__new__" =some tn
  rw [<-tn_eq]
  have:entryFor table "type.__new__" =some Builtin.«type.__new__»:=entryFor_of_fast ⋯
  rw [table_eq_tree]
  kernel_rfl
 ·have:(id=="type.__new__")=false:=beq_eq_false_iff_ne.mpr e
  rw [this]
  show table id=PySem.W.Fast.tw14364793385576792824 id
  rw [table_eq_tree,PySem.W.Fast.te14364793385576792824]
def den:Code->Sem Fin:=PySem.W.Fast.tw11892475500146522536 tbl
theorem den_eq:denote table=den:=by
 unfold den
 rw [tbl_eq,PySem.W.Fast.te11892475500146522536]
def btOf(l:List Obj):BT:=(l.zipIdx).foldl (λt x=>t.ins x.2 x.1) .nil
def bt0(P:Params):BT:=btOf [boot_o_0 P,boot_o_1 P,boot_o_2 P,boot_o_3 P,boot_o_4 P,boot_o_5 P,boot_o_6 P,boot_o_7 P,boot_o_8 P,boot_o_9 P,boot_o_10 P]
def Γ0:Ctx:=⟨.builtin "claim.caller" {},none,none,[],none⟩
def wF(p:Program)(w:World):=evS (evC den ⟨p,w.params⟩ 3000) ⟨p,w.params⟩ Γ0 (topStub p).cur default (bt0 w.params) 11 boot_toks
end
section
def Jn(t:Thread):Step->Prop
 | .halt (.done _) _=>through t=true
 |_=>True
theorem Jn.ite{t:Thread}{x:Bool}{a b:Step}(ha:Jn t a)(hb:Jn t b):Jn t (if x=true then a else b):=by
 cases x with
 |true=>exact ha
 |false=>exact hb
theorem Jn.itp{t:Thread}{c:Prop}[Decidable c]{a b:Step}(ha:Jn t a)(hb:Jn t b):Jn t (if c then a else b):=by
 by_cases h:c
 ·rw[if_pos h];exact ha
 ·rw[if_neg h];exact hb
theorem stepJ{den:Code->Sem Fin}{p:Program}{w:World}{s:Shared}{t:Thread}:Jn t (step den p w s t):=by
 obtain⟨heap,gens,drawn,toks,os⟩:=s
 obtain⟨cur,code,pos,stack⟩:=t
 cases cur with
 |pure a=>cases a with
  |again c=>trivial
  |done f=>cases stack with
   |nil=>exact Jn.ite (x:=leftWithCleanup gens) trivial rfl
   |cons fr rest=>cases fr<;>trivial
 |raise e=>cases stack with
  |nil=>exact Jn.ite (x:=leftWithCleanup gens) trivial trivial
  |cons fr rest=>cases fr<;>trivial
 |unsupported _=>trivial
 |finish e=>exact Jn.ite (x:=leftWithCleanup gens) trivial trivial
 |rule _ k=>trivial
 | «at» p k=>trivial
 |load a _ k=>
  delta step;dsimp only
  cases heap.get? a<;>trivial
 |update a _ f k=>exact Jn.ite (x:=(heap.get? a).isSome) trivial trivial
 |alloc o k=>trivial
 |loadIfAlive a k=>trivial
 |point _ k=>trivial
 |register _ _=>trivial
 |fresh k=>trivial
 |ask k=>trivial
 |choose src n k=>exact Jn.itp (c:=n=0) trivial trivial
 |os q _ k=>trivial
 |call c h g l k=>trivial
 |handled own k=>trivial
 |newGen c k=>trivial
 |genState g k=>
  delta step;dsimp only
  cases gens[g]? <;>trivial
 |resume g r l k=>
  delta step;dsimp only
  cases gens[g]? with
  |none=>trivial
  |some x=>cases x with
   |fresh c=>cases r with
    |send v=>cases v<;>trivial
    |throw e=>trivial
   |_=>trivial
 |yield v g0 l kk=>
  delta step;dsimp only
  cases splitAtGen stack<;>trivial
 |stack k=>trivial
 |fork _ _=>trivial
 |thread k=>trivial
 |await _ _ _ _ _=>trivial
theorem rP{den:Code->Sem Fin}{p:Program}{w:World}{f:Flow}{s':Shared}(n:Nat):∀ (s:Shared) (t:Thread),runN den p w n s t= .halted (.done f) s'->
  ∃ m t',runN den p w m s t= .running s' t'/\through t'=true:=by
 induction n with
 |zero=>intro s t h;cases h
 |succ n ih=>
  intro s t h
  have hj:=stepJ (den:=den) (p:=p) (w:=w) (s:=s) (t:=t)
  have he:=step_halt_same den p w s s' t (.done f)
  replace h:(match step den p w s t with | .go s' t'=>runN den p w n s' t' | .halt o s'=>.halted o s')=Run.halted (.done f) s':=h
  have hm:∀ m,runN den p w (m+1) s t=(match step den p w s t with | .go s' t'=>runN den p w m s' t' | .halt o s'=>.halted o s'):=λm=>rfl
  revert h hj he hm
  cases step den p w s t with
  |go s₂ t₂=>
   intro hj he h hm
   refine bO (ih s₂ t₂ h) λm t' h1 ht=>?_
   exact⟨m+1,t',(hm m).trans h1,ht⟩
  |halt o s₂=>
   intro hj he h hm
   cases h
   exact⟨0,t,congrArg (Run.running · t) (he rfl).symm,hj⟩
theorem sQ{p:Program}{w:World}{s S₁:Shared}(hz:s.asleep)(hg:S₁.gens= #[])
  (h:Sem.wp (model p w) Γ0 (topStub p).cur (λfin _ s'=>fin= .done (.ret .none)/\s'=S₁) (λ_ _ _=>False) default s):
  ∃ n t,schedN (denote table) p w n (.single s (topStub p))= .running (.single S₁ t)/\through t=true:=by
 have h':Sem.wp (model p w) ⟨.builtin "claim.caller" {},none,none,[],none⟩ (topStub p).cur
   (Sem.finPost (model p w) ⟨.builtin "claim.caller" {},none,none,[],none⟩ λr s'=>(r= .ok (.ret .none)/\s'=S₁)/\leftWithCleanup s'.gens=false)
   (λe _ s'=>((.error e:Result)= .ok (.ret .none)/\s'=S₁)/\leftWithCleanup s'.gens=false) default s:=by
  refine Sem.wp_mono _ _ _ ?_ (λ_ _ _ x=>x.elim) _ _ h
  rintro fin q s' ⟨rfl,rfl⟩
  exact⟨⟨rfl,rfl⟩,by rw[hg];simp [leftWithCleanup]⟩
 obtain⟨n,r,s',hn,rfl,rfl⟩:=(wp_iff_halts (M:=model p w) _ _ _ _).mp h'
 refine c8 (runNI_real (denote table) p w hn (outcomeOf_ends _)) λs'' hr hf hc=>?_
 have e:=Shared.eq_of_forget_eq hf hg
 subst e
 refine bO (rP n s (topStub p) hr) λm t' hm ht=>?_
 have hne:∀ k s₂,runN (denote table) p w k s (topStub p)≠ .halted (.unsupported "lifetime:generator-with-cleanup-left-suspended") s₂:=by
  intro k s₂ hk
  have a:=runN_mono (denote table) p w n k s (topStub p) _ _ hr
  have b:=runN_mono (denote table) p w k n s (topStub p) _ s₂ hk
  rw [Nat.add_comm,b]at a
  injection a with a1 _
  cases a1
 exact⟨m,t',(schedN_eq_runN (denote table) p w s (topStub p) hz ⟨hc,hne⟩ m).trans (congrArg Run.lift hm),ht⟩
end
section
def docS(p:Program):Str:=match (p.main.body.drop 5).head? with
 |some (PySem.Stmt.ClassDef _ _ _ body _ _ _ _ _ _ _)=>(docOf body).getD ⟨#[]⟩
 |_=>⟨#[]⟩
noncomputable abbrev pw:Program:=PySem.Challenge.pw_dm0053_04
def docL: {l:List Char // docS pw=⟨(l.map Char.toNat).toArray⟩}:=⟨_,Fast.ofString_ofList _⟩
def docD:Str:=⟨(docL.1.map Char.toNat).toArray⟩
def pR:Program:=aEj pw docD
theorem p_eq:pw=pR:=by
 unfold pR docD
 rw [<-docL.2]
 kernel_rfl
def stA(i:Nat):Stmt:=(pw.main.body.drop i).headD (.Pass ⟨0,0,0,0⟩)
def inCls:Stmt->List Stmt
 | .ClassDef _ _ _ body _ _ _ _ _ _ _=>body
 |_=>[]
def stB(i j:Nat):Stmt:=((inCls (stA i)).drop j).headD (.Pass ⟨0,0,0,0⟩)
def fPar:Stmt->Arguments
 | .FunctionDef _ a _ _ _ _ _ _ _ _=>a
 |_=>⟨[],[],none,[],[],none,[]⟩
def bH:Stmt->List Stmt
 | .FunctionDef _ _ b _ _ _ _ _ _ _=>b
 |_=>[]
def fSco:Stmt->Scope
 | .FunctionDef _ _ _ _ _ _ s _ _ _=>s
 |_=>default
def uB(s:Stmt):Str:=(docOf (bH s)).getD ⟨#[]⟩
noncomputable abbrev kE(P:Params)(n:Str)(t:Nat)(v:Value):DictEntry:=⟨PyData.keyHash P n,.str n t,v⟩
def cOx(x y:Nat->Value)(z:Nat)(n q:Str)(t l a f r e:Nat):Obj:=⟨.type "code",none,.fields #[.str n t,.str q (t+1),.str "/claim/cut.py" (t+2),.int l 0,.int a 0,.int 0 0,.int 0 0,.int f 0,.ref r,.bool true,.int 181 0,.ref (r+1),.none,x r,y r,.ref (r+z),.int e 0,.int l 0,.str "/claim/cut.py" (e+1)],#[]⟩
def cO:Str->Str->Nat->Nat->Nat->Nat->Nat->Nat->Obj:=cOx (λr=>.ref (r+2)) (λr=>.ref (r+3)) 4
def cO0:Str->Str->Nat->Nat->Nat->Nat->Nat->Nat->Obj:=cOx (λ_=>.none) (λ_=>.none) 2
def fOx(m:Value)(n q:Str)(s:Stmt)(d doc:Value)(an:Option Nat)(c:Nat):Obj:=⟨.type "function",none,.func {name:=n,qualname:=q,params:=fPar s,body:=.stmts (bH s),scope:=fSco s,globals:=3,closure:=[],defaults:=d,kwdefaults:=.none,doc:=doc,pyModule:=m,annotations:=an,code:=.ref c,closureTuple:=.none,builtins:=0},#[]⟩
def fO:Str->Str->Stmt->Value->Value->Option Nat->Nat->Obj:=fOx (.str "cpy313.difflib" 194)
def o3(P:Params):Obj:=⟨(.type "dict"),none,(Data.dict #[kE P "__name__" 165 (.str "law_dm0053_04" 592),kE P "__doc__" 166 .none,kE P "__package__" 167 .none,kE P "__loader__" 168 (.builtin "__main__.__loader__#opaque"),kE P "__spec__" 169 .none,kE P "__annotations__" 170 (.ref 6),kE P "__builtins__" 171 (.ref 4),kE P "__file__" 173 (.str "/claim/cut.py" 172),kE P "__cached__" 174 .none,kE P "_wall" 193 (.ref 21),kE P "_tuplegetter" 252 (.ref 60),kE P "Match" 380 (.ref 135),kE P "_calculate_ratio" 388 (.ref 145),kE P "SequenceMatcher" 591 (.ref 242),kE P "_law_blocks" 599 (.ref 251),kE P "_law_rows" 613 (.ref 258),kE P "law" 619 (.ref 263)] 17),#[]⟩
def o81(P:Params):Obj:=cO "__new__" "Match.__new__" 274 29 4 3 76 281
def o82(P:Params):Obj:=fO "__new__" "Match.__new__" (stB 3 4) .none (.str "Create new instance of Match(a, b, size)" 283) none 81
def o88(P:Params):Obj:=cO "_make" "Match._make" 285 33 2 3 83 291
def o89(P:Params):Obj:=fO "_make" "Match._make" (stB 3 5) .none (.str "Make a new Match object from a sequence or iterable" 293) (some 92) 88
def o91(P:Params):Obj:=⟨(.type "classmethod"),(some 90),(Data.fields #[(.ref 89),(.bool false)]),#[]⟩
def o134(P:Params):Obj:=⟨(.type "dict"),none,(Data.dict #[kE P "__module__" 260 (.str "cpy313.difflib" 194),kE P "__firstlineno__" 264 (.int 23 263),kE P "__doc__" 266 (.str "Match(a, b, size)" 265),kE P "__slots__" 268 (.ref 73),kE P "_fields" 272 (.ref 74),kE P "_field_defaults" 273 (.ref 75),kE P "__new__" 284 (.ref 136),kE P "_make" 306 (.ref 91),kE P "_replace" 317 (.ref 100),kE P "__replace__" 318 (.ref 100),kE P "__repr__" 326 (.ref 107),kE P "_asdict" 333 (.ref 114),kE P "__getnewargs__" 341 (.ref 121),kE P "__match_args__" 345 (.ref 122),kE P "a" 355 (.ref 124),kE P "b" 365 (.ref 127),kE P "size" 375 (.ref 130),kE P "__static_attributes__" 376 (.ref 132)] 2),#[]⟩
def o135(P:Params):Obj:=⟨(.type "type"),none,(Data.cls {name:="Match",bases:=[(.type "tuple")],mro:=[(.ref 135),(.type "tuple"),(.type "object")],ns:=134,qualname:="Match",hasDict:=false,slotNames:=[],subclasses:=[],abstract:=false,collection:=none,hasDel:=false}),#[some (.ref 65),none,some (.str "Match" 253),some (.str "Match" 261),some .none,some (.bool false)]⟩
def o136(P:Params):Obj:=⟨(.type "staticmethod"),none,(Data.fields #[(.ref 82)]),#[]⟩
def o153(P:Params):Obj:=⟨(.type "tuple"),none,(Data.seq #[.none,(.str "" 404),(.str "" 405),(.bool true)] 0),#[]⟩
def o159(P:Params):Obj:=cO "__init__" "SequenceMatcher.__init__" 406 145 5 3 154 414
def nG(P:Params):Obj:=fO "__init__" "SequenceMatcher.__init__" (stB 5 1) (.ref 153) (.str (uB (stB 5 1)) 416) none 159
def o166(P:Params):Obj:=cO "set_seqs" "SequenceMatcher.set_seqs" 418 173 3 3 161 424
def rA(P:Params):Obj:=fO "set_seqs" "SequenceMatcher.set_seqs" (stB 5 2) .none (.str (uB (stB 5 2)) 426) none 166
def o173(P:Params):Obj:=cO "set_seq1" "SequenceMatcher.set_seq1" 428 184 2 3 168 433
def pI(P:Params):Obj:=fO "set_seq1" "SequenceMatcher.set_seq1" (stB 5 3) .none (.str (uB (stB 5 3)) 435) none 173
def o180(P:Params):Obj:=cO "set_seq2" "SequenceMatcher.set_seq2" 437 209 2 3 175 442
def mD(P:Params):Obj:=fO "set_seq2" "SequenceMatcher.set_seq2" (stB 5 4) .none (.str (uB (stB 5 4)) 444) none 180
def o187(P:Params):Obj:=cO "__chain_b" "SequenceMatcher.__chain_b" 446 236 1 3 182 461
def jM(P:Params):Obj:=fO "__chain_b" "SequenceMatcher.__chain_b" (stB 5 5) .none .none none 187
def o189(P:Params):Obj:=⟨(.type "tuple"),none,(Data.seq #[(.int 0 464),.none,(.int 0 465),.none] 0),#[]⟩
def o195(P:Params):Obj:=cO "find_longest_match" "SequenceMatcher.find_longest_match" 466 260 5 3 190 488
def g9(P:Params):Obj:=fO "find_longest_match" "SequenceMatcher.find_longest_match" (stB 5 6) (.ref 189) (.str (uB (stB 5 6)) 490) none 195
def o202(P:Params):Obj:=cO "get_matching_blocks" "SequenceMatcher.get_matching_blocks" 492 335 1 3 197 515
def gR(P:Params):Obj:=fO "get_matching_blocks" "SequenceMatcher.get_matching_blocks" (stB 5 7) .none (.str (uB (stB 5 7)) 517) none 202
def o209(P:Params):Obj:=cO "get_opcodes" "SequenceMatcher.get_opcodes" 519 383 1 3 204 530
def mC(P:Params):Obj:=fO "get_opcodes" "SequenceMatcher.get_opcodes" (stB 5 8) .none (.str (uB (stB 5 8)) 532) none 209
def o211(P:Params):Obj:=⟨(.type "tuple"),none,(Data.seq #[(.int 3 534)] 0),#[]⟩
def o217(P:Params):Obj:=cO "get_grouped_opcodes" "SequenceMatcher.get_grouped_opcodes" 535 430 2 35 212 548
def q9(P:Params):Obj:=fO "get_grouped_opcodes" "SequenceMatcher.get_grouped_opcodes" (stB 5 9) (.ref 211) (.str (uB (stB 5 9)) 550) none 217
def o241(P:Params):Obj:=⟨(.type "dict"),none,(Data.dict #[kE P "__module__" 396 (.str "cpy313.difflib" 194),kE P "__firstlineno__" 400 (.int 70 399),kE P "__doc__" 402 (.str docD 401),kE P "__init__" 417 (.ref 160),kE P "set_seqs" 427 (.ref 167),kE P "set_seq1" 436 (.ref 174),kE P "set_seq2" 445 (.ref 181),kE P "_SequenceMatcher__chain_b" 463 (.ref 188),kE P "find_longest_match" 491 (.ref 196),kE P "get_matching_blocks" 518 (.ref 203),kE P "get_opcodes" 533 (.ref 210),kE P "get_grouped_opcodes" 551 (.ref 218),kE P "ratio" 560 (.ref 225),kE P "quick_ratio" 567 (.ref 232),kE P "real_quick_ratio" 574 (.ref 239),kE P "__static_attributes__" 585 (.ref 240),kE P "__dict__" 587 (.ref 243),kE P "__weakref__" 589 (.ref 244)] 3),#[]⟩
def o242(P:Params):Obj:=⟨(.type "type"),none,(Data.cls {name:="SequenceMatcher",bases:=[(.type "object")],mro:=[(.ref 242),(.type "object")],ns:=241,qualname:="SequenceMatcher",hasDict:=true,slotNames:=[],subclasses:=[],abstract:=false,collection:=none,hasDel:=false}),#[none,none,some (.str "SequenceMatcher" 389),some (.str "SequenceMatcher" 397),some (.builtin "object.__new__"),some (.bool true)]⟩
def o250(P:Params):Obj:=cO0 "_law_blocks" "_law_blocks" 594 505 3 3 247 597
def tC(P:Params):Obj:=fOx (.str "law_dm0053_04" 592) "_law_blocks" "_law_blocks" (stA 7) .none .none none 250
def o257(P:Params):Obj:=cO "_law_rows" "_law_rows" 600 514 3 3 252 611
def nF(P:Params):Obj:=fOx (.str "law_dm0053_04" 592) "_law_rows" "_law_rows" (stA 8) .none .none none 257
def o262(P:Params):Obj:=cO0 "law" "law" 614 528 1 3 259 617
def jZ(P:Params):Obj:=fOx (.str "law_dm0053_04" 592) "law" "law" (stA 9) .none .none none 262
def KL(P:Params):Frag:=[(0,boot_o_0 P),(1,boot_o_1 P),(2,boot_o_2 P),(4,boot_o_4 P),(5,boot_o_5 P),(6,boot_o_6 P),(7,boot_o_7 P),(8,boot_o_8 P),(9,boot_o_9 P),(10,boot_o_10 P),(3,o3 P),(81,o81 P),(82,o82 P),(88,o88 P),(89,o89 P),(91,o91 P),(134,o134 P),(135,o135 P),(136,o136 P),(153,o153 P),(159,o159 P),(160,nG P),(166,o166 P),(167,rA P),(173,o173 P),(174,pI P),(180,o180 P),(181,mD P),(187,o187 P),(188,jM P),(189,o189 P),(195,o195 P),(196,g9 P),(202,o202 P),(203,gR P),(209,o209 P),(210,mC P),(211,o211 P),(217,o217 P),(218,q9 P),(241,o241 P),(242,o242 P),(250,o250 P),(251,tC P),(257,o257 P),(258,nF P),(262,o262 P),(263,jZ P)]
def endN:Nat:=264
def endK:Nat:=620
def finT(w:World):BT:=(wF pR w).elim .nil λx=>x.2.2.1
def finP(w:World):Pos:=(wF pR w).elim default λx=>x.2.1
theorem finEq(w:World):wF pR w=some (.ok (.done (.ret .none)),finP w,finT w,endN,endK):=by rfl'
theorem gets(w:World):((KL w.params).map λx=>((finT w).get x.1).bind alive)=(KL w.params).map λx=>some x.2:=by rfl'
end
section
theorem vA{R:WRecords}{cl:Str->Option Addr}{h:Heap}{v:Value}{i:Int}{as:List Addr}(r:ReadsW R cl h v (.int i) as):∃ t,v= .int i t:=by
 cases r;exact⟨_,rfl⟩
theorem lT{R:WRecords}{cl:Str->Option Addr}{h:Heap}{vs:List Value}{d:WData}{ds:List WData}{as:List Addr}(r:ReadsAllW R cl h vs (d :: ds) as):∃ v vs' bs cs,vs=v :: vs'/\as=bs++cs/\ReadsW R cl h v d bs/\ReadsAllW R cl h vs' ds cs:=by
 cases r with |cons a b=>exact⟨_,_,_,_,rfl,rfl,a,b⟩
theorem m7{R:WRecords}{cl:Str->Option Addr}{h:Heap}{vs:List Value}{as:List Addr}(r:ReadsAllW R cl h vs [] as):vs= []:=by
 cases r;rfl
theorem s8{R:WRecords}{cl:Str->Option Addr}{h:Heap}{v:Value}{xs:List WData}{as:List Addr}(r:ReadsW R cl h v (.list xs) as):∃ a o arr n bs,v= .ref a/\a∈as/\h.get? a=some o/\o.cls= .type "list" /\o.data= .seq arr n/\ReadsAllW R cl h arr.toList xs bs:=by
 cases r with |list h1 h2 h3 h4=>exact⟨_,_,_,_,_,rfl,List.mem_cons_self,h1,h2,h3,h4⟩
theorem pM{R:WRecords}{cl:Str->Option Addr}{h:Heap}:∀ {ds:List WData}{vs:List Value}{as:List Addr},ReadsAllW R cl h vs ds as->WShape.hasItems R ds .int=true->
  ∃ (ns:List Int) (ts:List Tok),ts.length=ns.length/\vs=((ns.zip ts).map λx=>Value.int x.1 x.2)/\ds.length=ns.length:=by
 intro ds
 induction ds with
 |nil=>
  intro vs as r _
  exact⟨[],[],rfl,m7 r,rfl⟩
 |cons d ds ih=>
  intro vs as r hi
  have h:=Bool.and_eq_true_iff.mp (show(WShape.has R d .int && WShape.hasItems R ds .int)=true from hi)
  refine xE (hasW_int h.1) λi z130=>?_;subst z130
  refine mS (lT r) λv vs' bs cs z131 _ r1 r2=>?_;subst z131
  refine xE (vA r1) λt z132=>?_;subst z132
  refine cJ (ih r2 h.2) λns ts hl e hd=>?_
  exact⟨i :: ns,t :: ts,congrArg Nat.succ hl,congrArg (Value.int i t :: ·) e,congrArg Nat.succ hd⟩
theorem v5{p:Program}(e:opening p=plainProg p.main.scope.names)(f:∀ s,fenceModules? p s=some s)(w:World):
  ∃ s,AfterRun (opening p) w s/\s.heap=boot_heap w.params/\s.gens= #[]/\s.drawn=boot_drawn/\s.toks=boot_toks:=by
 refine xEA (Option.map_eq_some_iff.mp (boot_plain w p.main.scope.names)) λs hs hv=>?_
 rw [<-e]at hs
 rw [<-table_eq_tree]at hs
 have A:=AfterImport.of_importEnds hs
 simp only[Prod.mk.injEq]at hv
 exact⟨s,A,hv.1,hv.2.1,hv.2.2.1,hv.2.2.2⟩
theorem pre63{l:OpenLaw}{xs:List WData}(hbd:l.bound=none)(hmost:l.most=some 63)(h:(OpenLaw.pre l).holds [] {args:=[.list xs]}=true):xs.length<=63:=by
 have e:(OpenLaw.pre l).holds [] {args:=[.list xs]}= !decide ((63:Int)<(xs.length:Int)):=by
  unfold OpenLaw.pre
  rw [hbd,hmost]
  unfold WTm.holds
  dsimp only
  rw [w_and (w_not (w_lt w_lit (w_len_list (w_arg rfl)))) w_lit]
  cases decide ((63:Int)<(xs.length:Int))<;>rfl
 rw [e]at h
 by_cases q:xs.length<=63
 ·exact q
 ·rw[show decide ((63:Int)<(xs.length:Int))=true from decide_eq_true (A62 q)]at h;cases h
theorem yM{H:Heap}(stat:∃ o n,H.get? cStatics=some o/\o.data= .dict #[] n)(key:Str):staticOf H key=none:=by
 refine bO stat λo n h1 h2=>?_
 unfold staticOf
 rw [h1]
 dsimp only
 rw [h2]
 rfl
theorem yN{G H:Heap}(old:∀ b o,G.get? b=some o->b≠mainNs->H.get? b=some o)(hstat:∀ key,staticOf H key=none)(key:Str):staticOf G key=none:=by
 cases hs:staticOf G key with
 |none=>rfl
 |some v=>
  have:=hstat key
  unfold staticOf at hs this
  cases hc:G.get? cStatics with
  |none=>rw [hc]at hs;cases hs
  |some o=>
   rw [old _ _ hc (by decide)]at this
   rw [hc]at hs
   rw [this]at hs;cases hs
theorem aDw{G H:Heap}(old:∀ b o,G.get? b=some o->b≠mainNs->H.get? b=some o)(hx:G.isNs builtinsNs=true)(x:Str):builtinOf H x=builtinOf G x:=by
 unfold Heap.isNs at hx
 cases hc:G.get? builtinsNs with
 |none=>rw [hc]at hx;cases hx
 |some o=>
  unfold builtinOf
  rw [old _ _ hc (by decide),hc]
theorem zO{p:Program}{w:World}{H:Heap}{k:Nat}{os:OsState}(hz:Shared.asleep ⟨boot_heap w.params,#[],boot_drawn,boot_toks,os⟩)
  (run:Sem.wp (model p w) Γ0 (topStub p).cur (λfin _ s'=>fin= .done (.ret .none)/\s'=⟨H,#[],boot_drawn,k,os⟩) (λ_ _ _=>False) default ⟨boot_heap w.params,#[],boot_drawn,boot_toks,os⟩)
  (life:H.life=(boot_heap w.params).life) (old:∀ b o,(boot_heap w.params).get? b=some o->b≠mainNs->H.get? b=some o) (stat:∃ o n,H.get? cStatics=some o/\o.data= .dict #[] n)
  (isn:H.isNs mainGlobals=true) (nb:namesBound p H=true) (lk:laidKept (boot_heap w.params) H=true) (ib:(boot_heap w.params).isNs builtinsNs=true) (bv:(boot_heap w.params).bltView=bltViewBooted) (bm:builtinsGlobalAsBooted H):
  TopRan p w ⟨boot_heap w.params,#[],boot_drawn,boot_toks,os⟩ ⟨H,#[],boot_drawn,k,os⟩:=by
 have hs:=yM stat
 refine⟨sQ hz rfl run,life,rfl,λb o hb' hn=>old b o hb' λq=>hn (.inl q),λkey v hv=>?_,λkey=>.inl ((hs key).trans (yN old hs key).symm),Pin.keysAreStrs_of isn,λx hx=>?_,bm,λg hg=>?_,names_of_bound nb,laid_of_kept lk⟩
 ·rw[hs]at hv;cases hv
 ·exact(aDw old ib x).trans ((Pin.builtinOf_eq ib x).trans (Heap.of_bltView ib bv x hx))
 ·exact absurd hg (by simp)
def aAr(l:OpenLaw)(vs:List Value):Sem Fin:=do match<-nsGet mainNs l.name with
   |some f=>do ret (<-PySem.call f vs)
   |none=>unsupported "claim.caller:no-such-global"
theorem vX{l:OpenLaw}{w:World}{H:Heap}{k:Nat}{fa:Addr}{os:OsState}(hbd:l.bound=none)(hmost:l.most=some 63)(isn:H.isNs mainGlobals=true)(hfa:H.nsMap mainGlobals l.name=some (.ref fa))
  (walk:∀ (s₁:Shared) (a:Addr) (ns:List Int) (ts:List Tok),(∀ b o,H.get? b=some o->s₁.heap.get? b=some o)->s₁.gens= #[]->
   ts.length=ns.length->ns.length<=63->s₁.heap.IsList a ((ns.zip ts).map λx=>Value.int x.1 x.2).toArray->H.get? a=none->
   wpAny (model l.prog w) callerA (call (.ref fa) [.ref a]) (λv s'=>v= .bool true/\(∀ b o,s₁.heap.get? b=some o->s'.heap.get? b=some o)/\s'.os=s₁.os/\AllBare s'.gens) (λ_ _=>False) s₁)
  (args:List WData) (hpre:l.row.toRowW.claim.pre args=true) (hlay:WData.layableAll args=true) (ord:List DictEntry->List DictEntry) (hord:∀ l,(ord l).Perm l):
  ∃ vs s₁,layAllW [] (classAt H) w.params ord args ⟨H,#[],boot_drawn,k,os⟩=some (vs,s₁)/\
   wpAny (model l.prog w) callerA (aAr l vs) (λfin s'=>∃ f,fin= .done f/\(l.row.toRowW.claim.Ends ⟨H,#[],boot_drawn,k,os⟩ args vs s₁ (.ok f) s'/\s'.os=os/\AllBare s'.gens))
    (λe s'=>l.row.toRowW.claim.Ends ⟨H,#[],boot_drawn,k,os⟩ args vs s₁ (.error e) s'/\s'.os=os/\AllBare s'.gens) s₁:=by
 have hp:=Bool.and_eq_true_iff.mp hpre
 refine cJ (hasAllW_cons (e:=.list .int) (es:=[]) hp.1) λd ds z133 h1 h2=>?_;subst z133
 obtain rfl:=hasAllW_nil h2
 refine xEA (hasW_list h1) λxs z134 hi=>?_;subst z134
 refine xE (Option.isSome_iff_exists.mp (layAllW_isSome (R:=[]) (cl:=classAt H) (P:=w.params) (ord:=ord) (λc hc=>by cases hc) [.list xs] l.row.toRowW.args ⟨H,#[],boot_drawn,k,os⟩ hp.1)) λz135 hlaid=>?_;obtain⟨vs,s₁⟩:=z135
 have keeps:=layAllW_keeps _ _ _ hlaid
 have hal:=layAllW_rest _ _ _ hlaid
 refine c8 (reads_layAllW hord _ _ _ hlaid hlay s₁.heap (λ_ _ e=>e)) λas hrd hin hold=>?_
 have L:Laid [] w ⟨H,#[],boot_drawn,k,os⟩ s₁ [.list xs] vs as:=⟨⟨ord,hord,hlaid⟩,hrd,hin,hold,keeps,hal.1,hal.2.2.1⟩
 refine⟨vs,s₁,hlaid,?_⟩
 have hlen:=hp.2
 refine mS (lT hrd) λv vs' bs cs evs eas r1 r2=>?_
 refine sO (s8 r1) λa o vs2 n as2 ev ha ho hc hdt hr=>?_
 refine cJ (pM hr hi) λns ts hl hv hxs=>?_
 have ev2:vs= [.ref a]:=evs.trans (by rw[ev,m7 r2])
 have ha:a∈as:=eas▸List.mem_append_left _ ha
 clear hold eas r1 r2 evs ev
 rw [ev2]
 rw [ev2]at L
 have h63:ns.length<=63:=by
  rw [<-hxs]
  exact pre63 hbd hmost hlen
 have hA:(H).get? a=none:=by
  have hge:=(hin.2.2 a ha).1
  cases hq:(H).get? a with
  |none=>rfl
  |some o'=>exact absurd (Heap.lt_size hq) (Nat.not_lt.mpr hge)
 have hlist:s₁.heap.IsList a ((ns.zip ts).map λx=>Value.int x.1 x.2).toArray:=⟨o,ho,hc,n,by rw[hdt,<-hv]⟩
 have W:=walk s₁ a ns ts keeps hal.1 hl h63 hlist hA
 have hnsg:s₁.heap.Ns mainGlobals ((H).nsMap mainGlobals):=by
  have:=Heap.Ns.of_isNs isn
  refine iA this λo' es n' h1 h2=>?_
  exact⟨o',es,n',keeps _ _ h1,h2⟩
 unfold aAr
 refine wpAny_bind (wpAny_nsGet hnsg ?_)
 rw [hfa]
 refine wpAny_bind (wpAny_mono W (λv s' g=>?_) λ_ _ x=>x.elim)
 refine xAAA g λz136 gk gos gg=>?_;clear g;subst z136
 refine wpAny_pure ⟨_,rfl,?_⟩
 have G:GoodWG l.row.toRowW.claim (classAt (H)) (ExcName.means (H)) [.list xs] s₁ (.ok (.ret (.bool true))) s':=
  ⟨.inl ⟨.bool true,.bool true,[],rfl,λ_=>rfl,.bool true,by rfl',λ_=>⟨.nil,λ_ h=>nomatch h⟩⟩,.of_keep gk,gos,gg⟩
 have z:=GoodWG.laid (c:=l.row.toRowW.claim) (s₀:=⟨H,#[],boot_drawn,k,os⟩) rfl rfl (ident_freeW rfl rfl rfl) L G
 exact⟨z.1,z.2.1,z.2.2⟩
theorem vL{l:OpenLaw}{H₁:World->Heap}{k:Nat}{fa:Addr}(hwr:l.writes=false)(hbd:l.bound=none)(hmost:l.most=some 63)
  (said:l.row.wellSaid=true) (prom:l.row.toRowW.promised) (hb:l.prog.bare) (o1:opensWell l.prog=true)
  (e1:opening l.prog=plainProg l.prog.main.scope.names) (f1:∀ s,fenceModules? l.prog s=some s)
  (run:∀ w os,Sem.wp (model l.prog w) Γ0 (topStub l.prog).cur (λfin _ s'=>fin= .done (.ret .none)/\s'=⟨H₁ w,#[],boot_drawn,k,os⟩) (λ_ _ _=>False) default
   ⟨boot_heap w.params,#[],boot_drawn,boot_toks,os⟩)
  (life:∀ w,(H₁ w).life=(boot_heap w.params).life)
  (old:∀ w b o,(boot_heap w.params).get? b=some o->b≠mainNs->(H₁ w).get? b=some o)
  (stat:∀ w,∃ o n,(H₁ w).get? cStatics=some o/\o.data= .dict #[] n)
  (isn:∀ w,(H₁ w).isNs mainGlobals=true) (nb:∀ w,namesBound l.prog (H₁ w)=true) (lk:∀ w,laidKept (boot_heap w.params) (H₁ w)=true)
  (ib:∀ w:World,(boot_heap w.params).isNs builtinsNs=true) (bv:∀ w:World,(boot_heap w.params).bltView=bltViewBooted)
  (bm:∀ w,builtinsGlobalAsBooted (H₁ w))
  (pin:∀ w,isTheDefsW l.prog (H₁ w) l.name) (hfa:∀ w,(H₁ w).nsMap mainGlobals l.name=some (.ref fa))
  (walk:∀ (w:World) (s₁:Shared) (a:Addr) (ns:List Int) (ts:List Tok),(∀ b o,(H₁ w).get? b=some o->s₁.heap.get? b=some o)->s₁.gens= #[]->
   ts.length=ns.length->ns.length<=63->s₁.heap.IsList a ((ns.zip ts).map λx=>Value.int x.1 x.2).toArray->(H₁ w).get? a=none->
   wpAny (model l.prog w) callerA (call (.ref fa) [.ref a]) (λv s'=>v= .bool true/\(∀ b o,s₁.heap.get? b=some o->s'.heap.get? b=some o)/\s'.os=s₁.os/\AllBare s'.gens) (λ_ _=>False) s₁):
  l.row.Holds:=by
 refine⟨said,prom,⟨hb,o1,rfl⟩,?_,λw=>?_⟩
 ·refine xEA prom λargs h1 h2=>?_
  exact⟨args,h1,(Bool.and_eq_true_iff.mp h2).1⟩
 refine zJ (v5 e1 f1 w) λs₀ hA hh hg hd ht=>?_
 refine⟨⟨s₀,hA⟩,λs' hs'=>?_⟩
 obtain rfl:s'=s₀:=AfterImport.unique hs' hA
 obtain⟨heap,gens,drawn,toks,os⟩:=s'
 dsimp only at hh hg hd ht
 subst hh hg hd ht
 have hz:Shared.asleep ⟨boot_heap w.params,#[],boot_drawn,boot_toks,os⟩:=AfterImport.life hA
 have hT:=zO (p:=l.prog) hz (run w os) (life w) (old w) (stat w) (isn w) (nb w) (lk w) (ib w) (bv w) (bm w)
 refine⟨_,f1 _,rfl,⟨H₁ w,#[],boot_drawn,k,os⟩,hT,λn hn=>?_,λx hx=>(nomatch (show x∈([]:WRecords) from hx)),λx hx=>(nomatch (show x∈([]:WRecords) from hx)),?_⟩
 ·obtain rfl:n=l.name:=by simpa [OpenLaw.row] using hn
  exact pin w
 have hz₁:Shared.asleep ⟨H₁ w,#[],boot_drawn,k,os⟩:=Shared.asleep_of_life (life w) hz
 refine ClaimW.callFrom_of_specG (c:=l.row.toRowW.claim) (tree:=aAr l) hz₁ rfl λargs hpre hlay ord hord=>?_
 refine bO (vX (k:=k) (os:=os) hbd hmost (isn w) (hfa w) (walk w) args hpre hlay ord hord) λvs s₁ q1 q2=>?_
 have no: ¬l.row.writes=true:=λq=>by rw[show l.row.writes=l.writes from rfl,hwr]at q;cases q
 exact⟨vs,s₁,q1,wpAny_mono q2 (λfin s' ⟨f,e,g1,g2,g3⟩=>⟨f,e,g1,g2,g3,λq=>absurd q no⟩) λe s' ⟨g1,g2,g3⟩=>⟨g1,g2,g3,λq=>absurd q no⟩⟩
end
section
def H1(w:World):Heap:=absHeap (finT w) endN (boot_heap w.params).life
theorem bt0_eq(P:Params):absHeap (bt0 P) 11 (boot_heap P).life=boot_heap P:=by rfl'
theorem aBt(P:Params):((KL P).all λx=>Nat.blt x.1 endN)=true:=by rfl'
theorem wA(w:World):(KL w.params).In (H1 w):=by
 have key:∀ (K:Frag) (T:BT) (n:Nat) (life:Life),(K.map λx=>(T.get x.1).bind alive)=K.map (λx=>some x.2)->(K.all λx=>Nat.blt x.1 n)=true->K.In (absHeap T n life):=by
  intro K T n life
  induction K with
  |nil=>intro _ _ a o e;cases e
  |cons p r ih=>
   obtain⟨b,x⟩:=p
   intro h1 h2 a o e
   simp only[List.map_cons,List.cons.injEq]at h1
   simp only[List.all_cons,Bool.and_eq_true]at h2
   simp only[List.lookup]at e
   split at e
   ·rename_i q
    cases e
    obtain rfl:=beq_iff_eq.mp q
    have hlt:=Nat.le_of_ble_eq_true h2.1
    refine xEA (Option.bind_eq_some_iff.mp h1.1) λo' g1 g2=>?_
    exact(abs_get hlt g1).trans g2
   ·exact ih h1.2 h2.2 a o e
 exact key _ _ _ _ (gets w) (aBt w.params)
theorem aE6(w:World)(os:OsState):Sem.wp (model pw w) Γ0 (topStub pw).cur (λfin _ s'=>fin= .done (.ret .none)/\s'=⟨H1 w,#[],boot_drawn,endK,os⟩) (λ_ _ _=>False) default
   ⟨boot_heap w.params,#[],boot_drawn,boot_toks,os⟩:=by
 have h:=finEq w
 unfold wF at h
 rw [<-den_eq,<-p_eq]at h
 have e:ab (boot_heap w.params).life #[] boot_drawn os (bt0 w.params) 11 boot_toks=⟨boot_heap w.params,#[],boot_drawn,boot_toks,os⟩:=by
  unfold ab;rw[bt0_eq]
 rw [<-e]
 have key:Ph (boot_heap w.params).life #[] boot_drawn os (λfin _ s'=>fin= .done (.ret .none)/\s'=⟨H1 w,#[],boot_drawn,endK,os⟩) (λ_ _ _=>False) (some ((Except.ok (PySem.Fin.done (Flow.ret Value.none)):Except Value PySem.Fin),finP w,finT w,endN,endK)):=⟨rfl,rfl⟩
 rw [<-h]at key
 exact aDa (model pw w) (boot_heap w.params).life #[] boot_drawn os (λhq=>vR (model pw w) (boot_heap w.params).life #[] boot_drawn os 3000 hq) _ key
theorem get3(w:World):(H1 w).get? 3=some (o3 w.params):=wA w _ _ ⋯
end
section
theorem old1(w:World)(b:Addr)(o:Obj)(h:(boot_heap w.params).get? b=some o)(hn:b≠mainNs):(H1 w).get? b=some o:=by
 have hlt:b<11:=Heap.lt_size h
 have K:=wA w
 match b,hlt,hn with
 |0,_,_=>
  have e:(boot_heap w.params).get? 0=some (boot_o_0 w.params):=by rfl'
  rw [e]at h;cases h;exact K _ _ ⋯
 |1,_,_=>
  have e:(boot_heap w.params).get? 1=some (boot_o_1 w.params):=by rfl'
  rw [e]at h;cases h;exact K _ _ ⋯
 |2,_,_=>
  have e:(boot_heap w.params).get? 2=some (boot_o_2 w.params):=by rfl'
  rw [e]at h;cases h;exact K _ _ ⋯
 |3,_,hn=>exact absurd rfl hn
 |4,_,_=>
  have e:(boot_heap w.params).get? 4=some (boot_o_4 w.params):=by rfl'
  rw [e]at h;cases h;exact K _ _ ⋯
 |5,_,_=>
  have e:(boot_heap w.params).get? 5=some (boot_o_5 w.params):=by rfl'
  rw [e]at h;cases h;exact K _ _ ⋯
 |6,_,_=>
  have e:(boot_heap w.params).get? 6=some (boot_o_6 w.params):=by rfl'
  rw [e]at h;cases h;exact K _ _ ⋯
 |7,_,_=>
  have e:(boot_heap w.params).get? 7=some (boot_o_7 w.params):=by rfl'
  rw [e]at h;cases h;exact K _ _ ⋯
 |8,_,_=>
  have e:(boot_heap w.params).get? 8=some (boot_o_8 w.params):=by rfl'
  rw [e]at h;cases h;exact K _ _ ⋯
 |9,_,_=>
  have e:(boot_heap w.params).get? 9=some (boot_o_9 w.params):=by rfl'
  rw [e]at h;cases h;exact K _ _ ⋯
 |10,_,_=>
  have e:(boot_heap w.params).get? 10=some (boot_o_10 w.params):=by rfl'
  rw [e]at h;cases h;exact K _ _ ⋯
 |b+11,hlt,_=>exact absurd hlt (Nat.not_lt.mpr (Nat.le_add_left 11 b))
theorem ns3(w:World)(x:Str):(H1 w).nsMap mainGlobals x=(match (o3 w.params).data with | .dict es _=>nsFind es x |_=>none):=by
 unfold Heap.nsMap mainGlobals;rw[get3];rfl
theorem isn1(w:World):(H1 w).isNs mainGlobals=true:=by
 unfold Heap.isNs mainGlobals;rw[get3];kernel_rfl
theorem keys3(w:World):(H1 w).nsKeys mainGlobals=(match (o3 w.params).data with
  | .dict es _=>es.toList.filterMap λe=>match e.key with | .str n _=>some n |_=>none
  |_=>[]):=by
 unfold Heap.nsKeys mainGlobals;rw[get3];rfl
theorem nb1(w:World):namesBound pw (H1 w)=true:=by
 unfold namesBound;rw[isn1,keys3];kernel_rfl
theorem lk1(w:World):laidKept (boot_heap w.params) (H1 w)=true:=by
 unfold laidKept;rw[isn1];simp only[ns3];kernel_rfl
theorem ib1(w:World):(boot_heap w.params).isNs builtinsNs=true:=by rfl'
theorem bv1(w:World):(boot_heap w.params).bltView=bltViewBooted:=by rfl'
theorem bm1(w:World):builtinsGlobalAsBooted (H1 w):=by
 refine⟨4,boot_o_4 w.params,?_,wA w _ _ ⋯,by rfl',by rfl'⟩
 rw [Pin.globalOf_eq (isn1 w),ns3];kernel_rfl
def law:Str:=Str.ofString "law"
theorem fa1(w:World):(H1 w).nsMap mainGlobals law=some (.ref 263):=by rw[ns3];kernel_rfl
theorem pin1(w:World):isTheDefsW pw (H1 w) law:=by
 refine⟨263,jZ w.params,_,_,_,_,(Pin.globalOf_eq (isn1 w) _).trans (fa1 w),wA w _ _ ⋯,rfl,(by rfl':pw.theDef law=some (fPar (stA 9),bH (stA 9),fSco (stA 9))),rfl,rfl,rfl,rfl,rfl,rfl,rfl,rfl,?_⟩
 exact⟨.inl ⟨rfl,rfl⟩,[],rfl,.inl ⟨rfl,rfl⟩⟩
theorem said5:OpenLaw.wellSaid PySem.Challenge.rw_dm0053_04=true:=by rfl'
theorem head(walk:∀ (w:World) (s₁:Shared) (a:Addr) (ns:List Int) (ts:List Tok),(∀ b o,(H1 w).get? b=some o->s₁.heap.get? b=some o)->s₁.gens= #[]->
   ts.length=ns.length->ns.length<=63->s₁.heap.IsList a ((ns.zip ts).map λx=>Value.int x.1 x.2).toArray->(H1 w).get? a=none->
   wpAny (model pw w) callerA (call (.ref 263) [.ref a]) (λv s'=>v= .bool true/\(∀ b o,s₁.heap.get? b=some o->s'.heap.get? b=some o)/\s'.os=s₁.os/\AllBare s'.gens) (λ_ _=>False) s₁):
  PySem.Challenge.rw_dm0053_04.Holds:=by
 refine holds_law said5 λsaid=>?_
 exact vL (l:=PySem.Challenge.rw_dm0053_04) rfl rfl rfl said ⟨[.list []],by decide+kernel,by decide+kernel⟩ ⟨rfl,rfl,rfl,rfl,rfl,by decide+kernel⟩ (by decide+kernel) ⋯ (λs=>by rfl')
  aE6 (λ_=>rfl) old1 (λw=>⟨boot_o_2 w.params,0,wA w _ _ ⋯,by rfl'⟩) isn1 nb1 lk1 ib1 bv1 bm1 pin1 fa1 walk
end
section
def nth(b:List Stmt)(k:Nat):Stmt:=(b.drop k).headD (.Pass ⟨0,0,0,0⟩)
def e0:Expr:=.Constant .none 0 ⟨0,0,0,0⟩
def p0:Pos:=⟨0,0,0,0⟩
def forT:Stmt->Expr | .For t _ _ _ _=>t |_=>e0
def forI:Stmt->Expr | .For _ i _ _ _=>i |_=>e0
def forB:Stmt->List Stmt | .For _ _ b _ _=>b |_=>[]
def forP:Stmt->Pos | .For _ _ _ _ p=>p |_=>p0
def ifT:Stmt->Expr | .If t _ _ _=>t |_=>e0
def ifB:Stmt->List Stmt | .If _ b _ _=>b |_=>[]
def ifP:Stmt->Pos | .If _ _ _ p=>p |_=>p0
def exE:Stmt->Expr | .Expr e _=>e |_=>e0
def exP:Stmt->Pos | .Expr _ p=>p |_=>p0
def yiE:Expr->Expr | .Yield (some e) _=>e |_=>e0
def yiP:Expr->Pos | .Yield _ p=>p |_=>p0
def gshOf(fd:FuncData)(fa:Addr)(b:List Stmt)(k:Nat):GSh:=
 let f:=nth b k
 let i1:=nth (forB f) 0
 let i2:=nth b (k+1)
 {fd:=fd,fa:=fa,pre:=b.take k,target:=forT f,iter:=forI f,cond:=ifT i1,ye:=yiE (exE (nth (ifB i1) 1)),cond2:=ifT i2,ye2:=yiE (exE (nth (ifB i2) 0)),s1:=nth (ifB i1) 0,s3:=nth (forB f) 1,s2:=(ifB i1).drop 2,p1:=yiP (exE (nth (ifB i1) 1)),p2:=exP (nth (ifB i1) 1),p3:=yiP (exE (nth (ifB i2) 0)),p4:=exP (nth (ifB i2) 0),p5:=ifP i1,p6:=ifP i2,p7:=forP f}
theorem aCr(fd:FuncData):(gshOf fd 218 (bH (stB 5 9)) 7).body=bH (stB 5 9):=by rfl'
end
section
def aX(o:Obj):FuncData:=match o.data with | .func fd=>fd |_=> {name:="",qualname:="",params:=⟨[],[],none,[],[],none,[]⟩,body:=.stmts [],scope:=default,globals:=0,closure:=[],defaults:=.none,kwdefaults:=.none,doc:=.none,pyModule:=.none,annotations:=none,code:=.none,closureTuple:=.none,builtins:=0}
noncomputable abbrev gsh(P:Params):GSh:=gshOf (aX (q9 P)) 218 (bH (stB 5 9)) 7
structure XX(C:Cx) where
 w:World
 base:∀ b o,(H1 w).get? b=some o->C.base.heap.get? b=some o
 gr:∀ ρ s l gn,C.GR ρ s l gn=eB (gsh w.params) ρ s l gn
variable {C:Cx}
theorem XX.get(X:XX C){b:Addr}{o:Obj}(h:(KL X.w.params).lookup b=some o):C.base.heap.get? b=some o:=X.base _ _ (wA X.w _ _ h)
theorem XX.inK(X:XX C):(KL X.w.params).In C.base.heap:=λ_ _ h=>X.get h
theorem XX.sys(X:XX C):∃ o,C.base.heap.get? sysModules=some o:=⟨_,X.get (Option.eq_some_of_isSome (by rfl':((KL X.w.params).lookup sysModules).isSome=true))⟩
theorem wV{h:Heap}{a:Addr}{o:Obj}(e:h.get? a=some o)(hn:(match o.data with | .dict es _=>es.all (λx=>match x.key with | .str _ _=>true |_=>false) |_=>false)=true):
  h.Ns a (λx=>match o.data with | .dict es _=>nsFind es x |_=>none):=by
 have q:h.isNs a=true:=by unfold Heap.isNs;rw[e];exact hn
 have z:=Heap.Ns.of_isNs q
 have y:h.nsMap a=(λx=>match o.data with | .dict es _=>nsFind es x |_=>none):=by funext x;unfold Heap.nsMap;rw[e];rfl
 rw [<-y];exact z
theorem XX.smc(X:XX C):SMC C:=by
 refine⟨⟨_,_,_,_,_,_,_,_,_,_,_,_,X.get (o:=o242 X.w.params) ⋯⟩,⟨_,wV (X.get (o:=o241 X.w.params) ⋯) ⋯,?_,by rfl',by rfl',by rfl',?_⟩,?_⟩
 ·intro x hx
  simp only[dH,List.mem_cons,List.not_mem_nil,or_false]at hx
  rcases hx with rfl |rfl |rfl |rfl |rfl |rfl |rfl |rfl |rfl |rfl<;>kernel_rfl
 ·intro p hp
  simp only[eX,List.mem_cons,List.not_mem_nil,or_false]at hp
  rcases hp with rfl |rfl |rfl |rfl |rfl |rfl |rfl |rfl |rfl<;>kernel_rfl
 ·intro p hp
  simp only[eX,List.mem_cons,List.not_mem_nil,or_false]at hp
  rcases hp with rfl |rfl |rfl |rfl |rfl |rfl |rfl |rfl |rfl
  ·exact⟨nG X.w.params,X.get ⋯,rfl⟩
  ·exact⟨rA X.w.params,X.get ⋯,rfl⟩
  ·exact⟨pI X.w.params,X.get ⋯,rfl⟩
  ·exact⟨mD X.w.params,X.get ⋯,rfl⟩
  ·exact⟨jM X.w.params,X.get ⋯,rfl⟩
  ·exact⟨g9 X.w.params,X.get ⋯,rfl⟩
  ·exact⟨gR X.w.params,X.get ⋯,rfl⟩
  ·exact⟨mC X.w.params,X.get ⋯,rfl⟩
  ·exact⟨q9 X.w.params,X.get ⋯,rfl⟩
theorem XX.kc(X:XX C):KCx C (KL X.w.params) where
 mem:=X.inK
 makes:=by rfl'
 init:=by rfl'
 initT:=by rfl'
 callS:=by rfl'
 callM:=by rfl'
 typM:=by rfl'
 clsM:=⟨_,_,_,_,(by rfl':(KL X.w.params).lookup aE=some (o135 X.w.params)),by rfl',by rfl',by rfl',by rfl',by rfl',by rfl',by rfl'⟩
 clsS:=⟨_,_,_,_,(by rfl':(KL X.w.params).lookup dT=some (o242 X.w.params))⟩
 readsM:=by rfl'
 newM:=by rfl'
 makeM:=by rfl'
 smM:=by rfl'
 cmM:=⟨Value.bool false,by rfl'⟩
 initM:=by rfl'
 newT:=by rfl'
theorem XX.km(X:XX C):KMx C (KL X.w.params) where
 toK:=X.kc
 bases:=⟨_,_,_,_,(by rfl':(KL X.w.params).lookup aE=some (o135 X.w.params)),by rfl'⟩
 iter:=by rfl'
 len:=by rfl'
 lt:=by rfl'
 tup:=by rfl'
def nmL(env:Env)(x:Str):Bool:=(match env.kindOf x with |some .local=>true |some .cell=>true |some .free=>true |_=>false) && !(x==("__debug__" :Str)) && !(x==("__classdict__" :Str))
theorem vE{env:Env}{x:Str}(h:nmL env x=true):(env.kindOf x=some .local∨env.kindOf x=some .cell∨env.kindOf x=some .free)/\(x==("__debug__" :Str))=false/\(x==("__classdict__" :Str))=false:=by
 unfold nmL at h
 have h1:=Bool.and_eq_true_iff.mp h
 have h2:=Bool.and_eq_true_iff.mp h1.1
 refine⟨?_,Bool.not_eq_true' _ |>.mp h2.2,Bool.not_eq_true' _ |>.mp h1.2⟩
 have h3:=h2.1
 revert h3
 cases env.kindOf x with
 |none=>intro h;cases h
 |some k=>cases k<;>intro h<;>first |exact .inl rfl |exact .inr (.inl rfl) |exact .inr (.inr rfl) |cases h
theorem EV.nm{r:Nat}{env:Env}{x:Str}{pos:Pos}(h:nmL env x=true:=by rfl'):EV C r env (.Name x pos) (eN x):=EV.name (vE h).1 (vE h).2.1 (vE h).2.2
def nmB(env:Env)(x:Str):Bool:=match env.kindOf x with |some .local=>true |some .cell=>true |_=>false
theorem iN{env:Env}{l:List Str}(h:l.all (nmB env)=true)(x:Str)(hx:x∈l):env.kindOf x=some .local∨env.kindOf x=some .cell:=by
 have h3:=List.all_eq_true.mp h x hx
 unfold nmB at h3
 revert h3
 cases env.kindOf x with
 |none=>intro h;cases h
 |some k=>cases k<;>intro h<;>first |exact .inl rfl |exact .inr rfl |cases h
def nmD(ns:List (Str×NameKind))(x:Str):Bool:=match ns.lookup x with |some .local=>true |some .cell=>true |_=>false
theorem dW{ns:List (Str×NameKind)}{l:List Str}(h:l.all (nmD ns)=true)(x:Str)(hx:x∈l):ns.lookup x=some .local∨ns.lookup x=some .cell:=by
 have h3:=List.all_eq_true.mp h x hx
 unfold nmD at h3
 revert h3
 cases ns.lookup x with
 |none=>intro h;cases h
 |some k=>cases k<;>intro h<;>first |exact .inl rfl |exact .inr rfl |cases h
theorem aBh{ns:List (Str×NameKind)}{l:List Str}(h:l.all (λx=>ns.lookup x==some .local)=true)(x:Str)(hx:x∈l):ns.lookup x=some .local:=eq_of_beq (List.all_eq_true.mp h x hx)
noncomputable abbrev Sx(C:Cx)(r:Nat)(o:Obj)(L a:Addr)(b:Stmt)(i:Nat)(f:SF):Prop:=SV C r (callEnvC (aX o) L a) (((bH b).drop i).headD (.Pass ⟨0,0,0,0⟩)) f
end
section
variable {C:Cx}
theorem nofree{l:List (Str×NameKind)}(h:(l.all λx=>match x.2 with | .free=>false |_=>true)=true)(x:Str):l.lookup x≠some .free:=by
 intro e
 have:=List.all_eq_true.mp h _ (mem_of_lookup e)
 simp at this
theorem XX.ns3(X:XX C):C.base.heap.Ns mainGlobals (λx=>match (o3 X.w.params).data with | .dict es _=>nsFind es x |_=>none):=wV (X.get (o:=o3 X.w.params) ⋯) ⋯
theorem XX.ns0(X:XX C):C.base.heap.Ns builtinsNs (λx=>match (boot_o_0 X.w.params).data with | .dict es _=>nsFind es x |_=>none):=wV (X.get (o:=boot_o_0 X.w.params) ⋯) ⋯
theorem aJ{α:Type}{us:List α}{n:Nat}(h:us.length=n+1):∃ a t,us=a :: t/\t.length=n:=by
 cases us with
 |nil=>simp at h
 |cons a t=>exact⟨a,t,rfl,by simpa using h⟩
theorem XX.g_Match(X:XX C):Glo C "Match" (.ref aE):=⟨_,X.ns3,.inl ⋯⟩
theorem XX.g_SequenceMatcher(X:XX C):Glo C "SequenceMatcher" (.ref dT):=⟨_,X.ns3,.inl ⋯⟩
theorem XX.g__law_blocks(X:XX C):Glo C "_law_blocks" (.ref 251):=⟨_,X.ns3,.inl ⋯⟩
theorem XX.g__law_rows(X:XX C):Glo C "_law_rows" (.ref 258):=⟨_,X.ns3,.inl ⋯⟩
theorem XX.g_list(X:XX C):Glo C "list" (.type "list"):=⟨_,X.ns3,.inr ⟨by rfl',_,X.ns0,by rfl'⟩⟩
theorem XX.g_map(X:XX C):Glo C "map" (.type "map"):=⟨_,X.ns3,.inr ⟨by rfl',_,X.ns0,by rfl'⟩⟩
theorem XX.g_set(X:XX C):Glo C "set" (.type "set"):=⟨_,X.ns3,.inr ⟨by rfl',_,X.ns0,by rfl'⟩⟩
theorem XX.g_range(X:XX C):Glo C "range" (.type "range"):=⟨_,X.ns3,.inr ⟨by rfl',_,X.ns0,by rfl'⟩⟩
theorem XX.g_enumerate(X:XX C):Glo C "enumerate" (.type "enumerate"):=⟨_,X.ns3,.inr ⟨by rfl',_,X.ns0,by rfl'⟩⟩
theorem XX.g_tuple(X:XX C):Glo C "tuple" (.type "tuple"):=⟨_,X.ns3,.inr ⟨by rfl',_,X.ns0,by rfl'⟩⟩
theorem XX.g_len(X:XX C):Glo C "len" (.builtin "len"):=⟨_,X.ns3,.inr ⟨by rfl',_,X.ns0,by rfl'⟩⟩
theorem XX.g_max(X:XX C):Glo C "max" (.builtin "max"):=⟨_,X.ns3,.inr ⟨by rfl',_,X.ns0,by rfl'⟩⟩
theorem XX.g_min(X:XX C):Glo C "min" (.builtin "min"):=⟨_,X.ns3,.inr ⟨by rfl',_,X.ns0,by rfl'⟩⟩
theorem XX.d_new(X:XX C):Def C 82 (aX (o82 X.w.params)) (bH (stB 3 4)) where
 obj:=⟨_,X.get (o:=o82 X.w.params) ⋯,rfl⟩
 code:=⟨81,_,_,_,rfl,X.get (o:=o81 X.w.params) ⋯,rfl,rfl⟩
 body:=rfl
 clo:=rfl
 gl:=rfl
 bi:=rfl
 kind:=by rfl'
 co:=by rfl'
 free:=nofree ⋯
theorem XX.b_new(X:XX C):Binds C (aX (o82 X.w.params)) ["_cls","a","b","size"] []:=by
 intro s us hk hl
 replace hl:us.length=4:=by simpa using hl
 refine bO (aJ hl) λu0 us0 z137 h0=>?_;subst z137
 refine bO (aJ h0) λu1 us1 z138 h1=>?_;subst z138
 refine bO (aJ h1) λu2 us2 z139 h2=>?_;subst z139
 refine bO (aJ h2) λu3 us3 z140 h3=>?_;subst z140
 obtain rfl:=List.eq_nil_of_length_eq_zero h3
 exact BindsTo.of_eq rfl
theorem XX.d_make(X:XX C):Def C 89 (aX (o89 X.w.params)) (bH (stB 3 5)) where
 obj:=⟨_,X.get (o:=o89 X.w.params) ⋯,rfl⟩
 code:=⟨88,_,_,_,rfl,X.get (o:=o88 X.w.params) ⋯,rfl,rfl⟩
 body:=rfl
 clo:=rfl
 gl:=rfl
 bi:=rfl
 kind:=by rfl'
 co:=by rfl'
 free:=nofree ⋯
theorem XX.b_make(X:XX C):Binds C (aX (o89 X.w.params)) ["cls","iterable"] []:=by
 intro s us hk hl
 replace hl:us.length=2:=by simpa using hl
 refine bO (aJ hl) λu0 us0 z141 h0=>?_;subst z141
 refine bO (aJ h0) λu1 us1 z142 h1=>?_;subst z142
 obtain rfl:=List.eq_nil_of_length_eq_zero h1
 exact BindsTo.of_eq rfl
theorem XX.d_init(X:XX C):Def C 160 (aX (nG X.w.params)) (bH (stB 5 1)) where
 obj:=⟨_,X.get (o:=nG X.w.params) ⋯,rfl⟩
 code:=⟨159,_,_,_,rfl,X.get (o:=o159 X.w.params) ⋯,rfl,rfl⟩
 body:=rfl
 clo:=rfl
 gl:=rfl
 bi:=rfl
 kind:=by rfl'
 co:=by rfl'
 free:=nofree ⋯
theorem XX.b_init(X:XX C):Binds C (aX (nG X.w.params)) ["self","isjunk","a","b","autojunk"] []:=by
 intro s us hk hl
 replace hl:us.length=5:=by simpa using hl
 refine bO (aJ hl) λu0 us0 z143 h0=>?_;subst z143
 refine bO (aJ h0) λu1 us1 z144 h1=>?_;subst z144
 refine bO (aJ h1) λu2 us2 z145 h2=>?_;subst z145
 refine bO (aJ h2) λu3 us3 z146 h3=>?_;subst z146
 refine bO (aJ h3) λu4 us4 z147 h4=>?_;subst z147
 obtain rfl:=List.eq_nil_of_length_eq_zero h4
 exact BindsTo.of_defaults rfl (hk _ _ (X.get (o:=o153 X.w.params) ⋯)) rfl rfl rfl
theorem XX.d_set_seqs(X:XX C):Def C 167 (aX (rA X.w.params)) (bH (stB 5 2)) where
 obj:=⟨_,X.get (o:=rA X.w.params) ⋯,rfl⟩
 code:=⟨166,_,_,_,rfl,X.get (o:=o166 X.w.params) ⋯,rfl,rfl⟩
 body:=rfl
 clo:=rfl
 gl:=rfl
 bi:=rfl
 kind:=by rfl'
 co:=by rfl'
 free:=nofree ⋯
theorem XX.b_set_seqs(X:XX C):Binds C (aX (rA X.w.params)) ["self","a","b"] []:=by
 intro s us hk hl
 replace hl:us.length=3:=by simpa using hl
 refine bO (aJ hl) λu0 us0 z152 h0=>?_;subst z152
 refine bO (aJ h0) λu1 us1 z153 h1=>?_;subst z153
 refine bO (aJ h1) λu2 us2 z154 h2=>?_;subst z154
 obtain rfl:=List.eq_nil_of_length_eq_zero h2
 exact BindsTo.of_eq rfl
theorem XX.d_set_seq1(X:XX C):Def C 174 (aX (pI X.w.params)) (bH (stB 5 3)) where
 obj:=⟨_,X.get (o:=pI X.w.params) ⋯,rfl⟩
 code:=⟨173,_,_,_,rfl,X.get (o:=o173 X.w.params) ⋯,rfl,rfl⟩
 body:=rfl
 clo:=rfl
 gl:=rfl
 bi:=rfl
 kind:=by rfl'
 co:=by rfl'
 free:=nofree ⋯
theorem XX.b_set_seq1(X:XX C):Binds C (aX (pI X.w.params)) ["self","a"] []:=by
 intro s us hk hl
 replace hl:us.length=2:=by simpa using hl
 refine bO (aJ hl) λu0 us0 z155 h0=>?_;subst z155
 refine bO (aJ h0) λu1 us1 z156 h1=>?_;subst z156
 obtain rfl:=List.eq_nil_of_length_eq_zero h1
 exact BindsTo.of_eq rfl
theorem XX.d_set_seq2(X:XX C):Def C 181 (aX (mD X.w.params)) (bH (stB 5 4)) where
 obj:=⟨_,X.get (o:=mD X.w.params) ⋯,rfl⟩
 code:=⟨180,_,_,_,rfl,X.get (o:=o180 X.w.params) ⋯,rfl,rfl⟩
 body:=rfl
 clo:=rfl
 gl:=rfl
 bi:=rfl
 kind:=by rfl'
 co:=by rfl'
 free:=nofree ⋯
theorem XX.b_set_seq2(X:XX C):Binds C (aX (mD X.w.params)) ["self","b"] []:=by
 intro s us hk hl
 replace hl:us.length=2:=by simpa using hl
 refine bO (aJ hl) λu0 us0 z157 h0=>?_;subst z157
 refine bO (aJ h0) λu1 us1 z158 h1=>?_;subst z158
 obtain rfl:=List.eq_nil_of_length_eq_zero h1
 exact BindsTo.of_eq rfl
theorem XX.d_chain_b(X:XX C):Def C 188 (aX (jM X.w.params)) (bH (stB 5 5)) where
 obj:=⟨_,X.get (o:=jM X.w.params) ⋯,rfl⟩
 code:=⟨187,_,_,_,rfl,X.get (o:=o187 X.w.params) ⋯,rfl,rfl⟩
 body:=rfl
 clo:=rfl
 gl:=rfl
 bi:=rfl
 kind:=by rfl'
 co:=by rfl'
 free:=nofree ⋯
theorem XX.b_chain_b(X:XX C):Binds C (aX (jM X.w.params)) ["self"] []:=by
 intro s us hk hl
 replace hl:us.length=1:=by simpa using hl
 refine bO (aJ hl) λu0 us0 z159 h0=>?_;subst z159
 obtain rfl:=List.eq_nil_of_length_eq_zero h0
 exact BindsTo.of_eq rfl
theorem XX.d_find_longest_match(X:XX C):Def C 196 (aX (g9 X.w.params)) (bH (stB 5 6)) where
 obj:=⟨_,X.get (o:=g9 X.w.params) ⋯,rfl⟩
 code:=⟨195,_,_,_,rfl,X.get (o:=o195 X.w.params) ⋯,rfl,rfl⟩
 body:=rfl
 clo:=rfl
 gl:=rfl
 bi:=rfl
 kind:=by rfl'
 co:=by rfl'
 free:=nofree ⋯
theorem XX.b_find_longest_match(X:XX C):Binds C (aX (g9 X.w.params)) ["self","alo","ahi","blo","bhi"] []:=by
 intro s us hk hl
 replace hl:us.length=5:=by simpa using hl
 refine bO (aJ hl) λu0 us0 z160 h0=>?_;subst z160
 refine bO (aJ h0) λu1 us1 z161 h1=>?_;subst z161
 refine bO (aJ h1) λu2 us2 z162 h2=>?_;subst z162
 refine bO (aJ h2) λu3 us3 z163 h3=>?_;subst z163
 refine bO (aJ h3) λu4 us4 z164 h4=>?_;subst z164
 obtain rfl:=List.eq_nil_of_length_eq_zero h4
 exact BindsTo.of_defaults rfl (hk _ _ (X.get (o:=o189 X.w.params) ⋯)) rfl rfl rfl
theorem XX.d_get_matching_blocks(X:XX C):Def C 203 (aX (gR X.w.params)) (bH (stB 5 7)) where
 obj:=⟨_,X.get (o:=gR X.w.params) ⋯,rfl⟩
 code:=⟨202,_,_,_,rfl,X.get (o:=o202 X.w.params) ⋯,rfl,rfl⟩
 body:=rfl
 clo:=rfl
 gl:=rfl
 bi:=rfl
 kind:=by rfl'
 co:=by rfl'
 free:=nofree ⋯
theorem XX.b_get_matching_blocks(X:XX C):Binds C (aX (gR X.w.params)) ["self"] []:=by
 intro s us hk hl
 replace hl:us.length=1:=by simpa using hl
 refine bO (aJ hl) λu0 us0 z165 h0=>?_;subst z165
 obtain rfl:=List.eq_nil_of_length_eq_zero h0
 exact BindsTo.of_eq rfl
theorem XX.d_get_opcodes(X:XX C):Def C 210 (aX (mC X.w.params)) (bH (stB 5 8)) where
 obj:=⟨_,X.get (o:=mC X.w.params) ⋯,rfl⟩
 code:=⟨209,_,_,_,rfl,X.get (o:=o209 X.w.params) ⋯,rfl,rfl⟩
 body:=rfl
 clo:=rfl
 gl:=rfl
 bi:=rfl
 kind:=by rfl'
 co:=by rfl'
 free:=nofree ⋯
theorem XX.b_get_opcodes(X:XX C):Binds C (aX (mC X.w.params)) ["self"] []:=by
 intro s us hk hl
 replace hl:us.length=1:=by simpa using hl
 refine bO (aJ hl) λu0 us0 z166 h0=>?_;subst z166
 obtain rfl:=List.eq_nil_of_length_eq_zero h0
 exact BindsTo.of_eq rfl
theorem XX.d_get_grouped_opcodes(X:XX C):Def C 218 (aX (q9 X.w.params)) (bH (stB 5 9)) where
 obj:=⟨_,X.get (o:=q9 X.w.params) ⋯,rfl⟩
 code:=⟨217,_,_,_,rfl,X.get (o:=o217 X.w.params) ⋯,rfl,rfl⟩
 body:=rfl
 clo:=rfl
 gl:=rfl
 bi:=rfl
 kind:=by rfl'
 co:=by rfl'
 free:=nofree ⋯
theorem XX.b_get_grouped_opcodes(X:XX C):Binds C (aX (q9 X.w.params)) ["self","n"] []:=by
 intro s us hk hl
 replace hl:us.length=2:=by simpa using hl
 refine bO (aJ hl) λu0 us0 z167 h0=>?_;subst z167
 refine bO (aJ h0) λu1 us1 z168 h1=>?_;subst z168
 obtain rfl:=List.eq_nil_of_length_eq_zero h1
 exact BindsTo.of_defaults rfl (hk _ _ (X.get (o:=o211 X.w.params) ⋯)) rfl rfl rfl
theorem XX.b_get_grouped_opcodes1(X:XX C):Binds C (aX (q9 X.w.params)) ["self","n"] [Value.int 3 534]:=by
 intro s us hk hl
 replace hl:us.length=1:=by simpa using hl
 refine bO (aJ hl) λu0 us0 z169 h0=>?_;subst z169
 obtain rfl:=List.eq_nil_of_length_eq_zero h0
 exact BindsTo.of_defaults rfl (hk _ _ (X.get (o:=o211 X.w.params) ⋯)) rfl rfl rfl
theorem XX.d__law_blocks(X:XX C):Def C 251 (aX (tC X.w.params)) (bH (stA 7)) where
 obj:=⟨_,X.get (o:=tC X.w.params) ⋯,rfl⟩
 code:=⟨250,_,_,_,rfl,X.get (o:=o250 X.w.params) ⋯,rfl,rfl⟩
 body:=rfl
 clo:=rfl
 gl:=rfl
 bi:=rfl
 kind:=by rfl'
 co:=by rfl'
 free:=nofree ⋯
theorem XX.b__law_blocks(X:XX C):Binds C (aX (tC X.w.params)) ["size","hits","n"] []:=by
 intro s us hk hl
 replace hl:us.length=3:=by simpa using hl
 refine bO (aJ hl) λu0 us0 z500 h0=>?_;subst z500
 refine bO (aJ h0) λu1 us1 z501 h1=>?_;subst z501
 refine bO (aJ h1) λu2 us2 z502 h2=>?_;subst z502
 obtain rfl:=List.eq_nil_of_length_eq_zero h2
 exact BindsTo.of_eq rfl
theorem XX.d__law_rows(X:XX C):Def C 258 (aX (nF X.w.params)) (bH (stA 8)) where
 obj:=⟨_,X.get (o:=nF X.w.params) ⋯,rfl⟩
 code:=⟨257,_,_,_,rfl,X.get (o:=o257 X.w.params) ⋯,rfl,rfl⟩
 body:=rfl
 clo:=rfl
 gl:=rfl
 bi:=rfl
 kind:=by rfl'
 co:=by rfl'
 free:=nofree ⋯
theorem XX.b__law_rows(X:XX C):Binds C (aX (nF X.w.params)) ["block","hits","places"] []:=by
 intro s us hk hl
 replace hl:us.length=3:=by simpa using hl
 refine bO (aJ hl) λu0 us0 z503 h0=>?_;subst z503
 refine bO (aJ h0) λu1 us1 z504 h1=>?_;subst z504
 refine bO (aJ h1) λu2 us2 z505 h2=>?_;subst z505
 obtain rfl:=List.eq_nil_of_length_eq_zero h2
 exact BindsTo.of_eq rfl
theorem XX.d_law(X:XX C):Def C 263 (aX (jZ X.w.params)) (bH (stA 9)) where
 obj:=⟨_,X.get (o:=jZ X.w.params) ⋯,rfl⟩
 code:=⟨262,_,_,_,rfl,X.get (o:=o262 X.w.params) ⋯,rfl,rfl⟩
 body:=rfl
 clo:=rfl
 gl:=rfl
 bi:=rfl
 kind:=by rfl'
 co:=by rfl'
 free:=nofree ⋯
theorem XX.b_law(X:XX C):Binds C (aX (jZ X.w.params)) ["script"] []:=by
 intro s us hk hl
 replace hl:us.length=1:=by simpa using hl
 refine bO (aJ hl) λu0 us0 z506 h0=>?_;subst z506
 obtain rfl:=List.eq_nil_of_length_eq_zero h0
 exact BindsTo.of_eq rfl
theorem XX.gc(X:XX C):GCx C (gsh X.w.params) where
 gr:=X.gr
 loc:=λL x=>by
  have h:∀ k,((gsh X.w.params).envL L).kindOf x=some k->k≠ .cell/\k≠ .free:=λk e=>by
   have h2:(aX (q9 X.w.params)).scope.names.all (λp=>match p.2 with | .cell=>false | .free=>false |_=>true)=true:=by rfl'
   have:=List.all_eq_true.mp h2 _ (mem_of_lookup e)
   constructor<;>rintro rfl<;>simp at this
  exact⟨λe=>(h _ e).1 rfl,λe=>(h _ e).2 rfl⟩
 cells:=λL=>by rfl'
 kind:=by rfl'
 gl:=by rfl'
 bi:=by rfl'
theorem XX.iop_Add(X:XX C){r:Nat}:OpR C r (inplaceOp .Add) yS:=OpR.iadd
end
section
variable {C:Cx}(X:XX C)(P:Params)(L:Addr)
theorem XX.mf(X:XX C)(h:Heap)(hk:∀ b o,C.base.heap.get? b=some o->h.get? b=some o):sJ C.M h:=mfacts X.kc X.km.bases (X.kc.mem.keeps hk)
def xH(X:XX C):SF:=(sK .next)
theorem aAg:Sx C 1 (o82 P) L 82 (stB 3 4) 0 (xH X):=(SV.doc rfl rfl)
def xG(X:XX C):SF:=(jB (aDh (esC (eN "_cls") (esC (bY (esC (eN "a") (esC (eN "b") (esC (eN "size") esN)))) esN))))
theorem aAf:Sx C 1 (o82 P) L 82 (stB 3 4) 1 (xG X):=(SV.ret (EV.tnew X.mf X.g_tuple ⋯ (EVs.cons EV.nm (EVs.cons (EV.tuple (EVs.cons EV.nm (EVs.cons EV.nm (EVs.cons EV.nm EVs.nil)))) EVs.nil)) ⟨.inr ⟨_,_,rfl,rfl⟩,λ_=>rfl⟩ ⟨rfl,⋯,⋯⟩))
def f_new(X:XX C):SF:=(aA (xH X) (aA (xG X) (sK .next)))
theorem sv_new:SVs C 1 (callEnvC (aX (o82 P)) L 82) (bH (stB 3 4)) (f_new X):=(SVs.cons (aAg X P L) (SVs.cons (aAf X P L) SVs.nil))
def t5(X:XX C):SF:=(sK .next)
theorem yE:Sx C 1 (o89 P) L 89 (stB 3 5) 0 (t5 X):=(SV.doc rfl rfl)
def tZ(X:XX C):SF:=(bP "result" (aDh (esC (eN "cls") (esC (eN "iterable") esN))))
theorem yD:Sx C 1 (o89 P) L 89 (stB 3 5) 1 (tZ X):=(SV.assign (EV.tnew X.mf X.g_tuple ⋯ (EVs.cons EV.nm (EVs.cons EV.nm EVs.nil)) ⟨.inr ⟨_,_,rfl,rfl⟩,λ_=>rfl⟩ ⟨rfl,⋯,⋯⟩))
def tY(X:XX C):SF:=(sIf (tE (aB (bE not) (aO cI (esC (eN "result") esN)) (eK (.int 3)))) sNo (sK .next))
theorem yC:Sx C 1 (o89 P) L 89 (stB 3 5) 2 (tY X):=(SV.ite (TV.cmp1 (EV.call (CV.lenM X.km) X.g_len (EVs.cons EV.nm EVs.nil)) EV.int OpR.ne) SVs.no SVs.nil)
def tX(X:XX C):SF:=(jB (eN "result"))
theorem yA:Sx C 1 (o89 P) L 89 (stB 3 5) 3 (tX X):=(SV.ret EV.nm)
def f_make(X:XX C):SF:=(aA (t5 X) (aA (tZ X) (aA (tY X) (aA (tX X) (sK .next)))))
theorem aEw:SVs C 1 (callEnvC (aX (o89 P)) L 89) (bH (stB 3 5)) (f_make X):=(SVs.cons (yE X P L) (SVs.cons (yD X P L) (SVs.cons (yC X P L) (SVs.cons (yA X P L) SVs.nil))))
theorem XX.newM(X:XX C):NewM C 2:=by
 intro A s ρ H a b c i j k hr S ra rb rc
 refine kZ X.d_new ⋯ X.b_new (λ_ _=>.nil) (dW ⋯) (λL=>sv_new X X.w.params L) hr S (.cons (.raw _) (.cons ra (.cons rb (.cons rc .nil)))) ⟨rfl,?_⟩
 exact(show _=(3<100/\(V.mat i j k=V.mat i j k/\H=H)) by rfl').mpr ⟨by decide,rfl,rfl⟩
theorem XX.makeM(X:XX C):oG C 2:=by
 intro A s ρ H a i j k hr S ra
 refine kZ X.d_make ⋯ X.b_make (λ_ _=>.nil) (dW ⋯) (λL=>aEw X X.w.params L) hr S (.cons (.raw _) (.cons ra .nil)) ⟨rfl,?_⟩
 exact(show _=(V.mat i j k=V.mat i j k/\H=H) by rfl').mpr ⟨rfl,rfl⟩
theorem XX.cv_Match(X:XX C):CV C 3 (.ref aE) v4:=CV.mat X.kc X.newM
def kS(X:XX C):SF:=(sK .next)
theorem o0:Sx C 1 (pI P) L 174 (stB 5 3) 0 (kS X):=(SV.doc rfl rfl)
def kR(X:XX C):SF:=(sIf (tE (aB (oIs id) (eN "a") (dV "a" (eN "self")))) (aA (sK (.ret .none)) (sK .next)) (sK .next))
theorem oZ:Sx C 1 (pI P) L 174 (stB 5 3) 1 (kR X):=(SV.ite (TV.cmp1 EV.nm (EV.attr X.smc (by decide+kernel) EV.nm) OpR.is_) (SVs.cons SV.ret0 SVs.nil) SVs.nil)
def kQ(X:XX C):SF:=(cX (eN "a") (d6 "a" (eN "self")))
theorem oY:Sx C 1 (pI P) L 174 (stB 5 3) 2 (kQ X):=(SV.assigns EV.nm (ALs.one (AV.attr X.smc (by decide+kernel) EV.nm)))
def kO(X:XX C):SF:=(cX (eK .none) (iG (d6 "matching_blocks" (eN "self")) (d6 "opcodes" (eN "self"))))
theorem oW:Sx C 1 (pI P) L 174 (stB 5 3) 3 (kO X):=(SV.assigns EV.none (ALs.cons (AV.attr X.smc (by decide+kernel) EV.nm) (ALs.one (AV.attr X.smc (by decide+kernel) EV.nm)) rfl ⟨_,_,rfl⟩))
def n6(X:XX C):SF:=(aA (kS X) (aA (kR X) (aA (kQ X) (aA (kO X) (sK .next)))))
theorem sT:SVs C 1 (callEnvC (aX (pI P)) L 174) (bH (stB 5 3)) (n6 X):=(SVs.cons (o0 X P L) (SVs.cons (oZ X P L) (SVs.cons (oY X P L) (SVs.cons (oW X P L) SVs.nil))))
def hZ(X:XX C):CF:=lR ["self","a"] [] (n6 X)
theorem uI(X:XX C):CV C 2 (.ref 174) (hZ X):=CV.def_ X.d_set_seq1 ⋯ X.b_set_seq1 (λ_ _=>.nil) (dW ⋯) (λL=>sT X X.w.params L)
def lY(X:XX C):SF:=(bP "b" (dV "b" (eN "self")))
theorem qZ:Sx C 1 (jM P) L 188 (stB 5 5) 0 (lY X):=(SV.assign (EV.attr X.smc (by decide+kernel) EV.nm))
def lX(X:XX C):SF:=(cX uF (iG (d6 "b2j" (eN "self")) (aN "b2j")))
theorem qY:Sx C 1 (jM P) L 188 (stB 5 5) 1 (lX X):=(SV.assigns EV.dict0 (ALs.cons (AV.attr X.smc (by decide+kernel) EV.nm) (ALs.one AV.name) rfl ⟨_,_,rfl⟩))
def lW(X:XX C):SF:=(iJ (qD C) (iL (eN "b")) (dD 2 (asC (aN "i") (asC (aN "elt") asN))) (aA (bP "indices" (aDi (eN "b2j") (eN "elt") (dF esN))) (aA (aT (cV (eN "indices") (eN "i"))) (sK .next))))
theorem qX:Sx C 1 (jM P) L 188 (stB 5 5) 2 (lW X):=(SV.for_ (K:=(qD C)) (IV.enum EV.nm X.g_enumerate ⋯ ⟨.inr ⟨_,_,rfl,rfl⟩,λ_=>rfl⟩ rfl) (AV.tupleM X.km (AVs.cons AV.name (AVs.cons AV.name AVs.nil))) (SVs.cons (SV.assign (EV.setdefault X.sys EV.nm EV.nm (EV.list EVs.nil) ⟨rfl,⋯,⋯⟩ rfl)) (SVs.cons (SV.expr (EV.append EV.nm EV.nm)) SVs.nil)) ⟨⟨_,_,_,rfl⟩,Nat.le_of_ble_eq_true rfl⟩ (λ_=>rfl))
def i5(X:XX C):SF:=(cX (aO cSet esN) (iG (d6 "bjunk" (eN "self")) (aN "junk")))
theorem qW:Sx C 1 (jM P) L 188 (stB 5 5) 3 (i5 X):=(SV.assigns (EV.call CV.set X.g_set EVs.nil ⟨.inl rfl,λ_=>rfl⟩) (ALs.cons (AV.attr X.smc (by decide+kernel) EV.nm) (ALs.one AV.name) rfl ⟨_,_,rfl⟩))
def iZ(X:XX C):SF:=(bP "isjunk" (dV "isjunk" (eN "self")))
theorem qV:Sx C 1 (jM P) L 188 (stB 5 5) 4 (iZ X):=(SV.assign (EV.attr X.smc (by decide+kernel) EV.nm))
def iY(X:XX C):SF:=(sIf (tE (eN "isjunk")) sNo (sK .next))
theorem qU:Sx C 1 (jM P) L 188 (stB 5 5) 5 (iY X):=(SV.ite (TV.val EV.nm) SVs.no SVs.nil)
def iX(X:XX C):SF:=(cX (aO cSet esN) (iG (d6 "bpopular" (eN "self")) (aN "popular")))
theorem qT:Sx C 1 (jM P) L 188 (stB 5 5) 6 (iX X):=(SV.assigns (EV.call CV.set X.g_set EVs.nil ⟨.inl rfl,λ_=>rfl⟩) (ALs.cons (AV.attr X.smc (by decide+kernel) EV.nm) (ALs.one AV.name) rfl ⟨_,_,rfl⟩))
def iW(X:XX C):SF:=(bP "n" (aO cI (esC (eN "b") esN)))
theorem qS:Sx C 1 (jM P) L 188 (stB 5 5) 7 (iW X):=(SV.assign (EV.call (CV.lenM X.km) X.g_len (EVs.cons EV.nm EVs.nil)))
def iV(X:XX C):SF:=(sIf (aU (tE (dV "autojunk" (eN "self"))) (aU (tE (aB (bQ λx y=>decide (x>=y)) (eN "n") (eK (.int 200)))) (tK true))) sNo (sK .next))
theorem qR:Sx C 1 (jM P) L 188 (stB 5 5) 8 (iV X):=(SV.ite (TV.boolOp (bD.and_cons (TV.val (EV.attr X.smc (by decide+kernel) EV.nm)) (bD.and_cons (TV.cmp1 EV.nm EV.int OpR.ge) bD.and_nil))) SVs.no SVs.nil)
def qI(X:XX C):SF:=(aA (lY X) (aA (lX X) (aA (lW X) (aA (i5 X) (aA (iZ X) (aA (iY X) (aA (iX X) (aA (iW X) (aA (iV X) (sK .next))))))))))
theorem uU:SVs C 1 (callEnvC (aX (jM P)) L 188) (bH (stB 5 5)) (qI X):=(SVs.cons (qZ X P L) (SVs.cons (qY X P L) (SVs.cons (qX X P L) (SVs.cons (qW X P L) (SVs.cons (qV X P L) (SVs.cons (qU X P L) (SVs.cons (qT X P L) (SVs.cons (qS X P L) (SVs.cons (qR X P L) SVs.nil)))))))))
def eM(X:XX C):CF:=lR ["self"] [] (qI X)
theorem vV(X:XX C):CV C 2 (.ref 188) (eM X):=CV.def_ X.d_chain_b ⋯ X.b_chain_b (λ_ _=>.nil) (dW ⋯) (λL=>uU X X.w.params L)
def kN(X:XX C):SF:=(sK .next)
theorem oV:Sx C 2 (mD P) L 181 (stB 5 4) 0 (kN X):=(SV.doc rfl rfl)
def kK(X:XX C):SF:=(sIf (tE (aB (oIs id) (eN "b") (dV "b" (eN "self")))) (aA (sK (.ret .none)) (sK .next)) (sK .next))
theorem oU:Sx C 2 (mD P) L 181 (stB 5 4) 1 (kK X):=(SV.ite (TV.cmp1 EV.nm (EV.attr X.smc (by decide+kernel) EV.nm) OpR.is_) (SVs.cons SV.ret0 SVs.nil) SVs.nil)
def kJ(X:XX C):SF:=(cX (eN "b") (d6 "b" (eN "self")))
theorem oS:Sx C 2 (mD P) L 181 (stB 5 4) 2 (kJ X):=(SV.assigns EV.nm (ALs.one (AV.attr X.smc (by decide+kernel) EV.nm)))
def kI(X:XX C):SF:=(cX (eK .none) (iG (d6 "matching_blocks" (eN "self")) (d6 "opcodes" (eN "self"))))
theorem oQ:Sx C 2 (mD P) L 181 (stB 5 4) 3 (kI X):=(SV.assigns EV.none (ALs.cons (AV.attr X.smc (by decide+kernel) EV.nm) (ALs.one (AV.attr X.smc (by decide+kernel) EV.nm)) rfl ⟨_,_,rfl⟩))
def kH(X:XX C):SF:=(cX (eK .none) (d6 "fullbcount" (eN "self")))
theorem oP:Sx C 2 (mD P) L 181 (stB 5 4) 4 (kH X):=(SV.assigns EV.none (ALs.one (AV.attr X.smc (by decide+kernel) EV.nm)))
def kG(X:XX C):SF:=(aT (gV (eM X) (eN "self") esN))
theorem oO:Sx C 2 (mD P) L 181 (stB 5 4) 5 (kG X):=(SV.expr (EV.meth X.smc (by decide+kernel) ((vV X).lift rfl) EV.nm EVs.nil ⟨.inl rfl,λ_=>rfl⟩ ⟨rfl,⋯,⋯⟩))
def n5(X:XX C):SF:=(aA (kN X) (aA (kK X) (aA (kJ X) (aA (kI X) (aA (kH X) (aA (kG X) (sK .next)))))))
theorem sS:SVs C 2 (callEnvC (aX (mD P)) L 181) (bH (stB 5 4)) (n5 X):=(SVs.cons (oV X P L) (SVs.cons (oU X P L) (SVs.cons (oS X P L) (SVs.cons (oQ X P L) (SVs.cons (oP X P L) (SVs.cons (oO X P L) SVs.nil))))))
def hY(X:XX C):CF:=lR ["self","b"] [] (n5 X)
theorem uH(X:XX C):CV C 3 (.ref 181) (hY X):=CV.def_ X.d_set_seq2 ⋯ X.b_set_seq2 (λ_ _=>.nil) (dW ⋯) (λL=>sS X X.w.params L)
def kF(X:XX C):SF:=(sK .next)
theorem oM:Sx C 3 (rA P) L 167 (stB 5 2) 0 (kF X):=(SV.doc rfl rfl)
def kD(X:XX C):SF:=(aT (gV (hZ X) (eN "self") (esC (eN "a") esN)))
theorem oK:Sx C 3 (rA P) L 167 (stB 5 2) 1 (kD X):=(SV.expr (EV.meth X.smc (by decide+kernel) ((uI X).lift rfl) EV.nm (EVs.cons EV.nm EVs.nil) ⟨.inr ⟨_,_,rfl,rfl⟩,λ_=>rfl⟩ ⟨rfl,⋯,⋯⟩))
def kC(X:XX C):SF:=(aT (gV (hY X) (eN "self") (esC (eN "b") esN)))
theorem oJ:Sx C 3 (rA P) L 167 (stB 5 2) 2 (kC X):=(SV.expr (EV.meth X.smc (by decide+kernel) ((uH X).lift rfl) EV.nm (EVs.cons EV.nm EVs.nil) ⟨.inr ⟨_,_,rfl,rfl⟩,λ_=>rfl⟩ ⟨rfl,⋯,⋯⟩))
def n4(X:XX C):SF:=(aA (kF X) (aA (kD X) (aA (kC X) (sK .next))))
theorem sR:SVs C 3 (callEnvC (aX (rA P)) L 167) (bH (stB 5 2)) (n4 X):=(SVs.cons (oM X P L) (SVs.cons (oK X P L) (SVs.cons (oJ X P L) SVs.nil)))
def hV(X:XX C):CF:=lR ["self","a","b"] [] (n4 X)
theorem uG(X:XX C):CV C 4 (.ref 167) (hV X):=CV.def_ X.d_set_seqs ⋯ X.b_set_seqs (λ_ _=>.nil) (dW ⋯) (λL=>sR X X.w.params L)
def dN(X:XX C):SF:=(sK .next)
theorem gN:Sx C 3 (g9 P) L 196 (stB 5 6) 0 (dN X):=(SV.doc rfl rfl)
def bX(X:XX C):SF:=(cX (bY (esC (dV "a" (eN "self")) (esC (dV "b" (eN "self")) (esC (dV "b2j" (eN "self")) (esC (eBd .scon okS (dV "bjunk" (eN "self"))) esN))))) (dD 4 (asC (aN "a") (asC (aN "b") (asC (aN "b2j") (asC (aN "isbjunk") asN))))))
theorem gK:Sx C 3 (g9 P) L 196 (stB 5 6) 1 (bX X):=(SV.assigns (EV.tuple (EVs.cons (EV.attr X.smc (by decide+kernel) EV.nm) (EVs.cons (EV.attr X.smc (by decide+kernel) EV.nm) (EVs.cons (EV.attr X.smc (by decide+kernel) EV.nm) (EVs.cons (EV.scon2 (EV.attr X.smc (by decide+kernel) EV.nm) rfl) EVs.nil))))) (ALs.one (AV.tupleM X.km (AVs.cons AV.name (AVs.cons AV.name (AVs.cons AV.name (AVs.cons AV.name AVs.nil)))))))
def cT(X:XX C):SF:=(sIf (tE (aB (oIs id) (eN "ahi") (eK .none))) (aA (bP "ahi" (aO cI (esC (eN "a") esN))) (sK .next)) (sK .next))
theorem gG:Sx C 3 (g9 P) L 196 (stB 5 6) 2 (cT X):=(SV.ite (TV.cmp1 EV.nm EV.none OpR.is_) (SVs.cons (SV.assign (EV.call (CV.lenM X.km) X.g_len (EVs.cons EV.nm EVs.nil))) SVs.nil) SVs.nil)
def cS(X:XX C):SF:=(sIf (tE (aB (oIs id) (eN "bhi") (eK .none))) (aA (bP "bhi" (aO cI (esC (eN "b") esN))) (sK .next)) (sK .next))
theorem gE:Sx C 3 (g9 P) L 196 (stB 5 6) 3 (cS X):=(SV.ite (TV.cmp1 EV.nm EV.none OpR.is_) (SVs.cons (SV.assign (EV.call (CV.lenM X.km) X.g_len (EVs.cons EV.nm EVs.nil))) SVs.nil) SVs.nil)
def cR(X:XX C):SF:=(d5 ["besti","bestj","bestsize"] (bY (esC (eN "alo") (esC (eN "blo") (esC (eK (.int 0)) esN)))))
theorem gD:Sx C 3 (g9 P) L 196 (stB 5 6) 4 (cR X):=(SV.swap (EV.tuple (EVs.cons EV.nm (EVs.cons EV.nm (EVs.cons EV.int EVs.nil)))) rfl ⋯ (iN ⋯))
def cQ(X:XX C):SF:=(bP "j2len" uF)
theorem gC:Sx C 3 (g9 P) L 196 (stB 5 6) 5 (cQ X):=(SV.assign EV.dict0)
def cP(X:XX C):SF:=(bP "nothing" (dF esN))
theorem f9:Sx C 3 (g9 P) L 196 (stB 5 6) 6 (cP X):=(SV.assign (EV.list EVs.nil))
def cN(X:XX C):SF:=(iJ (fV C) (iR (aO dY (esC (eN "alo") (esC (eN "ahi") esN)))) (aN "i") (aA (bP "j2lenget" (eBd .dget okD (eN "j2len"))) (aA (bP "newj2len" uF) (aA (iJ (b9 C) (iL (eGet (eN "b2j") (aB aM (eN "a") (eN "i")) (eN "nothing"))) (aN "j") (aA (sIf (tE (aB (bQ λx y=>decide (x<y)) (eN "j") (eN "blo"))) (aA (sK .cont) (sK .next)) (sK .next)) (aA (sIf (tE (aB (bQ λx y=>decide (x>=y)) (eN "j") (eN "bhi"))) (aA (sK .brk) (sK .next)) (sK .next)) (aA (cX (aB aH (eCv (eN "j2lenget") (esC (aB cK (eN "j") (eK (.int 1))) (esC (eK (.int 0)) esN))) (eK (.int 1))) (iG (aN "k") (pS (eN "newj2len") (eN "j")))) (aA (sIf (tE (aB (bQ λx y=>decide (x>y)) (eN "k") (eN "bestsize"))) (aA (d5 ["besti","bestj","bestsize"] (bY (esC (aB aH (aB cK (eN "i") (eN "k")) (eK (.int 1))) (esC (aB aH (aB cK (eN "j") (eN "k")) (eK (.int 1))) (esC (eN "k") esN))))) (sK .next)) (sK .next)) (sK .next)))))) (aA (bP "j2len" (eN "newj2len")) (sK .next))))))
theorem f8:Sx C 3 (g9 P) L 196 (stB 5 6) 7 (cN X):=(SV.for_ (K:=(fV C)) (IV.range (EV.call CV.range X.g_range (EVs.cons EV.nm (EVs.cons EV.nm EVs.nil)))) AV.name (SVs.cons (SV.assign (EV.dget EV.nm rfl (λ_ _=>rfl))) (SVs.cons (SV.assign EV.dict0) (SVs.cons (SV.for_ (K:=(b9 C)) (IV.list (EV.get X.sys EV.nm (EV.idx EV.nm EV.nm) EV.nm ⟨rfl,⋯,⋯⟩ rfl)) AV.name (SVs.cons (SV.ite (TV.cmp1 EV.nm EV.nm OpR.lt) (SVs.cons SV.cont SVs.nil) SVs.nil) (SVs.cons (SV.ite (TV.cmp1 EV.nm EV.nm OpR.ge) (SVs.cons SV.brk SVs.nil) SVs.nil) (SVs.cons (SV.assigns (EV.binOp (EV.callV X.sys EV.nm (EVs.cons (EV.binOp EV.nm EV.int OpR.sub) (EVs.cons EV.int EVs.nil)) ⟨.inr ⟨_,_,rfl,rfl⟩,λ_=>rfl⟩) EV.int OpR.add) (ALs.cons AV.name (ALs.one (AV.sub EV.nm EV.nm)) rfl ⟨_,_,rfl⟩)) (SVs.cons (SV.ite (TV.cmp1 EV.nm EV.nm OpR.gt) (SVs.cons (SV.swap (EV.tuple (EVs.cons (EV.binOp (EV.binOp EV.nm EV.nm OpR.sub) EV.int OpR.add) (EVs.cons (EV.binOp (EV.binOp EV.nm EV.nm OpR.sub) EV.int OpR.add) (EVs.cons EV.nm EVs.nil)))) rfl ⋯ (iN ⋯)) SVs.nil) SVs.nil) SVs.nil)))) ⟨trivial,Nat.le_of_ble_eq_true rfl⟩ (λ_=>rfl)) (SVs.cons (SV.assign EV.nm) SVs.nil)))) ⟨trivial,Nat.le_of_ble_eq_true rfl⟩ (λ_=>rfl))
def cM(X:XX C):SF:=(lG (aU (tE (aB (bQ λx y=>decide (x>y)) (eN "besti") (eN "alo"))) (aU (tE (aB (bQ λx y=>decide (x>y)) (eN "bestj") (eN "blo"))) (aU (tNot (tE (eCv (eN "isbjunk") (esC (aB aM (eN "b") (aB cK (eN "bestj") (eK (.int 1)))) esN)))) (aU (tE (aB (bE id) (aB aM (eN "a") (aB cK (eN "besti") (eK (.int 1)))) (aB aM (eN "b") (aB cK (eN "bestj") (eK (.int 1)))))) (tK true))))) (aA (d5 ["besti","bestj","bestsize"] (bY (esC (aB cK (eN "besti") (eK (.int 1))) (esC (aB cK (eN "bestj") (eK (.int 1))) (esC (aB aH (eN "bestsize") (eK (.int 1))) esN))))) (sK .next)))
theorem f7:Sx C 3 (g9 P) L 196 (stB 5 6) 8 (cM X):=(SV.while_ (TV.boolOp (bD.and_cons (TV.cmp1 EV.nm EV.nm OpR.gt) (bD.and_cons (TV.cmp1 EV.nm EV.nm OpR.gt) (bD.and_cons (TV.not (TV.val (EV.callV X.sys EV.nm (EVs.cons (EV.idx EV.nm (EV.binOp EV.nm EV.int OpR.sub)) EVs.nil) ⟨.inr ⟨_,_,rfl,rfl⟩,λ_=>rfl⟩))) (bD.and_cons (TV.cmp1 (EV.idx EV.nm (EV.binOp EV.nm EV.int OpR.sub)) (EV.idx EV.nm (EV.binOp EV.nm EV.int OpR.sub)) OpR.eq) bD.and_nil))))) (SVs.cons (SV.swap (EV.tuple (EVs.cons (EV.binOp EV.nm EV.int OpR.sub) (EVs.cons (EV.binOp EV.nm EV.int OpR.sub) (EVs.cons (EV.binOp EV.nm EV.int OpR.add) EVs.nil)))) rfl ⋯ (iN ⋯)) SVs.nil))
def cL(X:XX C):SF:=(lG (aU (tE (aB (bQ λx y=>decide (x<y)) (aB aH (eN "besti") (eN "bestsize")) (eN "ahi"))) (aU (tE (aB (bQ λx y=>decide (x<y)) (aB aH (eN "bestj") (eN "bestsize")) (eN "bhi"))) (aU (tNot (tE (eCv (eN "isbjunk") (esC (aB aM (eN "b") (aB aH (eN "bestj") (eN "bestsize"))) esN)))) (aU (tE (aB (bE id) (aB aM (eN "a") (aB aH (eN "besti") (eN "bestsize"))) (aB aM (eN "b") (aB aH (eN "bestj") (eN "bestsize"))))) (tK true))))) (aA (sAug "bestsize" yS (eK (.int 1))) (sK .next)))
theorem f6:Sx C 3 (g9 P) L 196 (stB 5 6) 9 (cL X):=(SV.while_ (TV.boolOp (bD.and_cons (TV.cmp1 (EV.binOp EV.nm EV.nm OpR.add) EV.nm OpR.lt) (bD.and_cons (TV.cmp1 (EV.binOp EV.nm EV.nm OpR.add) EV.nm OpR.lt) (bD.and_cons (TV.not (TV.val (EV.callV X.sys EV.nm (EVs.cons (EV.idx EV.nm (EV.binOp EV.nm EV.nm OpR.add)) EVs.nil) ⟨.inr ⟨_,_,rfl,rfl⟩,λ_=>rfl⟩))) (bD.and_cons (TV.cmp1 (EV.idx EV.nm (EV.binOp EV.nm EV.nm OpR.add)) (EV.idx EV.nm (EV.binOp EV.nm EV.nm OpR.add)) OpR.eq) bD.and_nil))))) (SVs.cons (SV.aug EV.int X.iop_Add (.inl ⋯) ⋯) SVs.nil))
def cH(X:XX C):SF:=(lG (aU (tE (aB (bQ λx y=>decide (x>y)) (eN "besti") (eN "alo"))) (aU (tE (aB (bQ λx y=>decide (x>y)) (eN "bestj") (eN "blo"))) (aU (tE (eCv (eN "isbjunk") (esC (aB aM (eN "b") (aB cK (eN "bestj") (eK (.int 1)))) esN))) (aU (tE (aB (bE id) (aB aM (eN "a") (aB cK (eN "besti") (eK (.int 1)))) (aB aM (eN "b") (aB cK (eN "bestj") (eK (.int 1)))))) (tK true))))) (aA (d5 ["besti","bestj","bestsize"] (bY (esC (aB cK (eN "besti") (eK (.int 1))) (esC (aB cK (eN "bestj") (eK (.int 1))) (esC (aB aH (eN "bestsize") (eK (.int 1))) esN))))) (sK .next)))
theorem fU:Sx C 3 (g9 P) L 196 (stB 5 6) 10 (cH X):=(SV.while_ (TV.boolOp (bD.and_cons (TV.cmp1 EV.nm EV.nm OpR.gt) (bD.and_cons (TV.cmp1 EV.nm EV.nm OpR.gt) (bD.and_cons (TV.val (EV.callV X.sys EV.nm (EVs.cons (EV.idx EV.nm (EV.binOp EV.nm EV.int OpR.sub)) EVs.nil) ⟨.inr ⟨_,_,rfl,rfl⟩,λ_=>rfl⟩)) (bD.and_cons (TV.cmp1 (EV.idx EV.nm (EV.binOp EV.nm EV.int OpR.sub)) (EV.idx EV.nm (EV.binOp EV.nm EV.int OpR.sub)) OpR.eq) bD.and_nil))))) (SVs.cons (SV.swap (EV.tuple (EVs.cons (EV.binOp EV.nm EV.int OpR.sub) (EVs.cons (EV.binOp EV.nm EV.int OpR.sub) (EVs.cons (EV.binOp EV.nm EV.int OpR.add) EVs.nil)))) rfl ⋯ (iN ⋯)) SVs.nil))
def cG(X:XX C):SF:=(lG (aU (tE (aB (bQ λx y=>decide (x<y)) (aB aH (eN "besti") (eN "bestsize")) (eN "ahi"))) (aU (tE (aB (bQ λx y=>decide (x<y)) (aB aH (eN "bestj") (eN "bestsize")) (eN "bhi"))) (aU (tE (eCv (eN "isbjunk") (esC (aB aM (eN "b") (aB aH (eN "bestj") (eN "bestsize"))) esN))) (aU (tE (aB (bE id) (aB aM (eN "a") (aB aH (eN "besti") (eN "bestsize"))) (aB aM (eN "b") (aB aH (eN "bestj") (eN "bestsize"))))) (tK true))))) (aA (bP "bestsize" (aB aH (eN "bestsize") (eK (.int 1)))) (sK .next)))
theorem fT:Sx C 3 (g9 P) L 196 (stB 5 6) 11 (cG X):=(SV.while_ (TV.boolOp (bD.and_cons (TV.cmp1 (EV.binOp EV.nm EV.nm OpR.add) EV.nm OpR.lt) (bD.and_cons (TV.cmp1 (EV.binOp EV.nm EV.nm OpR.add) EV.nm OpR.lt) (bD.and_cons (TV.val (EV.callV X.sys EV.nm (EVs.cons (EV.idx EV.nm (EV.binOp EV.nm EV.nm OpR.add)) EVs.nil) ⟨.inr ⟨_,_,rfl,rfl⟩,λ_=>rfl⟩)) (bD.and_cons (TV.cmp1 (EV.idx EV.nm (EV.binOp EV.nm EV.nm OpR.add)) (EV.idx EV.nm (EV.binOp EV.nm EV.nm OpR.add)) OpR.eq) bD.and_nil))))) (SVs.cons (SV.assign (EV.binOp EV.nm EV.int OpR.add)) SVs.nil))
def dC(X:XX C):SF:=(jB (aO v4 (esC (eN "besti") (esC (eN "bestj") (esC (eN "bestsize") esN)))))
theorem fS:Sx C 3 (g9 P) L 196 (stB 5 6) 12 (dC X):=(SV.ret (EV.call (X.cv_Match.lift rfl) X.g_Match (EVs.cons EV.nm (EVs.cons EV.nm (EVs.cons EV.nm EVs.nil)))))
def c4(X:XX C):SF:=(aA (dN X) (aA (bX X) (aA (cT X) (aA (cS X) (aA (cR X) (aA (cQ X) (aA (cP X) (aA (cN X) (aA (cM X) (aA (cL X) (aA (cH X) (aA (cG X) (aA (dC X) (sK .next))))))))))))))
theorem iE:SVs C 3 (callEnvC (aX (g9 P)) L 196) (bH (stB 5 6)) (c4 X):=(SVs.cons (gN X P L) (SVs.cons (gK X P L) (SVs.cons (gG X P L) (SVs.cons (gE X P L) (SVs.cons (gD X P L) (SVs.cons (gC X P L) (SVs.cons (f9 X P L) (SVs.cons (f8 X P L) (SVs.cons (f7 X P L) (SVs.cons (f6 X P L) (SVs.cons (fU X P L) (SVs.cons (fT X P L) (SVs.cons (fS X P L) SVs.nil)))))))))))))
def bU(X:XX C):CF:=lR ["self","alo","ahi","blo","bhi"] [] (c4 X)
theorem iF(X:XX C):CV C 4 (.ref 196) (bU X):=CV.def_ X.d_find_longest_match ⋯ X.b_find_longest_match (λ_ _=>.nil) (dW ⋯) (λL=>iE X X.w.params L)
def dB(X:XX C):SF:=(sK .next)
theorem fR:Sx C 4 (gR P) L 203 (stB 5 7) 0 (dB X):=(SV.doc rfl rfl)
def dA(X:XX C):SF:=(sIf (tE (aB (oIs not) (dV "matching_blocks" (eN "self")) (eK .none))) (aA (jB (dV "matching_blocks" (eN "self"))) (sK .next)) (sK .next))
theorem fQ:Sx C 4 (gR P) L 203 (stB 5 7) 1 (dA X):=(SV.ite (TV.cmp1 (EV.attr X.smc (by decide+kernel) EV.nm) EV.none OpR.isNot) (SVs.cons (SV.ret (EV.attr X.smc (by decide+kernel) EV.nm)) SVs.nil) SVs.nil)
def cF(X:XX C):SF:=(d5 ["la","lb"] (bY (esC (aO cI (esC (dV "a" (eN "self")) esN)) (esC (aO cI (esC (dV "b" (eN "self")) esN)) esN))))
theorem fP:Sx C 4 (gR P) L 203 (stB 5 7) 2 (cF X):=(SV.swap (EV.tuple (EVs.cons (EV.call (CV.lenM X.km) X.g_len (EVs.cons (EV.attr X.smc (by decide+kernel) EV.nm) EVs.nil)) (EVs.cons (EV.call (CV.lenM X.km) X.g_len (EVs.cons (EV.attr X.smc (by decide+kernel) EV.nm) EVs.nil)) EVs.nil))) rfl ⋯ (iN ⋯))
def bC(X:XX C):SF:=(bP "queue" (dF (esC (bY (esC (eK (.int 0)) (esC (eN "la") (esC (eK (.int 0)) (esC (eN "lb") esN))))) esN)))
theorem fM:Sx C 4 (gR P) L 203 (stB 5 7) 3 (bC X):=(SV.assign (EV.list (EVs.cons (EV.tuple (EVs.cons EV.int (EVs.cons EV.nm (EVs.cons EV.int (EVs.cons EV.nm EVs.nil))))) EVs.nil)))
def bA(X:XX C):SF:=(bP "matching_blocks" (dF esN))
theorem fK:Sx C 4 (gR P) L 203 (stB 5 7) 4 (bA X):=(SV.assign (EV.list EVs.nil))
def aZ(X:XX C):SF:=(lG (tE (eN "queue")) (aA (cX (ePop (eN "queue")) (dD 4 (asC (aN "alo") (asC (aN "ahi") (asC (aN "blo") (asC (aN "bhi") asN)))))) (aA (cX (gV (bU X) (eN "self") (esC (eN "alo") (esC (eN "ahi") (esC (eN "blo") (esC (eN "bhi") esN))))) (iG (dD 3 (asC (aN "i") (asC (aN "j") (asC (aN "k") asN)))) (aN "x"))) (aA (sIf (tE (eN "k")) (aA (aT (cV (eN "matching_blocks") (eN "x"))) (aA (sIf (aU (tE (aB (bQ λx y=>decide (x<y)) (eN "alo") (eN "i"))) (aU (tE (aB (bQ λx y=>decide (x<y)) (eN "blo") (eN "j"))) (tK true))) (aA (aT (cV (eN "queue") (bY (esC (eN "alo") (esC (eN "i") (esC (eN "blo") (esC (eN "j") esN))))))) (sK .next)) (sK .next)) (aA (sIf (aU (tE (aB (bQ λx y=>decide (x<y)) (aB aH (eN "i") (eN "k")) (eN "ahi"))) (aU (tE (aB (bQ λx y=>decide (x<y)) (aB aH (eN "j") (eN "k")) (eN "bhi"))) (tK true))) (aA (aT (cV (eN "queue") (bY (esC (aB aH (eN "i") (eN "k")) (esC (eN "ahi") (esC (aB aH (eN "j") (eN "k")) (esC (eN "bhi") esN))))))) (sK .next)) (sK .next)) (sK .next)))) (sK .next)) (sK .next)))))
theorem fJ:Sx C 4 (gR P) L 203 (stB 5 7) 5 (aZ X):=(SV.while_ (TV.val EV.nm) (SVs.cons (SV.assigns (EV.pop EV.nm ⟨rfl,⋯,⋯⟩) (ALs.one (AV.tupleM X.km (AVs.cons AV.name (AVs.cons AV.name (AVs.cons AV.name (AVs.cons AV.name AVs.nil))))))) (SVs.cons (SV.assigns (EV.meth X.smc (by decide+kernel) ((iF X).lift rfl) EV.nm (EVs.cons EV.nm (EVs.cons EV.nm (EVs.cons EV.nm (EVs.cons EV.nm EVs.nil)))) ⟨.inr ⟨_,_,rfl,rfl⟩,λ_=>rfl⟩ ⟨rfl,⋯,⋯⟩) (ALs.cons (AV.tupleM X.km (AVs.cons AV.name (AVs.cons AV.name (AVs.cons AV.name AVs.nil)))) (ALs.one AV.name) rfl ⟨_,_,rfl⟩)) (SVs.cons (SV.ite (TV.val EV.nm) (SVs.cons (SV.expr (EV.append EV.nm EV.nm)) (SVs.cons (SV.ite (TV.boolOp (bD.and_cons (TV.cmp1 EV.nm EV.nm OpR.lt) (bD.and_cons (TV.cmp1 EV.nm EV.nm OpR.lt) bD.and_nil))) (SVs.cons (SV.expr (EV.append EV.nm (EV.tuple (EVs.cons EV.nm (EVs.cons EV.nm (EVs.cons EV.nm (EVs.cons EV.nm EVs.nil))))))) SVs.nil) SVs.nil) (SVs.cons (SV.ite (TV.boolOp (bD.and_cons (TV.cmp1 (EV.binOp EV.nm EV.nm OpR.add) EV.nm OpR.lt) (bD.and_cons (TV.cmp1 (EV.binOp EV.nm EV.nm OpR.add) EV.nm OpR.lt) bD.and_nil))) (SVs.cons (SV.expr (EV.append EV.nm (EV.tuple (EVs.cons (EV.binOp EV.nm EV.nm OpR.add) (EVs.cons EV.nm (EVs.cons (EV.binOp EV.nm EV.nm OpR.add) (EVs.cons EV.nm EVs.nil))))))) SVs.nil) SVs.nil) SVs.nil))) SVs.nil) SVs.nil))))
def cE(X:XX C):SF:=(aT (eSort (eN "matching_blocks")))
theorem fI:Sx C 4 (gR P) L 203 (stB 5 7) 6 (cE X):=(SV.expr (EV.sort X.km EV.nm ⟨rfl,⋯,⋯⟩))
def cD(X:XX C):SF:=(cX (eK (.int 0)) (iG (aN "i1") (iG (aN "j1") (aN "k1"))))
theorem fH:Sx C 4 (gR P) L 203 (stB 5 7) 7 (cD X):=(SV.assigns EV.int (ALs.cons AV.name (ALs.cons AV.name (ALs.one AV.name) rfl ⟨_,_,rfl⟩) rfl ⟨_,_,rfl⟩))
def cC(X:XX C):SF:=(bP "non_adjacent" (dF esN))
theorem fF:Sx C 4 (gR P) L 203 (stB 5 7) 8 (cC X):=(SV.assign (EV.list EVs.nil))
def bV(X:XX C):SF:=(iJ (b9 C) (iL (eN "matching_blocks")) (dD 3 (asC (aN "i2") (asC (aN "j2") (asC (aN "k2") asN)))) (aA (sIf (aU (tE (aB (bE id) (aB aH (eN "i1") (eN "k1")) (eN "i2"))) (aU (tE (aB (bE id) (aB aH (eN "j1") (eN "k1")) (eN "j2"))) (tK true))) (aA (sAug "k1" yS (eN "k2")) (sK .next)) (aA (sIf (tE (eN "k1")) (aA (aT (cV (eN "non_adjacent") (bY (esC (eN "i1") (esC (eN "j1") (esC (eN "k1") esN)))))) (sK .next)) (sK .next)) (aA (d5 ["i1","j1","k1"] (bY (esC (eN "i2") (esC (eN "j2") (esC (eN "k2") esN))))) (sK .next)))) (sK .next)))
theorem fD:Sx C 4 (gR P) L 203 (stB 5 7) 9 (bV X):=(SV.for_ (K:=(b9 C)) (IV.list EV.nm) (AV.tupleM X.km (AVs.cons AV.name (AVs.cons AV.name (AVs.cons AV.name AVs.nil)))) (SVs.cons (SV.ite (TV.boolOp (bD.and_cons (TV.cmp1 (EV.binOp EV.nm EV.nm OpR.add) EV.nm OpR.eq) (bD.and_cons (TV.cmp1 (EV.binOp EV.nm EV.nm OpR.add) EV.nm OpR.eq) bD.and_nil))) (SVs.cons (SV.aug EV.nm X.iop_Add (.inl ⋯) ⋯) SVs.nil) (SVs.cons (SV.ite (TV.val EV.nm) (SVs.cons (SV.expr (EV.append EV.nm (EV.tuple (EVs.cons EV.nm (EVs.cons EV.nm (EVs.cons EV.nm EVs.nil)))))) SVs.nil) SVs.nil) (SVs.cons (SV.swap (EV.tuple (EVs.cons EV.nm (EVs.cons EV.nm (EVs.cons EV.nm EVs.nil)))) rfl ⋯ (iN ⋯)) SVs.nil))) SVs.nil) ⟨trivial,Nat.le_of_ble_eq_true rfl⟩ (λ_=>rfl))
def bT(X:XX C):SF:=(sIf (tE (eN "k1")) (aA (aT (cV (eN "non_adjacent") (bY (esC (eN "i1") (esC (eN "j1") (esC (eN "k1") esN)))))) (sK .next)) (sK .next))
theorem eW:Sx C 4 (gR P) L 203 (stB 5 7) 10 (bT X):=(SV.ite (TV.val EV.nm) (SVs.cons (SV.expr (EV.append EV.nm (EV.tuple (EVs.cons EV.nm (EVs.cons EV.nm (EVs.cons EV.nm EVs.nil)))))) SVs.nil) SVs.nil)
def aV(X:XX C):SF:=(aT (cV (eN "non_adjacent") (bY (esC (eN "la") (esC (eN "lb") (esC (eK (.int 0)) esN))))))
theorem eV:Sx C 4 (gR P) L 203 (stB 5 7) 11 (aV X):=(SV.expr (EV.append EV.nm (EV.tuple (EVs.cons EV.nm (EVs.cons EV.nm (EVs.cons EV.int EVs.nil))))))
def bS(X:XX C):SF:=(cX (eLM (tL C 2 X.makeM) (λi=>(i,0)) (eN "non_adjacent")) (d6 "matching_blocks" (eN "self")))
theorem eU:Sx C 4 (gR P) L 203 (stB 5 7) 12 (bS X):=(SV.assigns (EV.listMap X.kc X.makeM (Nat.le_of_ble_eq_true rfl) EV.nm X.g_list X.g_map X.g_Match ⋯ ⋯ ⋯ rfl rfl rfl (λ_=>rfl) (λ_=>rfl) rfl (λ_ _=>rfl)) (ALs.one (AV.attr X.smc (by decide+kernel) EV.nm)))
def bR(X:XX C):SF:=(jB (dV "matching_blocks" (eN "self")))
theorem eT:Sx C 4 (gR P) L 203 (stB 5 7) 13 (bR X):=(SV.ret (EV.attr X.smc (by decide+kernel) EV.nm))
def dU(X:XX C):SF:=(aA (dB X) (aA (dA X) (aA (cF X) (aA (bC X) (aA (bA X) (aA (aZ X) (aA (cE X) (aA (cD X) (aA (cC X) (aA (bV X) (aA (bT X) (aA (aV X) (aA (bS X) (aA (bR X) (sK .next)))))))))))))))
theorem gZ:SVs C 4 (callEnvC (aX (gR P)) L 203) (bH (stB 5 7)) (dU X):=(SVs.cons (fR X P L) (SVs.cons (fQ X P L) (SVs.cons (fP X P L) (SVs.cons (fM X P L) (SVs.cons (fK X P L) (SVs.cons (fJ X P L) (SVs.cons (fI X P L) (SVs.cons (fH X P L) (SVs.cons (fF X P L) (SVs.cons (fD X P L) (SVs.cons (eW X P L) (SVs.cons (eV X P L) (SVs.cons (eU X P L) (SVs.cons (eT X P L) SVs.nil))))))))))))))
def bM(X:XX C):CF:=lR ["self"] [] (dU X)
theorem hR(X:XX C):CV C 5 (.ref 203) (bM X):=CV.def_ X.d_get_matching_blocks ⋯ X.b_get_matching_blocks (λ_ _=>.nil) (dW ⋯) (λL=>gZ X X.w.params L)
def iC(X:XX C):SF:=(sK .next)
theorem lD:Sx C 5 (mC P) L 210 (stB 5 8) 0 (iC X):=(SV.doc rfl rfl)
def iB(X:XX C):SF:=(sIf (tE (aB (oIs not) (dV "opcodes" (eN "self")) (eK .none))) (aA (jB (dV "opcodes" (eN "self"))) (sK .next)) (sK .next))
theorem lC:Sx C 5 (mC P) L 210 (stB 5 8) 1 (iB X):=(SV.ite (TV.cmp1 (EV.attr X.smc (by decide+kernel) EV.nm) EV.none OpR.isNot) (SVs.cons (SV.ret (EV.attr X.smc (by decide+kernel) EV.nm)) SVs.nil) SVs.nil)
def eA(X:XX C):SF:=(cX (eK (.int 0)) (iG (aN "i") (aN "j")))
theorem lB:Sx C 5 (mC P) L 210 (stB 5 8) 2 (eA X):=(SV.assigns EV.int (ALs.cons AV.name (ALs.one AV.name) rfl ⟨_,_,rfl⟩))
def d9(X:XX C):SF:=(cX (dF esN) (iG (d6 "opcodes" (eN "self")) (aN "answer")))
theorem lA:Sx C 5 (mC P) L 210 (stB 5 8) 3 (d9 X):=(SV.assigns (EV.list EVs.nil) (ALs.cons (AV.attr X.smc (by decide+kernel) EV.nm) (ALs.one AV.name) rfl ⟨_,_,rfl⟩))
def d8(X:XX C):SF:=(iJ (b9 C) (iL (gV (bM X) (eN "self") esN)) (dD 3 (asC (aN "ai") (asC (aN "bj") (asC (aN "size") asN)))) (aA (bP "tag" (eK (.str ""))) (aA (sIf (aU (tE (aB (bQ λx y=>decide (x<y)) (eN "i") (eN "ai"))) (aU (tE (aB (bQ λx y=>decide (x<y)) (eN "j") (eN "bj"))) (tK true))) (aA (bP "tag" (eK (.str "replace"))) (sK .next)) (aA (sIf (tE (aB (bQ λx y=>decide (x<y)) (eN "i") (eN "ai"))) (aA (bP "tag" (eK (.str "delete"))) (sK .next)) (aA (sIf (tE (aB (bQ λx y=>decide (x<y)) (eN "j") (eN "bj"))) (aA (bP "tag" (eK (.str "insert"))) (sK .next)) (sK .next)) (sK .next))) (sK .next))) (aA (sIf (tE (eN "tag")) (aA (aT (cV (eN "answer") (bY (esC (eN "tag") (esC (eN "i") (esC (eN "ai") (esC (eN "j") (esC (eN "bj") esN)))))))) (sK .next)) (sK .next)) (aA (d5 ["i","j"] (bY (esC (aB aH (eN "ai") (eN "size")) (esC (aB aH (eN "bj") (eN "size")) esN)))) (aA (sIf (tE (eN "size")) (aA (aT (cV (eN "answer") (bY (esC (eK (.str "equal")) (esC (eN "ai") (esC (eN "i") (esC (eN "bj") (esC (eN "j") esN)))))))) (sK .next)) (sK .next)) (sK .next)))))))
theorem k9:Sx C 5 (mC P) L 210 (stB 5 8) 4 (d8 X):=(SV.for_ (K:=(b9 C)) (IV.list (EV.meth X.smc (by decide+kernel) ((hR X).lift rfl) EV.nm EVs.nil ⟨.inl rfl,λ_=>rfl⟩ ⟨rfl,⋯,⋯⟩)) (AV.tupleM X.km (AVs.cons AV.name (AVs.cons AV.name (AVs.cons AV.name AVs.nil)))) (SVs.cons (SV.assign EV.str) (SVs.cons (SV.ite (TV.boolOp (bD.and_cons (TV.cmp1 EV.nm EV.nm OpR.lt) (bD.and_cons (TV.cmp1 EV.nm EV.nm OpR.lt) bD.and_nil))) (SVs.cons (SV.assign EV.str) SVs.nil) (SVs.cons (SV.ite (TV.cmp1 EV.nm EV.nm OpR.lt) (SVs.cons (SV.assign EV.str) SVs.nil) (SVs.cons (SV.ite (TV.cmp1 EV.nm EV.nm OpR.lt) (SVs.cons (SV.assign EV.str) SVs.nil) SVs.nil) SVs.nil)) SVs.nil)) (SVs.cons (SV.ite (TV.val EV.nm) (SVs.cons (SV.expr (EV.append EV.nm (EV.tuple (EVs.cons EV.nm (EVs.cons EV.nm (EVs.cons EV.nm (EVs.cons EV.nm (EVs.cons EV.nm EVs.nil)))))))) SVs.nil) SVs.nil) (SVs.cons (SV.swap (EV.tuple (EVs.cons (EV.binOp EV.nm EV.nm OpR.add) (EVs.cons (EV.binOp EV.nm EV.nm OpR.add) EVs.nil))) rfl ⋯ (iN ⋯)) (SVs.cons (SV.ite (TV.val EV.nm) (SVs.cons (SV.expr (EV.append EV.nm (EV.tuple (EVs.cons EV.str (EVs.cons EV.nm (EVs.cons EV.nm (EVs.cons EV.nm (EVs.cons EV.nm EVs.nil)))))))) SVs.nil) SVs.nil) SVs.nil))))) ⟨trivial,Nat.le_of_ble_eq_true rfl⟩ (λ_=>rfl))
def d7(X:XX C):SF:=(jB (eN "answer"))
theorem k8:Sx C 5 (mC P) L 210 (stB 5 8) 5 (d7 X):=(SV.ret EV.nm)
def jG(X:XX C):SF:=(aA (iC X) (aA (iB X) (aA (eA X) (aA (d9 X) (aA (d8 X) (aA (d7 X) (sK .next)))))))
theorem mX:SVs C 5 (callEnvC (aX (mC P)) L 210) (bH (stB 5 8)) (jG X):=(SVs.cons (lD X P L) (SVs.cons (lC X P L) (SVs.cons (lB X P L) (SVs.cons (lA X P L) (SVs.cons (k9 X P L) (SVs.cons (k8 X P L) SVs.nil))))))
def cB(X:XX C):CF:=lR ["self"] [] (jG X)
theorem n8(X:XX C):CV C 6 (.ref 210) (cB X):=CV.def_ X.d_get_opcodes ⋯ X.b_get_opcodes (λ_ _=>.nil) (dW ⋯) (λL=>mX X X.w.params L)
def uA(X:XX C):SF:=(sK .next)
theorem yK:Sx C 4 (nG P) L 160 (stB 5 1) 0 (uA X):=(SV.doc rfl rfl)
def t9(X:XX C):SF:=(cX (eN "isjunk") (d6 "isjunk" (eN "self")))
theorem yJ:Sx C 4 (nG P) L 160 (stB 5 1) 1 (t9 X):=(SV.assigns EV.nm (ALs.one (AV.attr X.smc (by decide+kernel) EV.nm)))
def t8(X:XX C):SF:=(cX (eK .none) (iG (d6 "a" (eN "self")) (d6 "b" (eN "self"))))
theorem yI:Sx C 4 (nG P) L 160 (stB 5 1) 2 (t8 X):=(SV.assigns EV.none (ALs.cons (AV.attr X.smc (by decide+kernel) EV.nm) (ALs.one (AV.attr X.smc (by decide+kernel) EV.nm)) rfl ⟨_,_,rfl⟩))
def t7(X:XX C):SF:=(cX (eN "autojunk") (d6 "autojunk" (eN "self")))
theorem yH:Sx C 4 (nG P) L 160 (stB 5 1) 3 (t7 X):=(SV.assigns EV.nm (ALs.one (AV.attr X.smc (by decide+kernel) EV.nm)))
def t6(X:XX C):SF:=(aT (gV (hV X) (eN "self") (esC (eN "a") (esC (eN "b") esN))))
theorem yG:Sx C 4 (nG P) L 160 (stB 5 1) 4 (t6 X):=(SV.expr (EV.meth X.smc (by decide+kernel) ((uG X).lift rfl) EV.nm (EVs.cons EV.nm (EVs.cons EV.nm EVs.nil)) ⟨.inr ⟨_,_,rfl,rfl⟩,λ_=>rfl⟩ ⟨rfl,⋯,⋯⟩))
def aC5(X:XX C):SF:=(aA (uA X) (aA (t9 X) (aA (t8 X) (aA (t7 X) (aA (t6 X) (sK .next))))))
theorem aEx:SVs C 4 (callEnvC (aX (nG P)) L 160) (bH (stB 5 1)) (aC5 X):=(SVs.cons (yK X P L) (SVs.cons (yJ X P L) (SVs.cons (yI X P L) (SVs.cons (yH X P L) (SVs.cons (yG X P L) SVs.nil)))))
def sF(X:XX C):CF:=lR ["self","isjunk","a","b","autojunk"] [] (aC5 X)
theorem XX.cc_init4(X:XX C):CC C 5 (.ref 160) (sF X):=λhr S hu e=>kZ X.d_init ⋯ X.b_init (λ_ _=>.nil) (dW ⋯) (λL=>aEx X X.w.params L) hr S hu e
def XX.c_SM4(X:XX C):CF:=cNew (sF X)
theorem XX.cv_SM4(X:XX C):CV C 6 (.ref dT) X.c_SM4:=CV.sm X.kc X.cc_init4
def rX(X:XX C):SF:=(sK .next)
theorem aCn(X:XX C)(P:Params)(L:Addr):SV C 6 ((gsh P).envL L) (nth (bH (stB 5 9)) 0) (rX X):=(SV.doc rfl rfl)
def rW(X:XX C):SF:=(bP "codes" (gV (cB X) (eN "self") esN))
theorem aCm(X:XX C)(P:Params)(L:Addr):SV C 6 ((gsh P).envL L) (nth (bH (stB 5 9)) 1) (rW X):=(SV.assign (EV.meth X.smc (by decide+kernel) ((n8 X).lift rfl) (EV.nm ⋯) EVs.nil ⟨.inl rfl,λ_=>rfl⟩ ⟨rfl,⋯,⋯⟩) (.inl ⋯) rfl)
def kB(X:XX C):SF:=(sIf (tNot (tE (eN "codes"))) (aA (bP "codes" (dF (esC (bY (esC (eK (.str "equal")) (esC (eK (.int 0)) (esC (eK (.int 1)) (esC (eK (.int 0)) (esC (eK (.int 1)) esN)))))) esN))) (sK .next)) (sK .next))
theorem aCl(X:XX C)(P:Params)(L:Addr):SV C 6 ((gsh P).envL L) (nth (bH (stB 5 9)) 2) (kB X):=(SV.ite (TV.not (TV.val (EV.nm ⋯) rfl)) (SVs.cons (SV.assign (EV.list (EVs.cons (EV.tuple (EVs.cons EV.str (EVs.cons EV.int (EVs.cons EV.int (EVs.cons EV.int (EVs.cons EV.int EVs.nil rfl) rfl) rfl) rfl) rfl)) EVs.nil rfl)) (.inl ⋯) rfl) SVs.nil) SVs.nil)
def kA(X:XX C):SF:=(sIf (tE (aB (bE id) (aB aM (aB aM (eN "codes") (eK (.int 0))) (eK (.int 0))) (eK (.str "equal")))) (aA (cX (aB aM (eN "codes") (eK (.int 0))) (dD 5 (asC (aN "tag") (asC (aN "i1") (asC (aN "i2") (asC (aN "j1") (asC (aN "j2") asN))))))) (aA (cX (bY (esC (eN "tag") (esC (aO v0 (esC (eN "i1") (esC (aB cK (eN "i2") (eN "n")) esN))) (esC (eN "i2") (esC (aO v0 (esC (eN "j1") (esC (aB cK (eN "j2") (eN "n")) esN))) (esC (eN "j2") esN)))))) (pS (eN "codes") (eK (.int 0)))) (sK .next))) (sK .next))
theorem aCk(X:XX C)(P:Params)(L:Addr):SV C 6 ((gsh P).envL L) (nth (bH (stB 5 9)) 3) (kA X):=(SV.ite (TV.cmp1 (EV.idx (EV.idx (EV.nm ⋯) EV.int (λ_ _=>⟨_,rfl⟩)) EV.int (λ_ _=>⟨_,rfl⟩)) EV.str OpR.eq rfl) (SVs.cons (SV.assigns (EV.idx (EV.nm ⋯) EV.int (λ_ _=>⟨_,rfl⟩)) (ALs.one (AV.tupleM X.km (AVs.cons (AV.name (.inl ⋯)) (AVs.cons (AV.name (.inl ⋯)) (AVs.cons (AV.name (.inl ⋯)) (AVs.cons (AV.name (.inl ⋯)) (AVs.cons (AV.name (.inl ⋯)) AVs.nil rfl) rfl) rfl) rfl) rfl) rfl ⋯) rfl) rfl ⋯) (SVs.cons (SV.assigns (EV.tuple (EVs.cons (EV.nm ⋯) (EVs.cons (EV.call CV.max X.g_max (EVs.cons (EV.nm ⋯) (EVs.cons (EV.binOp (EV.nm ⋯) (EV.nm ⋯) OpR.sub) EVs.nil rfl) rfl) ⟨.inr ⟨_,_,rfl,rfl⟩,λ_=>rfl⟩ ⋯ ⋯) (EVs.cons (EV.nm ⋯) (EVs.cons (EV.call CV.max X.g_max (EVs.cons (EV.nm ⋯) (EVs.cons (EV.binOp (EV.nm ⋯) (EV.nm ⋯) OpR.sub) EVs.nil rfl) rfl) ⟨.inr ⟨_,_,rfl,rfl⟩,λ_=>rfl⟩ ⋯ ⋯) (EVs.cons (EV.nm ⋯) EVs.nil rfl) rfl) rfl) rfl) rfl)) (ALs.one (AV.sub (EV.nm ⋯) EV.int) rfl) rfl ⋯) SVs.nil)) SVs.nil)
def j9(X:XX C):SF:=(sIf (tE (aB (bE id) (aB aM (aB aM (eN "codes") (dR (eK (.int 1)))) (eK (.int 0))) (eK (.str "equal")))) (aA (cX (aB aM (eN "codes") (dR (eK (.int 1)))) (dD 5 (asC (aN "tag") (asC (aN "i1") (asC (aN "i2") (asC (aN "j1") (asC (aN "j2") asN))))))) (aA (cX (bY (esC (eN "tag") (esC (eN "i1") (esC (aO vZ (esC (eN "i2") (esC (aB aH (eN "i1") (eN "n")) esN))) (esC (eN "j1") (esC (aO vZ (esC (eN "j2") (esC (aB aH (eN "j1") (eN "n")) esN))) esN)))))) (pS (eN "codes") (dR (eK (.int 1))))) (sK .next))) (sK .next))
theorem aCj(X:XX C)(P:Params)(L:Addr):SV C 6 ((gsh P).envL L) (nth (bH (stB 5 9)) 4) (j9 X):=(SV.ite (TV.cmp1 (EV.idx (EV.idx (EV.nm ⋯) (EV.neg EV.int) (λ_ _=>⟨_,rfl⟩)) EV.int (λ_ _=>⟨_,rfl⟩)) EV.str OpR.eq rfl) (SVs.cons (SV.assigns (EV.idx (EV.nm ⋯) (EV.neg EV.int) (λ_ _=>⟨_,rfl⟩)) (ALs.one (AV.tupleM X.km (AVs.cons (AV.name (.inl ⋯)) (AVs.cons (AV.name (.inl ⋯)) (AVs.cons (AV.name (.inl ⋯)) (AVs.cons (AV.name (.inl ⋯)) (AVs.cons (AV.name (.inl ⋯)) AVs.nil rfl) rfl) rfl) rfl) rfl) rfl ⋯) rfl) rfl ⋯) (SVs.cons (SV.assigns (EV.tuple (EVs.cons (EV.nm ⋯) (EVs.cons (EV.nm ⋯) (EVs.cons (EV.call CV.min X.g_min (EVs.cons (EV.nm ⋯) (EVs.cons (EV.binOp (EV.nm ⋯) (EV.nm ⋯) OpR.add) EVs.nil rfl) rfl) ⟨.inr ⟨_,_,rfl,rfl⟩,λ_=>rfl⟩ ⋯ ⋯) (EVs.cons (EV.nm ⋯) (EVs.cons (EV.call CV.min X.g_min (EVs.cons (EV.nm ⋯) (EVs.cons (EV.binOp (EV.nm ⋯) (EV.nm ⋯) OpR.add) EVs.nil rfl) rfl) ⟨.inr ⟨_,_,rfl,rfl⟩,λ_=>rfl⟩ ⋯ ⋯) EVs.nil rfl) rfl) rfl) rfl) rfl)) (ALs.one (AV.sub (EV.nm ⋯) (EV.neg EV.int)) rfl) rfl ⋯) SVs.nil)) SVs.nil)
def mK(X:XX C):SF:=(bP "nn" (aB aH (eN "n") (eN "n")))
theorem aCi(X:XX C)(P:Params)(L:Addr):SV C 6 ((gsh P).envL L) (nth (bH (stB 5 9)) 5) (mK X):=(SV.assign (EV.binOp (EV.nm ⋯) (EV.nm ⋯) OpR.add) (.inl ⋯) rfl)
def mJ(X:XX C):SF:=(bP "group" (dF esN))
theorem aCh(X:XX C)(P:Params)(L:Addr):SV C 6 ((gsh P).envL L) (nth (bH (stB 5 9)) 6) (mJ X):=(SV.assign (EV.list EVs.nil) (.inl ⋯) rfl)
def aCy(X:XX C):SF:=(aA (rX X) (aA (rW X) (aA (kB X) (aA (kA X) (aA (j9 X) (aA (mK X) (aA (mJ X) (sK .next))))))))
theorem gv_pre(X:XX C)(P:Params)(L:Addr):SVs C 6 ((gsh P).envL L) (gsh P).pre (aCy X):=(SVs.cons (aCn X P L) (SVs.cons (aCm X P L) (SVs.cons (aCl X P L) (SVs.cons (aCk X P L) (SVs.cons (aCj X P L) (SVs.cons (aCi X P L) (SVs.cons (aCh X P L) SVs.nil)))))))
def g_it(X:XX C):EF:=(eN "codes")
theorem gv_it(X:XX C)(P:Params)(L:Addr):EV C 6 ((gsh P).envL L) (gsh P).iter (g_it X):=(EV.nm ⋯)
def aCx(X:XX C):AF:=(dD 5 (asC (aN "tag") (asC (aN "i1") (asC (aN "i2") (asC (aN "j1") (asC (aN "j2") asN))))))
theorem gv_tgt(X:XX C)(P:Params)(L:Addr):AV C 6 ((gsh P).envL L) (gsh P).target (aCx X):=(AV.tupleM X.km (AVs.cons (AV.name (.inl ⋯)) (AVs.cons (AV.name (.inl ⋯)) (AVs.cons (AV.name (.inl ⋯)) (AVs.cons (AV.name (.inl ⋯)) (AVs.cons (AV.name (.inl ⋯)) AVs.nil rfl) rfl) rfl) rfl) rfl) rfl ⋯)
def g_fc(X:XX C):TF:=(aU (tE (aB (bE id) (eN "tag") (eK (.str "equal")))) (aU (tE (aB (bQ λx y=>decide (x>y)) (aB cK (eN "i2") (eN "i1")) (eN "nn"))) (tK true)))
theorem gv_fc(X:XX C)(P:Params)(L:Addr):TV C 6 ((gsh P).envL L) (gsh P).cond (g_fc X):=(TV.boolOp (bD.and_cons (TV.cmp1 (EV.nm ⋯) EV.str OpR.eq rfl) (bD.and_cons (TV.cmp1 (EV.binOp (EV.nm ⋯) (EV.nm ⋯) OpR.sub) (EV.nm ⋯) OpR.gt rfl) bD.and_nil)))
def g_f1(X:XX C):SF:=(aT (cV (eN "group") (bY (esC (eN "tag") (esC (eN "i1") (esC (aO vZ (esC (eN "i2") (esC (aB aH (eN "i1") (eN "n")) esN))) (esC (eN "j1") (esC (aO vZ (esC (eN "j2") (esC (aB aH (eN "j1") (eN "n")) esN))) esN))))))))
theorem gv_f1(X:XX C)(P:Params)(L:Addr):SV C 6 ((gsh P).envL L) (gsh P).s1 (g_f1 X):=(SV.expr (EV.append (EV.nm ⋯) (EV.tuple (EVs.cons (EV.nm ⋯) (EVs.cons (EV.nm ⋯) (EVs.cons (EV.call CV.min X.g_min (EVs.cons (EV.nm ⋯) (EVs.cons (EV.binOp (EV.nm ⋯) (EV.nm ⋯) OpR.add) EVs.nil rfl) rfl) ⟨.inr ⟨_,_,rfl,rfl⟩,λ_=>rfl⟩ ⋯ ⋯) (EVs.cons (EV.nm ⋯) (EVs.cons (EV.call CV.min X.g_min (EVs.cons (EV.nm ⋯) (EVs.cons (EV.binOp (EV.nm ⋯) (EV.nm ⋯) OpR.add) EVs.nil rfl) rfl) ⟨.inr ⟨_,_,rfl,rfl⟩,λ_=>rfl⟩ ⋯ ⋯) EVs.nil rfl) rfl) rfl) rfl) rfl)) ⟨rfl,⋯,⋯⟩ rfl) rfl rfl)
def g_fy(X:XX C):EF:=(eN "group")
theorem gv_fy(X:XX C)(P:Params)(L:Addr):EV C 6 ((gsh P).envL L) (gsh P).ye (g_fy X):=(EV.nm ⋯)
def g_f2(X:XX C):SF:=(aA (bP "group" (dF esN)) (aA (d5 ["i1","j1"] (bY (esC (aO v0 (esC (eN "i1") (esC (aB cK (eN "i2") (eN "n")) esN))) (esC (aO v0 (esC (eN "j1") (esC (aB cK (eN "j2") (eN "n")) esN))) esN)))) (sK .next)))
theorem gv_f2(X:XX C)(P:Params)(L:Addr):SVs C 6 ((gsh P).envL L) (gsh P).s2 (g_f2 X):=(SVs.cons (SV.assign (EV.list EVs.nil) (.inl ⋯) rfl) (SVs.cons (SV.swap (EV.tuple (EVs.cons (EV.call CV.max X.g_max (EVs.cons (EV.nm ⋯) (EVs.cons (EV.binOp (EV.nm ⋯) (EV.nm ⋯) OpR.sub) EVs.nil rfl) rfl) ⟨.inr ⟨_,_,rfl,rfl⟩,λ_=>rfl⟩ ⋯ ⋯) (EVs.cons (EV.call CV.max X.g_max (EVs.cons (EV.nm ⋯) (EVs.cons (EV.binOp (EV.nm ⋯) (EV.nm ⋯) OpR.sub) EVs.nil rfl) rfl) ⟨.inr ⟨_,_,rfl,rfl⟩,λ_=>rfl⟩ ⋯ ⋯) EVs.nil rfl) rfl)) rfl ⋯ (iN ⋯)) SVs.nil))
def g_f3(X:XX C):SF:=(aT (cV (eN "group") (bY (esC (eN "tag") (esC (eN "i1") (esC (eN "i2") (esC (eN "j1") (esC (eN "j2") esN))))))))
theorem gv_f3(X:XX C)(P:Params)(L:Addr):SV C 6 ((gsh P).envL L) (gsh P).s3 (g_f3 X):=(SV.expr (EV.append (EV.nm ⋯) (EV.tuple (EVs.cons (EV.nm ⋯) (EVs.cons (EV.nm ⋯) (EVs.cons (EV.nm ⋯) (EVs.cons (EV.nm ⋯) (EVs.cons (EV.nm ⋯) EVs.nil rfl) rfl) rfl) rfl) rfl)) ⟨rfl,⋯,⋯⟩ rfl) rfl rfl)
def xD(X:XX C):TF:=(aU (tE (eN "group")) (aU (tNot (aU (tE (aB (bE id) (aO cI (esC (eN "group") esN)) (eK (.int 1)))) (aU (tE (aB (bE id) (aB aM (aB aM (eN "group") (eK (.int 0))) (eK (.int 0))) (eK (.str "equal")))) (tK true)))) (tK true)))
theorem gv_fc2(X:XX C)(P:Params)(L:Addr):TV C 6 ((gsh P).envL L) (gsh P).cond2 (xD X):=(TV.boolOp (bD.and_cons (TV.val (EV.nm ⋯) rfl) (bD.and_cons (TV.not (TV.boolOp (bD.and_cons (TV.cmp1 (EV.call (CV.lenM X.km) X.g_len (EVs.cons (EV.nm ⋯) EVs.nil rfl) ⟨.inr ⟨_,_,rfl,rfl⟩,λ_=>rfl⟩ ⋯ ⋯) EV.int OpR.eq rfl) (bD.and_cons (TV.cmp1 (EV.idx (EV.idx (EV.nm ⋯) EV.int (λ_ _=>⟨_,rfl⟩)) EV.int (λ_ _=>⟨_,rfl⟩)) EV.str OpR.eq rfl) bD.and_nil)))) bD.and_nil)))
def g_fy2(X:XX C):EF:=(eN "group")
theorem gv_fy2(X:XX C)(P:Params)(L:Addr):EV C 6 ((gsh P).envL L) (gsh P).ye2 (g_fy2 X):=(EV.nm ⋯)
def gfn(X:XX C):GFn:= {pre:=aCy X,it:=g_it X,tgt:=aCx X,fc:=g_fc X,f1:=g_f1 X,fy:=g_fy X,f2:=g_f2 X,f3:=g_f3 X,fc2:=xD X,fy2:=g_fy2 X}
theorem XX.gv(X:XX C)(L:Addr):GV C 6 (gsh X.w.params) (gfn X) ((gsh X.w.params).envL L) where
 pre:=gv_pre X X.w.params L
 it:=gv_it X X.w.params L
 tgt:=gv_tgt X X.w.params L
 fc:=gv_fc X X.w.params L
 f1:=gv_f1 X X.w.params L
 fy:=gv_fy X X.w.params L
 f2:=gv_f2 X X.w.params L
 f3:=gv_f3 X X.w.params L
 fc2:=gv_fc2 X X.w.params L
 fy2:=gv_fy2 X X.w.params L
 hs:=λ_=>rfl
 co:=rfl
 ia:=rfl
theorem XX.dG(X:XX C):Def C (gsh X.w.params).fa (gsh X.w.params).fd (gsh X.w.params).body:=(aCr (aX (q9 X.w.params))).symm▸X.d_get_grouped_opcodes
def b7(X:XX C):CF:=cGen ["self","n"] []
def bZ(X:XX C):CF:=cGen ["self","n"] [.int 3]
theorem hU(X:XX C):CV C 7 (.ref 218) (b7 X):=CV.gen X.gc X.dG ⋯ X.b_get_grouped_opcodes (λ_ _=>.nil) (aBh ⋯)
theorem gW(X:XX C):CV C 7 (.ref 218) (bZ X):=CV.gen X.gc X.dG ⋯ X.b_get_grouped_opcodes1 (λ_ _=>.cons (.int 3 534) .nil) (aBh ⋯)
end
section
variable {C:Cx}
def iU(X:XX C):SF:=(bP "blocks" (dF esN))
theorem l9(X:XX C)(P:Params)(L:Addr):SV C 10 (callEnvC (aX (tC P)) L 251) (((bH (stA 7)).drop 0).headD (.Pass ⟨0,0,0,0⟩)) (iU X):=(SV.assign (EV.list EVs.nil) (.inl ⋯) rfl)
def iT(X:XX C):SF:=(iJ (fV C) (iR (aO dY (esC (eN "size") esN))) (aN "k") (aA (sIf (tE (aB (bE not) (eP (b9 C) [".0","hit"] (iL (eN "hits")) (aN "hit") (aU (tCh (bQ λx y=>decide (x<=y)) (bQ λx y=>decide (x<=y)) (dR (eN "n")) (aB cK (eN "hit") (eN "k")) (eN "n")) (tK true)) (eR (eN "hit"))) (dF esN))) (aA (sIf (aU (tE (aB (bE not) (eN "blocks") (dF esN))) (aU (tE (aB (bE id) (aB aM (aB aM (eN "blocks") (dR (eK (.int 1)))) (dR (eK (.int 1)))) (aB cK (eN "k") (eK (.int 1))))) (tK true))) (aA (aT (cV (aB aM (eN "blocks") (dR (eK (.int 1)))) (eN "k"))) (sK .next)) (aA (aT (cV (eN "blocks") (dF (esC (eN "k") esN)))) (sK .next))) (sK .next)) (sK .next)) (sK .next)))
theorem l8(X:XX C)(P:Params)(L:Addr):SV C 10 (callEnvC (aX (tC P)) L 251) (((bH (stA 7)).drop 1).headD (.Pass ⟨0,0,0,0⟩)) (iT X):=(SV.for_ (K:=(fV C)) (IV.range (EV.call CV.range X.g_range (EVs.cons (EV.nm ⋯) EVs.nil rfl) ⟨.inr ⟨_,_,rfl,rfl⟩,λ_=>rfl⟩ ⋯ ⋯)) (AV.name (.inr ⋯)) (SVs.cons (SV.ite (TV.cmp1 (EV.comp ⟨rfl,⋯,⋯,⋯⟩ ⋯ mF.list (IV.list (EV.nm ⋯)) (λ_=>(ALV.name ⋯)) (λ_=>(CnV.cons (TV.chain (EV.neg (EV.nm ⋯)) (EV.binOp (EV.nm ⋯) (EV.nm ⋯) OpR.sub) (EV.nm ⋯) OpR.le OpR.le rfl) CnV.nil)) (λ_=>(BV.last (EV.nm ⋯) rfl)) ⟨trivial,Nat.le_of_ble_eq_true rfl⟩ (λ_=>rfl)) (EV.list EVs.nil) OpR.ne rfl) (SVs.cons (SV.ite (TV.boolOp (bD.and_cons (TV.cmp1 (EV.nm ⋯) (EV.list EVs.nil) OpR.ne rfl) (bD.and_cons (TV.cmp1 (EV.idx (EV.idx (EV.nm ⋯) (EV.neg EV.int) (λ_ _=>⟨_,rfl⟩)) (EV.neg EV.int) (λ_ _=>⟨_,rfl⟩)) (EV.binOp (EV.nm ⋯) EV.int OpR.sub) OpR.eq rfl) bD.and_nil))) (SVs.cons (SV.expr (EV.append (EV.idx (EV.nm ⋯) (EV.neg EV.int) (λ_ _=>⟨_,rfl⟩)) (EV.nm ⋯) ⟨rfl,⋯,⋯⟩ rfl) rfl rfl) SVs.nil) (SVs.cons (SV.expr (EV.append (EV.nm ⋯) (EV.list (EVs.cons (EV.nm ⋯) EVs.nil rfl)) ⟨rfl,⋯,⋯⟩ rfl) rfl rfl) SVs.nil)) SVs.nil) SVs.nil) SVs.nil) ⟨trivial,Nat.le_of_ble_eq_true rfl⟩ (λ_=>rfl))
def iS(X:XX C):SF:=(jB (eN "blocks"))
theorem l7(X:XX C)(P:Params)(L:Addr):SV C 10 (callEnvC (aX (tC P)) L 251) (((bH (stA 7)).drop 2).headD (.Pass ⟨0,0,0,0⟩)) (iS X):=(SV.ret (EV.nm ⋯))
def hO(X:XX C):SF:=(aA (iU X) (aA (iT X) (aA (iS X) (sK .next))))
theorem pG(X:XX C)(P:Params)(L:Addr):SVs C 10 (callEnvC (aX (tC P)) L 251) (bH (stA 7)) (hO X):=(SVs.cons (l9 X P L) (SVs.cons (l8 X P L) (SVs.cons (l7 X P L) SVs.nil)))
def eG(X:XX C):CF:=lR ["size","hits","n"] [] (hO X)
theorem pO(X:XX C):CV C 11 (.ref 251) (eG X):=CV.def_ X.d__law_blocks ⋯ X.b__law_blocks (λ_ _=>.nil) (dW ⋯) (λL=>pG X X.w.params L)
def kV(X:XX C):SF:=(bP "rows" (dF esN))
theorem pF(X:XX C)(P:Params)(L:Addr):SV C 10 (callEnvC (aX (nF P)) L 258) (((bH (stA 8)).drop 0).headD (.Pass ⟨0,0,0,0⟩)) (kV X):=(SV.assign (EV.list EVs.nil) (.inl ⋯) rfl)
def kU(X:XX C):SF:=(iJ (b9 C) (iL (eN "block")) (aN "k") (aA (bP "tag" (eIf (tE (aB (oIn id) (eN "k") (eN "hits"))) (eK (.str "replace")) (eK (.str "equal")))) (aA (sIf (aU (tE (aB (bE not) (eN "rows") (dF esN))) (aU (tE (aB (bE id) (aB aM (aB aM (eN "rows") (dR (eK (.int 1)))) (eK (.int 0))) (eN "tag"))) (tK true))) (aA (cX (bY (esC (eN "tag") (esC (aB aM (aB aM (eN "rows") (dR (eK (.int 1)))) (eK (.int 1))) (esC (aB aH (eN "k") (eK (.int 1))) (esC (aB aM (aB aM (eN "rows") (dR (eK (.int 1)))) (eK (.int 3))) (esC (aB aM (eN "places") (aB aH (eN "k") (eK (.int 1)))) esN)))))) (pS (eN "rows") (dR (eK (.int 1))))) (sK .next)) (aA (aT (cV (eN "rows") (bY (esC (eN "tag") (esC (eN "k") (esC (aB aH (eN "k") (eK (.int 1))) (esC (aB aM (eN "places") (eN "k")) (esC (aB aM (eN "places") (aB aH (eN "k") (eK (.int 1)))) esN)))))))) (sK .next))) (sK .next))))
theorem pE(X:XX C)(P:Params)(L:Addr):SV C 10 (callEnvC (aX (nF P)) L 258) (((bH (stA 8)).drop 1).headD (.Pass ⟨0,0,0,0⟩)) (kU X):=(SV.for_ (K:=(b9 C)) (IV.list (EV.nm ⋯)) (AV.name (.inl ⋯)) (SVs.cons (SV.assign (EV.ifExp (TV.cmp1 (EV.nm ⋯) (EV.nm ⋯) OpR.in_ rfl) EV.str EV.str) (.inl ⋯) rfl) (SVs.cons (SV.ite (TV.boolOp (bD.and_cons (TV.cmp1 (EV.nm ⋯) (EV.list EVs.nil) OpR.ne rfl) (bD.and_cons (TV.cmp1 (EV.idx (EV.idx (EV.nm ⋯) (EV.neg EV.int) (λ_ _=>⟨_,rfl⟩)) EV.int (λ_ _=>⟨_,rfl⟩)) (EV.nm ⋯) OpR.eq rfl) bD.and_nil))) (SVs.cons (SV.assigns (EV.tuple (EVs.cons (EV.nm ⋯) (EVs.cons (EV.idx (EV.idx (EV.nm ⋯) (EV.neg EV.int) (λ_ _=>⟨_,rfl⟩)) EV.int (λ_ _=>⟨_,rfl⟩)) (EVs.cons (EV.binOp (EV.nm ⋯) EV.int OpR.add) (EVs.cons (EV.idx (EV.idx (EV.nm ⋯) (EV.neg EV.int) (λ_ _=>⟨_,rfl⟩)) EV.int (λ_ _=>⟨_,rfl⟩)) (EVs.cons (EV.idx (EV.nm ⋯) (EV.binOp (EV.nm ⋯) EV.int OpR.add) (λ_ _=>⟨_,rfl⟩)) EVs.nil rfl) rfl) rfl) rfl) rfl)) (ALs.one (AV.sub (EV.nm ⋯) (EV.neg EV.int)) rfl) rfl ⋯) SVs.nil) (SVs.cons (SV.expr (EV.append (EV.nm ⋯) (EV.tuple (EVs.cons (EV.nm ⋯) (EVs.cons (EV.nm ⋯) (EVs.cons (EV.binOp (EV.nm ⋯) EV.int OpR.add) (EVs.cons (EV.idx (EV.nm ⋯) (EV.nm ⋯) (λ_ _=>⟨_,rfl⟩)) (EVs.cons (EV.idx (EV.nm ⋯) (EV.binOp (EV.nm ⋯) EV.int OpR.add) (λ_ _=>⟨_,rfl⟩)) EVs.nil rfl) rfl) rfl) rfl) rfl)) ⟨rfl,⋯,⋯⟩ rfl) rfl rfl) SVs.nil)) SVs.nil)) ⟨trivial,Nat.le_of_ble_eq_true rfl⟩ (λ_=>rfl))
def hM(X:XX C):SF:=(d5 ["begin","end"] (bY (esC (aB aM (eN "block") (eK (.int 0))) (esC (aB aH (aB aM (eN "block") (dR (eK (.int 1)))) (eK (.int 1))) esN))))
theorem pD(X:XX C)(P:Params)(L:Addr):SV C 10 (callEnvC (aX (nF P)) L 258) (((bH (stA 8)).drop 2).headD (.Pass ⟨0,0,0,0⟩)) (hM X):=(SV.swap (EV.tuple (EVs.cons (EV.idx (EV.nm ⋯) EV.int (λ_ _=>⟨_,rfl⟩)) (EVs.cons (EV.binOp (EV.idx (EV.nm ⋯) (EV.neg EV.int) (λ_ _=>⟨_,rfl⟩)) EV.int OpR.add) EVs.nil rfl) rfl)) rfl ⋯ (by intro x hx;simp only[List.mem_cons,List.not_mem_nil,or_false]at hx;rcases hx with rfl |rfl<;>exact .inl ⋯))
def hJ(X:XX C):SF:=(sIf (aU (tE (aB (oIn id) (eN "begin") (eN "hits"))) (aU (tE (aB (bQ λx y=>decide (x>y)) (eN "begin") (eK (.int 0)))) (tK true))) (aA (bP "rows" (aB aH (dF (esC (bY (esC (eK (.str "equal")) (esC (eN "begin") (esC (eN "begin") (esC (aB aM (eN "places") (eN "begin")) (esC (aB aM (eN "places") (eN "begin")) esN)))))) esN)) (eN "rows"))) (sK .next)) (sK .next))
theorem pC(X:XX C)(P:Params)(L:Addr):SV C 10 (callEnvC (aX (nF P)) L 258) (((bH (stA 8)).drop 3).headD (.Pass ⟨0,0,0,0⟩)) (hJ X):=(SV.ite (TV.boolOp (bD.and_cons (TV.cmp1 (EV.nm ⋯) (EV.nm ⋯) OpR.in_ rfl) (bD.and_cons (TV.cmp1 (EV.nm ⋯) EV.int OpR.gt rfl) bD.and_nil))) (SVs.cons (SV.assign (EV.binOp (EV.list (EVs.cons (EV.tuple (EVs.cons EV.str (EVs.cons (EV.nm ⋯) (EVs.cons (EV.nm ⋯) (EVs.cons (EV.idx (EV.nm ⋯) (EV.nm ⋯) (λ_ _=>⟨_,rfl⟩)) (EVs.cons (EV.idx (EV.nm ⋯) (EV.nm ⋯) (λ_ _=>⟨_,rfl⟩)) EVs.nil rfl) rfl) rfl) rfl) rfl)) EVs.nil rfl)) (EV.nm ⋯) OpR.add) (.inl ⋯) rfl) SVs.nil) SVs.nil)
def hI(X:XX C):SF:=(sIf (aU (tE (aB (oIn id) (aB cK (eN "end") (eK (.int 1))) (eN "hits"))) (aU (tE (aB (bQ λx y=>decide (x<y)) (eN "end") (aB cK (aO cI (esC (eN "places") esN)) (eK (.int 1))))) (tK true))) (aA (bP "rows" (aB aH (eN "rows") (dF (esC (bY (esC (eK (.str "equal")) (esC (eN "end") (esC (eN "end") (esC (aB aM (eN "places") (eN "end")) (esC (aB aM (eN "places") (eN "end")) esN)))))) esN)))) (sK .next)) (sK .next))
theorem pB(X:XX C)(P:Params)(L:Addr):SV C 10 (callEnvC (aX (nF P)) L 258) (((bH (stA 8)).drop 4).headD (.Pass ⟨0,0,0,0⟩)) (hI X):=(SV.ite (TV.boolOp (bD.and_cons (TV.cmp1 (EV.binOp (EV.nm ⋯) EV.int OpR.sub) (EV.nm ⋯) OpR.in_ rfl) (bD.and_cons (TV.cmp1 (EV.nm ⋯) (EV.binOp (EV.call (CV.lenM X.km) X.g_len (EVs.cons (EV.nm ⋯) EVs.nil rfl) ⟨.inr ⟨_,_,rfl,rfl⟩,λ_=>rfl⟩ ⋯ ⋯) EV.int OpR.sub) OpR.lt rfl) bD.and_nil))) (SVs.cons (SV.assign (EV.binOp (EV.nm ⋯) (EV.list (EVs.cons (EV.tuple (EVs.cons EV.str (EVs.cons (EV.nm ⋯) (EVs.cons (EV.nm ⋯) (EVs.cons (EV.idx (EV.nm ⋯) (EV.nm ⋯) (λ_ _=>⟨_,rfl⟩)) (EVs.cons (EV.idx (EV.nm ⋯) (EV.nm ⋯) (λ_ _=>⟨_,rfl⟩)) EVs.nil rfl) rfl) rfl) rfl) rfl)) EVs.nil rfl)) OpR.add) (.inl ⋯) rfl) SVs.nil) SVs.nil)
def kT(X:XX C):SF:=(jB (eN "rows"))
theorem o9(X:XX C)(P:Params)(L:Addr):SV C 10 (callEnvC (aX (nF P)) L 258) (((bH (stA 8)).drop 5).headD (.Pass ⟨0,0,0,0⟩)) (kT X):=(SV.ret (EV.nm ⋯))
def jQ(X:XX C):SF:=(aA (kV X) (aA (kU X) (aA (hM X) (aA (hJ X) (aA (hI X) (aA (kT X) (sK .next)))))))
theorem sU(X:XX C)(P:Params)(L:Addr):SVs C 10 (callEnvC (aX (nF P)) L 258) (bH (stA 8)) (jQ X):=(SVs.cons (pF X P L) (SVs.cons (pE X P L) (SVs.cons (pD X P L) (SVs.cons (pC X P L) (SVs.cons (pB X P L) (SVs.cons (o9 X P L) SVs.nil))))))
def eQ(X:XX C):CF:=lR ["block","hits","places"] [] (jQ X)
theorem uJ(X:XX C):CV C 11 (.ref 258) (eQ X):=CV.def_ X.d__law_rows ⋯ X.b__law_rows (λ_ _=>.nil) (dW ⋯) (λL=>sU X X.w.params L)
end
section
variable {C:Cx}
def r9(X:XX C):SF:=(bP "numbers" (eIf (tE (aB (bE id) (aB mB (aO cI (esC (eN "script") esN)) (eK (.int 4))) (eK (.int 3)))) (eN "script") (aB aH (eN "script") (dF (esC (eK (.int 3)) (esC (eK (.int 5)) (esC (eK (.int 8)) (esC (eK (.int 1)) (esC (eK (.int 1)) (esC (eK (.int 2)) (esC (eK (.int 9)) (esC (eK (.int 0)) (esC (eK (.int 6)) esN)))))))))))))
theorem aAo(X:XX C)(P:Params)(L:Addr):SV C 11 (callEnvC (aX (jZ P)) L 263) (((bH (stA 9)).drop 0).headD (.Pass ⟨0,0,0,0⟩)) (r9 X):=(SV.assign (EV.ifExp (TV.cmp1 (EV.binOp (EV.call (CV.lenM X.km) X.g_len (EVs.cons (EV.nm ⋯) EVs.nil rfl) ⟨.inr ⟨_,_,rfl,rfl⟩,λ_=>rfl⟩ ⋯ ⋯) EV.int OpR.mod) EV.int OpR.eq rfl) (EV.nm ⋯) (EV.binOp (EV.nm ⋯) (EV.list (EVs.cons EV.int (EVs.cons EV.int (EVs.cons EV.int (EVs.cons EV.int (EVs.cons EV.int (EVs.cons EV.int (EVs.cons EV.int (EVs.cons EV.int (EVs.cons EV.int EVs.nil rfl) rfl) rfl) rfl) rfl) rfl) rfl) rfl) rfl)) OpR.add)) (.inl ⋯) rfl)
def r8(X:XX C):SF:=(bP "lines" (eP (b9 C) [".0","x"] (iL (eN "numbers")) (aN "x") (tK true) (eR (aB mB (eN "x") (eK (.int 8))))))
theorem aAn(X:XX C)(P:Params)(L:Addr):SV C 11 (callEnvC (aX (jZ P)) L 263) (((bH (stA 9)).drop 1).headD (.Pass ⟨0,0,0,0⟩)) (r8 X):=(SV.assign (EV.comp ⟨rfl,⋯,⋯,⋯⟩ ⋯ mF.list (IV.list (EV.nm ⋯)) (λ_=>(ALV.name ⋯)) (λ_=>CnV.nil) (λ_=>(BV.last (EV.binOp (EV.nm ⋯) EV.int OpR.mod) rfl)) ⟨trivial,Nat.le_of_ble_eq_true rfl⟩ (λ_=>rfl)) (.inr ⋯) ⋯)
def r7(X:XX C):SF:=(bP "hits" (eP (fV C) [".0","k"] (iR (aO dY (esC (aO cI (esC (eN "lines") esN)) esN))) (aN "k") (aU (tE (aB (bE id) (aB mB (aB aM (eN "lines") (eN "k")) (eK (.int 4))) (eK (.int 0)))) (tK true)) (eR (eN "k"))))
theorem aAm(X:XX C)(P:Params)(L:Addr):SV C 11 (callEnvC (aX (jZ P)) L 263) (((bH (stA 9)).drop 2).headD (.Pass ⟨0,0,0,0⟩)) (r7 X):=(SV.assign (EV.comp ⟨rfl,⋯,⋯,⋯⟩ ⋯ mF.range (IV.range (EV.call CV.range X.g_range (EVs.cons (EV.call (CV.lenM X.km) X.g_len (EVs.cons (EV.nm ⋯) EVs.nil rfl) ⟨.inr ⟨_,_,rfl,rfl⟩,λ_=>rfl⟩ ⋯ ⋯) EVs.nil rfl) ⟨.inr ⟨_,_,rfl,rfl⟩,λ_=>rfl⟩ ⋯ ⋯)) (λ_=>(ALV.name ⋯)) (λ_=>(CnV.cons (TV.cmp1 (EV.binOp (EV.idx (EV.nm ⋯) (EV.nm ⋯) (λ_ _=>⟨_,rfl⟩)) EV.int OpR.mod) EV.int OpR.eq rfl) CnV.nil)) (λ_=>(BV.last (EV.nm ⋯) rfl)) ⟨trivial,Nat.le_of_ble_eq_true rfl⟩ (λ_=>rfl)) (.inr ⋯) ⋯)
def r6(X:XX C):SF:=(cX (bY (esC (dF esN) (esC (dF (esC (eK (.int 0)) esN)) esN))) (dD 2 (asC (aN "others") (asC (aN "places") asN))))
theorem aAl(X:XX C)(P:Params)(L:Addr):SV C 11 (callEnvC (aX (jZ P)) L 263) (((bH (stA 9)).drop 3).headD (.Pass ⟨0,0,0,0⟩)) (r6 X):=(SV.assigns (EV.tuple (EVs.cons (EV.list EVs.nil) (EVs.cons (EV.list (EVs.cons EV.int EVs.nil rfl)) EVs.nil rfl) rfl)) (ALs.one (AV.tupleM X.km (AVs.cons (AV.name (.inr ⋯)) (AVs.cons (AV.name (.inr ⋯)) AVs.nil rfl) rfl) rfl ⋯) rfl) rfl ⋯)
def mM(X:XX C):SF:=(iJ (b9 C) (iL (eN "numbers")) (aN "x") (aA (sIf (tE (aB (bE id) (aB mB (eN "x") (eK (.int 4))) (eK (.int 0)))) (aA (aT (eExt (eN "others") (eP (fV C) [".0","t"] (iR (aO dY (esC (aB aH (eK (.int 1)) (aB mB (aB oDiv (eN "x") (eK (.int 8))) (eK (.int 3)))) esN))) (aN "t") (tK true) (eR (aB aH (aB aH (eK (.int 100)) (aO cI (esC (eN "others") esN))) (eN "t")))))) (sK .next)) (aA (aT (cV (eN "others") (aB mB (eN "x") (eK (.int 8))))) (sK .next))) (aA (aT (cV (eN "places") (aO cI (esC (eN "others") esN)))) (sK .next))))
theorem aAk(X:XX C)(P:Params)(L:Addr):SV C 11 (callEnvC (aX (jZ P)) L 263) (((bH (stA 9)).drop 4).headD (.Pass ⟨0,0,0,0⟩)) (mM X):=(SV.for_ (K:=(b9 C)) (IV.list (EV.nm ⋯)) (AV.name (.inl ⋯)) (SVs.cons (SV.ite (TV.cmp1 (EV.binOp (EV.nm ⋯) EV.int OpR.mod) EV.int OpR.eq rfl) (SVs.cons (SV.expr (EV.extend (EV.nm ⋯) (EV.comp ⟨rfl,⋯,⋯,⋯⟩ ⋯ mF.range (IV.range (EV.call CV.range X.g_range (EVs.cons (EV.binOp EV.int (EV.binOp (EV.binOp (EV.nm ⋯) EV.int OpR.div) EV.int OpR.mod) OpR.add) EVs.nil rfl) ⟨.inr ⟨_,_,rfl,rfl⟩,λ_=>rfl⟩ ⋯ ⋯)) (λ_=>(ALV.name ⋯)) (λ_=>CnV.nil) (λ_=>(BV.last (EV.binOp (EV.binOp EV.int (EV.call (CV.lenM X.km) X.g_len (EVs.cons (EV.nm ⋯) EVs.nil rfl) ⟨.inr ⟨_,_,rfl,rfl⟩,λ_=>rfl⟩ ⋯ ⋯) OpR.add) (EV.nm ⋯) OpR.add) rfl)) ⟨trivial,Nat.le_of_ble_eq_true rfl⟩ (λ_=>rfl)) ⟨rfl,⋯,⋯⟩ rfl) rfl rfl) SVs.nil) (SVs.cons (SV.expr (EV.append (EV.nm ⋯) (EV.binOp (EV.nm ⋯) EV.int OpR.mod) ⟨rfl,⋯,⋯⟩ rfl) rfl rfl) SVs.nil)) (SVs.cons (SV.expr (EV.append (EV.nm ⋯) (EV.call (CV.lenM X.km) X.g_len (EVs.cons (EV.nm ⋯) EVs.nil rfl) ⟨.inr ⟨_,_,rfl,rfl⟩,λ_=>rfl⟩ ⋯ ⋯) ⟨rfl,⋯,⋯⟩ rfl) rfl rfl) SVs.nil)) ⟨trivial,Nat.le_of_ble_eq_true rfl⟩ (λ_=>rfl))
def xJ(X:XX C):SF:=(bP "matcher" (aO X.c_SM4 (esC (eK .none) (esC (eN "lines") (esC (eN "others") (esC (eK (.bool false)) esN))))))
theorem aAj(X:XX C)(P:Params)(L:Addr):SV C 11 (callEnvC (aX (jZ P)) L 263) (((bH (stA 9)).drop 5).headD (.Pass ⟨0,0,0,0⟩)) (xJ X):=(SV.assign (EV.call (X.cv_SM4.lift rfl) X.g_SequenceMatcher (EVs.cons EV.none (EVs.cons (EV.nm ⋯) (EVs.cons (EV.nm ⋯) (EVs.cons EV.bool EVs.nil rfl) rfl) rfl) rfl) ⟨.inr ⟨_,_,rfl,rfl⟩,λ_=>rfl⟩ ⋯ ⋯) (.inl ⋯) rfl)
def rZ(X:XX C):SF:=(iJ (fV C) (iR (aO dY (esC (aO cI (esC (eN "lines") esN)) (esC (dR (eK (.int 1))) (esC (dR (eK (.int 1))) esN))))) (aN "n") (aA (bP "told" (eIf (tE (aB (bE id) (eN "n") (eK (.int 3)))) (gV (bZ X) (eN "matcher") esN) (gV (b7 X) (eN "matcher") (esC (eN "n") esN)))) (aA (sIf (tE (aB (bE not) (aO (lP (nR X.gc 6 X.gv) (λi=>i)) (esC (eN "told") esN)) (eP (b9 C) [".0","block"] (iL (aO (eG X) (esC (aO cI (esC (eN "lines") esN)) (esC (eN "hits") (esC (eN "n") esN))))) (aN "block") (tK true) (eR (aO (eQ X) (esC (eN "block") (esC (eN "hits") (esC (eN "places") esN)))))))) (aA (jB (eK (.bool false))) (sK .next)) (sK .next)) (sK .next))))
theorem aAi(X:XX C)(P:Params)(L:Addr):SV C 11 (callEnvC (aX (jZ P)) L 263) (((bH (stA 9)).drop 6).headD (.Pass ⟨0,0,0,0⟩)) (rZ X):=(SV.for_ (K:=(fV C)) (IV.range (EV.call CV.range X.g_range (EVs.cons (EV.call (CV.lenM X.km) X.g_len (EVs.cons (EV.nm ⋯) EVs.nil rfl) ⟨.inr ⟨_,_,rfl,rfl⟩,λ_=>rfl⟩ ⋯ ⋯) (EVs.cons (EV.neg EV.int) (EVs.cons (EV.neg EV.int) EVs.nil rfl) rfl) rfl) ⟨.inr ⟨_,_,rfl,rfl⟩,λ_=>rfl⟩ ⋯ ⋯)) (AV.name (.inl ⋯)) (SVs.cons (SV.assign (EV.ifExp (TV.cmp1 (EV.nm ⋯) EV.int OpR.eq rfl) (EV.meth X.smc (by decide+kernel) ((gW X).lift rfl) (EV.nm ⋯) EVs.nil ⟨.inl rfl,λ_=>rfl⟩ ⟨rfl,⋯,⋯⟩) (EV.meth X.smc (by decide+kernel) ((hU X).lift rfl) (EV.nm ⋯) (EVs.cons (EV.nm ⋯) EVs.nil rfl) ⟨.inr ⟨_,_,rfl,rfl⟩,λ_=>rfl⟩ ⟨rfl,⋯,⋯⟩)) (.inl ⋯) rfl) (SVs.cons (SV.ite (TV.cmp1 (EV.call (CV.listG X.gc X.gv (Nat.le_of_ble_eq_true rfl)) X.g_list (EVs.cons (EV.nm ⋯) EVs.nil rfl) ⟨.inr ⟨_,_,rfl,rfl⟩,λ_=>rfl⟩ ⋯ ⋯) (EV.comp ⟨rfl,⋯,⋯,⋯⟩ ⋯ mF.list (IV.list (EV.call ((pO X).lift rfl) X.g__law_blocks (EVs.cons (EV.call (CV.lenM X.km) X.g_len (EVs.cons (EV.nm ⋯) EVs.nil rfl) ⟨.inr ⟨_,_,rfl,rfl⟩,λ_=>rfl⟩ ⋯ ⋯) (EVs.cons (EV.nm ⋯) (EVs.cons (EV.nm ⋯) EVs.nil rfl) rfl) rfl) ⟨.inr ⟨_,_,rfl,rfl⟩,λ_=>rfl⟩ ⋯ ⋯)) (λ_=>(ALV.name ⋯)) (λ_=>CnV.nil) (λ_=>(BV.last (EV.call ((uJ X).lift rfl) X.g__law_rows (EVs.cons (EV.nm ⋯) (EVs.cons (EV.nm ⋯) (EVs.cons (EV.nm ⋯) EVs.nil rfl) rfl) rfl) ⟨.inr ⟨_,_,rfl,rfl⟩,λ_=>rfl⟩ ⋯ ⋯) rfl)) ⟨trivial,Nat.le_of_ble_eq_true rfl⟩ (λ_=>rfl)) OpR.ne rfl) (SVs.cons (SV.ret EV.bool) SVs.nil) SVs.nil) SVs.nil)) ⟨trivial,Nat.le_of_ble_eq_true rfl⟩ (λ_=>rfl))
def xI(X:XX C):SF:=(jB (eK (.bool true)))
theorem aAh(X:XX C)(P:Params)(L:Addr):SV C 11 (callEnvC (aX (jZ P)) L 263) (((bH (stA 9)).drop 7).headD (.Pass ⟨0,0,0,0⟩)) (xI X):=(SV.ret EV.bool)
def xK(X:XX C):SF:=(aA (r9 X) (aA (r8 X) (aA (r7 X) (aA (r6 X) (aA (mM X) (aA (xJ X) (aA (rZ X) (aA (xI X) (sK .next)))))))))
theorem sv_law(X:XX C)(P:Params)(L:Addr):SVs C 11 (callEnvC (aX (jZ P)) L 263) (bH (stA 9)) (xK X):=(SVs.cons (aAo X P L) (SVs.cons (aAn X P L) (SVs.cons (aAm X P L) (SVs.cons (aAl X P L) (SVs.cons (aAk X P L) (SVs.cons (aAj X P L) (SVs.cons (aAi X P L) (SVs.cons (aAh X P L) SVs.nil))))))))
def c_law(X:XX C):CF:=lR ["script"] [] (xK X)
theorem cv_law(X:XX C):CV C 12 (.ref 263) (c_law X):=CV.def_ X.d_law ⋯ X.b_law (λ_ _=>.nil) (dW ⋯) (λL=>sv_law X X.w.params L)
end
section
variable {a b c d e f g h i j k l:Int}{m n p q r s t u v w x y:Nat}
theorem Yj0:m<(200:Nat)->((0:Nat)+((((2:Nat)*(Int.toNat (((m:Nat):Int)-(0:Int))))+(1:Nat))+(0:Nat)))<=(1000:Nat):=Z.R 0x400010027e8f40f41f6803da28101102f80000f40006a3d07da00007 [] [m] ⋯ ⋯
theorem Yj1:m<(200:Nat)->((((2:Nat)*(Int.toNat (((m:Nat):Int)-(0:Int))))+(1:Nat))+(0:Nat))<=(1000:Nat):=Z.R 0x100004009fa3d03d07da00f68a040440be000006a3d07da00007 [] [m] ⋯ ⋯
end
section
def av(l:List Int)(i:Int):Int:=l.getD i.toNat 0
def Mt(a b:List Int)(i j k:Int):Prop:=∀ t,0<=t->t<k->av a (i+t)=av b (j+t)
structure Wd where
 al:Int
 ah:Int
 bl:Int
 bh:Int
structure In(a b:List Int)(w:Wd)(i j k:Int):Prop where
 i0:w.al<=i
 i1:i+k<=w.ah
 j0:w.bl<=j
 j1:j+k<=w.bh
 k0:0<=k
 m:Mt a b i j k
def Ge(i j k i' j' k':Int):Prop:=k'<k∨(k'=k/\(i<i'∨(i=i'/\j<=j')))
structure Best(a b:List Int)(w:Wd)(i j k:Int):Prop where
 n:In a b w i j k
 z:k=0->i=w.al/\j=w.bl
 g:∀ i' j' k',In a b w i' j' k'->0<k'->Ge i j k i' j' k'
theorem Ge.anti{i j k i' j' k':Int}(h:Ge i j k i' j' k')(h':Ge i' j' k' i j k):i=i'/\j=j'/\k=k':=by
 rcases h with h |⟨e,h⟩
 ·rcases h' with h' |⟨e',_⟩
  ·exact absurd h (Int.lt_asymm h')
  ·exact absurd h (e'▸Int.lt_irrefl _)
 ·rcases h' with h' |⟨_,h'⟩
  ·exact absurd h' (e▸Int.lt_irrefl _)
  ·rcases h with h |⟨e1,h⟩
   ·rcases h' with h' |⟨e2,_⟩
    ·exact absurd h (Int.lt_asymm h')
    ·exact absurd h (e2▸Int.lt_irrefl _)
   ·rcases h' with h' |⟨_,h'⟩
    ·exact absurd h' (e1▸Int.lt_irrefl _)
    ·exact⟨e1,Int.le_antisymm h h',e.symm⟩
theorem Ge.pos{i j k i' j' k':Int}(h:Ge i j k i' j' k')(h':0<k'):0<k:=by
 rcases h with h |⟨e,_⟩
 ·exact Int.lt_trans h' h
 ·exact e▸h'
theorem Best.uniq{a b:List Int}{w:Wd}{i j k i' j' k':Int}(h:Best a b w i j k)(h':Best a b w i' j' k'):i=i'/\j=j'/\k=k':=by
 refine Or.elim (Int.lt_or_eq_of_le h.n.k0) (λp=>?_) λp=>?_
 ·have q:=h'.g _ _ _ h.n p
  exact(h.g _ _ _ h'.n (q.pos p)).anti q
 ·refine Or.elim (Int.lt_or_eq_of_le h'.n.k0) (λp'=>?_) λp'=>?_
  ·exact absurd ((h.g _ _ _ h'.n p').pos p') (p▸Int.lt_irrefl _)
  ·have z:=h.z p.symm;have z':=h'.z p'.symm
   exact⟨z.1.trans z'.1.symm,z.2.trans z'.2.symm,p.symm.trans p'⟩
structure Suf(a b:List Int)(w:Wd)(i j k:Int):Prop where
 k0:0<=k
 i0:w.al<=i-k+1
 j0:w.bl<=j-k+1
 m:Mt a b (i-k+1) (j-k+1) k
 x:w.al<=i-k->w.bl<=j-k->av a (i-k)≠av b (j-k)
theorem Suf.zero{a b:List Int}{w:Wd}{i j:Int}(hi:w.al<=i+1)(hj:w.bl<=j+1)(x:w.al<=i->w.bl<=j->av a i≠av b j):Suf a b w i j 0:=
 ⟨Int.le_refl _,A128 hi,A128 hj,λt h1 h2=>absurd h2 (Int.not_lt.mpr h1),by simpa using x⟩
theorem Suf.succ{a b:List Int}{w:Wd}{i j k:Int}(h:Suf a b w (i-1) (j-1) k)(e:av a i=av b j):Suf a b w i j (k+1):=by
 have e1:i-(k+1)=i-1-k:=A129
 have e2:j-(k+1)=j-1-k:=A129
 refine⟨Int.add_nonneg h.k0 (by decide),by rw[e1];exact h.i0,by rw[e2];exact h.j0,λt h1 h2=>?_,by rw[e1,e2];exact h.x⟩
 rw [e1,e2]
 by_cases q:t=k
 ·have a1:i-1-k+1+t=i:=A130 q
  have a2:j-1-k+1+t=j:=A131 a1
  rw [a1,a2];exact e
 ·exact h.m t h1 (A132 h2 q)
theorem Suf.max{a b:List Int}{w:Wd}{i j k i' j' k':Int}(h:Suf a b w i j k)(n:In a b w i' j' k')(e1:i'+k'=i+1)(e2:j'+k'=j+1):k'<=k:=by
 refine Int.not_lt.mp λq=>?_
 have k0:=h.k0
 have m:=n.m (k'-1-k) (A133 q) (A134 k0)
 have a1:i'+(k'-1-k)=i-k:=A135 e1
 have a2:j'+(k'-1-k)=j-k:=A135 e2
 rw [a1,a2]at m
 exact h.x (by have:=n.i0;exact A136 q a1 this) (by have:=n.j0;exact A136 q a2 this) m
structure BU(a b:List Int)(w:Wd)(x y i j k:Int):Prop where
 n:In a b w i j k
 z:k=0->i=w.al/\j=w.bl
 e:0<k->i+k<=x∨(i+k=x+1/\j+k<=y)
 g:∀ i' j' k',In a b w i' j' k'->0<k'->(i'+k'<=x∨(i'+k'=x+1/\j'+k'<=y))->Ge i j k i' j' k'
theorem BU.start{a b:List Int}{w:Wd}(h1:w.al<=w.ah)(h2:w.bl<=w.bh):BU a b w w.al w.bl w.al w.bl 0:=by
 refine⟨⟨Int.le_refl _,A137 h1,Int.le_refl _,A137 h2,Int.le_refl _,λt h1 h2=>absurd h2 (Int.not_lt.mpr h1)⟩,λ_=>⟨rfl,rfl⟩,λq=>absurd q (Int.lt_irrefl _),λi' j' k' n q r=>?_⟩
 have:=n.i0;have:=n.j0;omega
theorem BU.skip{a b:List Int}{w:Wd}{x y y' i j k:Int}(h:BU a b w x y i j k)(hy:y<=y')(hn:∀ c,y<=c->c<y'->w.bl<=c->c<w.bh->av a x≠av b c):BU a b w x y' i j k:=by
 refine⟨h.n,h.z,λq=>(h.e q).imp_right λr=>⟨r.1,Int.le_trans r.2 hy⟩,λi' j' k' n q r=>?_⟩
 by_cases p:i'+k'<=x∨(i'+k'=x+1/\j'+k'<=y)
 ·exact h.g i' j' k' n q p
 ·have m:=n.m (k'-1) (A138 q) A139
  have a1:i'+(k'-1)=x:=A140 r p
  rw [a1]at m
  exact absurd m (hn _ (A141 p a1) (A142 r a1) (by have:=n.j0;exact A143 q this) (by have:=n.j1;exact A144 this))
theorem BU.row{a b:List Int}{w:Wd}{x i j k:Int}(h:BU a b w x w.bh i j k):BU a b w (x+1) w.bl i j k:=by
 refine⟨h.n,h.z,λq=>.inl ?_,λi' j' k' n q r=>h.g i' j' k' n q ?_⟩
 ·refine Or.elim (h.e q) (λr=>?_) λr=>?_<;>omega
 ·have:=n.j0;have:=n.j1;omega
theorem BU.at{a b:List Int}{w:Wd}{x y i j k i' j' k':Int}(h:BU a b w x y i j k)(n:In a b w i' j' k')(r:0<k')(t:i'+k'<=x∨(i'+k'=x+1/\j'+k'<=y+1))(u: ¬(i'+k'<=x∨(i'+k'=x+1/\j'+k'<=y))):i'+k'=x+1/\j'+k'=y+1:=by
 rcases t with t |⟨t1,t2⟩
 ·exact absurd (.inl t) u
 ·exact⟨t1,Int.le_antisymm t2 (Int.not_lt.mp λq=>u (.inr ⟨t1,Int.le_of_lt_add_one q⟩))⟩
theorem BU.step{a b:List Int}{w:Wd}{x y i j k k1:Int}(h:BU a b w x y i j k)(s:Suf a b w x y k1)(hx:x<w.ah)(hy:y<w.bh)(p:0<k1):
  BU a b w x (y+1) (if k<k1 then x-k1+1 else i) (if k<k1 then y-k1+1 else j) (if k<k1 then k1 else k):=by
 by_cases q:k<k1
 ·simp only[if_pos q]
  refine⟨⟨s.i0,A145 hx,s.j0,A145 hy,s.k0,s.m⟩,λz=>by exact(A146 p z).elim,λ_=>.inr ⟨A147,A148⟩,λi' j' k' n r t=>?_⟩
  by_cases u:i'+k'<=x∨(i'+k'=x+1/\j'+k'<=y)
  ·rcases h.g i' j' k' n r u with v |⟨v,_⟩
   ·exact .inl (Int.lt_trans v q)
   ·exact .inl (v▸q)
  ·have e:=BU.at h n r t u
   refine Or.elim (Int.lt_or_eq_of_le (s.max n e.1 e.2)) (λv=>?_) λv=>?_
   ·exact .inl v
   ·exact .inr ⟨v,.inr ⟨A149 e v,A150 e v⟩⟩
 ·simp only[if_neg q]
  refine⟨h.n,h.z,λz=>(h.e z).imp_right λr=>⟨r.1,A151 r⟩,λi' j' k' n r t=>?_⟩
  by_cases u:i'+k'<=x∨(i'+k'=x+1/\j'+k'<=y)
  ·exact h.g i' j' k' n r u
  ·have e:=BU.at h n r t u
   have v:=Int.le_trans (s.max n e.1 e.2) (Int.not_lt.mp q)
   refine Or.elim (Int.lt_or_eq_of_le v) (λv=>?_) λv=>?_
   ·exact .inl v
   ·refine .inr ⟨v,?_⟩
    refine Or.elim (h.e (v▸r)) (λz=>?_) λz=>?_
    ·exact .inl (A152 e v z)
    ·exact .inr ⟨A153 e v z,A154 e v z⟩
theorem BU.done{a b:List Int}{w:Wd}{i j k:Int}(h:BU a b w w.ah w.bl i j k):Best a b w i j k:=
 ⟨h.n,h.z,λi' j' k' n q=>h.g i' j' k' n q (.inl n.i1)⟩
def Row(a b:List Int)(w:Wd)(x y:Int)(g:Int->Option Int):Prop:=
 ∀ c,if w.bl<=c/\c<y/\w.al<=x/\av a x=av b c then ∃ k,g c=some k/\Suf a b w x c k else g c=none
theorem Row.skip{a b:List Int}{w:Wd}{x y y':Int}{g:Int->Option Int}(h:Row a b w x y g)(hy:y<=y')(hn:∀ c,y<=c->c<y'->w.bl<=c->av a x≠av b c):Row a b w x y' g:=λc=>by
 have:=h c
 by_cases q:w.bl<=c/\c<y'/\w.al<=x/\av a x=av b c
 ·rw[if_pos q]
  by_cases r:c<y
  ·rwa [if_pos ⟨q.1,r,q.2.2⟩]at this
  ·exact absurd q.2.2.2 (hn c (Int.not_lt.mp r) q.2.1 q.1)
 ·rw[if_neg q]
  rwa [if_neg λr=>q ⟨r.1,A155 hy r,r.2.2⟩]at this
theorem Row.step{a b:List Int}{w:Wd}{x y k:Int}{g:Int->Option Int}(h:Row a b w x y g)(hy:w.bl<=y)(hx:w.al<=x)(e:av a x=av b y)(s:Suf a b w x y k):Row a b w x (y+1) (λc=>if c=y then some k else g c):=λc=>by
 have:=h c
 by_cases q:c=y
 ·subst q
  rw [if_pos ⟨hy,A156,hx,e⟩]
  exact⟨k,if_pos rfl,s⟩
 ·dsimp only
  rw [if_neg q]
  by_cases r:w.bl<=c/\c<y/\w.al<=x/\av a x=av b c
  ·rw[if_pos r]at this
   rw [if_pos ⟨r.1,A157 r,r.2.2⟩];exact this
  ·rw[if_neg r]at this
   rw [if_neg λz=>r ⟨z.1,A158 q z,z.2.2⟩];exact this
theorem Row.next{a b:List Int}{w:Wd}{x y:Int}{g:Int->Option Int}(h:Row a b w (x-1) w.bh g)(hx:w.al<=x)(hy:w.bl<=y)(hy2:y<w.bh)(e:av a x=av b y):Suf a b w x y ((g (y-1)).getD 0+1):=by
 have:=h (y-1)
 refine Suf.succ ?_ e
 by_cases q:w.bl<=y-1/\y-1<w.bh/\w.al<=x-1/\av a (x-1)=av b (y-1)
 ·rw[if_pos q]at this
  refine xEA this λk h1 h2=>?_
  rw [h1];exact h2
 ·rw[if_neg q]at this
  rw [this]
  exact .zero (A159 hx) (A159 hy) λh1 h2 h3=>q ⟨h2,A160 hy2,h1,h3⟩
theorem Row.zero{a b:List Int}{w:Wd}{x y:Int}(h:x<w.al∨y<=w.bl):Row a b w x y (λ_=>none):=λc=>by
 rw [if_neg (A161 h)]
inductive Idx(b:List Int)(v:Int):Int->List Int->Prop
 |nil {lo:Int} (h:∀ c:Int,lo<=c->c<b.length->av b c≠v):Idx b v lo []
 |cons {lo j:Int}{js:List Int} (h:lo<=j) (hl:j<b.length) (e:av b j=v) (n:∀ c:Int,lo<=c->c<j->av b c≠v) (r:Idx b v (j+1) js):Idx b v lo (j :: js)
theorem Idx.no{b:List Int}{v y j:Int}{js:List Int}(h:Idx b v y (j :: js)):∀ c,y<=c->c<j->av b c≠v:=by
 cases h with
 |cons _ _ _ n _=>exact n
end
section
structure WOk(a b:List Int)(w:Wd):Prop where
 a0:0<=w.al
 a1:w.al<=w.ah
 a2:w.ah<=a.length
 b0:0<=w.bl
 b1:w.bl<=w.bh
 b2:w.bh<=b.length
structure T3 where
 i:Int
 j:Int
 k:Int
def gO(w:Wd)(i j:Int)(q:List Wd):List Wd:=if w.al<i/\w.bl<j then⟨w.al,i,w.bl,j⟩ :: q else q
def iH(w:Wd)(i j k:Int)(q:List Wd):List Wd:=if i+k<w.ah/\j+k<w.bh then⟨i+k,w.ah,j+k,w.bh⟩ :: q else q
inductive Run(a b:List Int):List Wd->List T3->List T3->Prop
 |nil {m:List T3}:Run a b [] m m
 |zero {w:Wd}{q:List Wd}{m r:List T3}{i j:Int} (B:Best a b w i j 0) (h:Run a b q m r):Run a b (w :: q) m r
 |pos {w:Wd}{q:List Wd}{m r:List T3}{i j k:Int} (B:Best a b w i j k) (p:0<k) (h:Run a b (iH w i j k (gO w i j q)) (m++[⟨i,j,k⟩]) r):Run a b (w :: q) m r
def wsz(w:Wd):Nat:=2*(w.ah-w.al).toNat+1
def mu:List Wd->Nat
 | []=>0
 |w :: q=>wsz w+mu q
theorem mu_c(w:Wd)(q:List Wd):mu (w :: q)=wsz w+mu q:=rfl
theorem vF:∀ q:List Wd,q.length<=mu q
 | []=>Nat.le_refl _
 |w :: q=>by
  rw [mu_c,List.length_cons,Nat.add_comm]
  exact Nat.add_le_add (Nat.le_add_left _ _) (vF q)
theorem wI{a b:List Int}{w:Wd}{i j k:Int}(h:WOk a b w)(B:Best a b w i j k){q:List Wd}(hq:∀ v∈q,WOk a b v):∀ v∈iH w i j k (gO w i j q),WOk a b v:=by
 have i0:=B.n.i0;have i1:=B.n.i1;have j0:=B.n.j0;have j1:=B.n.j1;have k0:=B.n.k0
 have ik:=Int.add_le_add_left k0 i;have jk:=Int.add_le_add_left k0 j
 rw [Int.add_zero]at ik jk
 have h1:∀ v∈gO w i j q,WOk a b v:=λv hv=>by
  unfold gO at hv
  split at hv
  ·refine Or.elim (List.mem_cons.mp hv) (λe=>?_) λe=>?_
   ·exact e▸⟨h.a0,i0,Int.le_trans ik (Int.le_trans i1 h.a2),h.b0,j0,Int.le_trans jk (Int.le_trans j1 h.b2)⟩
   ·exact hq v e
  ·exact hq v hv
 intro v hv
 unfold iH at hv
 split at hv
 ·refine Or.elim (List.mem_cons.mp hv) (λe=>?_) λe=>?_
  ·exact e▸⟨Int.le_trans h.a0 (Int.le_trans i0 ik),i1,h.a2,Int.le_trans h.b0 (Int.le_trans j0 jk),j1,h.b2⟩
  ·exact h1 v e
 ·exact h1 v hv
theorem mu_sub{a b:List Int}{w:Wd}{i j k:Int}(B:Best a b w i j k)(p:0<k)(q:List Wd):mu (iH w i j k (gO w i j q))+1<=mu (w :: q):=by
 have i0:=B.n.i0;have i1:=B.n.i1
 have e1:mu (gO w i j q)<=2*(i-w.al).toNat+1+mu q:=by
  unfold gO
  split
  ·exact Nat.le_refl _
  ·exact Nat.le_add_left _ _
 have e2:mu (iH w i j k (gO w i j q))<=2*(w.ah-(i+k)).toNat+1+mu (gO w i j q):=by
  unfold iH
  split
  ·exact Nat.le_refl _
  ·exact Nat.le_add_left _ _
 have e3:mu (w :: q)=2*(w.ah-w.al).toNat+1+mu q:=rfl
 exact A183 p i0 i1 e1 e2 e3
def nad(c:T3):List T3->List T3
 | []=>if c.k=0 then [] else [c]
 |x :: xs=>if c.i+c.k=x.i/\c.j+c.k=x.j then nad ⟨c.i,c.j,c.k+x.k⟩ xs else(if c.k=0 then [] else [c])++nad x xs
theorem wW(c:T3):nad c []=if c.k=0 then [] else [c]:=rfl
theorem wX(c x:T3)(xs:List T3):nad c (x :: xs)=if c.i+c.k=x.i/\c.j+c.k=x.j then nad ⟨c.i,c.j,c.k+x.k⟩ xs else(if c.k=0 then [] else [c])++nad x xs:=rfl
end
section
variable {C:Cx}
noncomputable abbrev Nv:=List (Str×Option V)
def look(l:Nv):Lo:=λx=>match l.lookup x with |some o=>o |none=>none
def put(l:Nv)(x:Str)(v:V):Nv:=match l with
 | []=>[(x,some v)]
 | (y,u) :: r=>bif x==y then(y,some v) :: r else(y,u) :: put r x v
theorem put_n(x:Str)(v:V):put [] x v= [(x,some v)]:=rfl
theorem put_c(y:Str)(u:Option V)(r:Nv)(x:Str)(v:V):put ((y,u) :: r) x v=bif x==y then(y,some v) :: r else(y,u) :: put r x v:=rfl
theorem c6(y z:Str)(u:Option V)(r:Nv):((z,u) :: r).lookup y=if y=z then some u else r.lookup y:=by
 rw [List.lookup]
 by_cases h:y=z
 ·subst h;rw[beq_self_eq_true,if_pos rfl]
 ·rw[if_neg h,show (y==z)=false by simpa using h]
theorem m8(x:Str)(v:V)(y:Str):∀ l:Nv,(put l x v).lookup y=if y=x then some (some v) else l.lookup y
 | []=>by rw[put_n,c6]
 | (z,u) :: r=>by
  rw [put_c]
  by_cases h:x=z
  ·subst h
   rw [beq_self_eq_true,cond_true,c6,c6]
   by_cases h2:y=x
   ·rw[if_pos h2,if_pos h2]
   ·rw[if_neg h2,if_neg h2,if_neg h2]
  ·rw[show (x==z)=false by simpa using h,cond_false,c6,c6,m8]
   by_cases h2:y=z
   ·rw[if_pos h2,if_neg (λq=>h (q.symm.trans h2)),if_pos h2]
   ·rw[if_neg h2,if_neg h2]
theorem aD(l:Nv)(x:Str)(v:V):upd (look l) x v=look (put l x v):=by
 funext y
 show(if y=x then some v else _)=match (put l x v).lookup y with |some o=>o |none=>none
 rw [m8]
 by_cases h:y=x
 ·rw[if_pos h,if_pos h]
 ·rw[if_neg h,if_neg h];rfl
theorem kch{A B:Prop}(h:A=B)(b:B):A:=h.mpr b
structure GoK(I:Lo->MH->Prop)(Q K:SK):Prop where
 nx:∀ {lo H},I lo H->K .next lo H
 ct:∀ {lo H},I lo H->K .cont lo H
 br:∀ {lo H},Q .next lo H->K .brk lo H
 rt:∀ {v lo H},Q (.ret v) lo H->K (.ret v) lo H
theorem GoK.loop{I:Lo->MH->Prop}{Q:SK}{again:Lo->MH->SK->Prop}(h:∀ {lo H},I lo H->again lo H Q):GoK I Q (tI again Q):=⟨h,h,id,id⟩
theorem gU{tgt:AF}{body:SF}{r:Nat}{vs:List V}{Q:SK}(Inv:List V->Lo->MH->Prop)(hl:∀ {rest lo H},Inv rest lo H->lst H (.ref r)=some vs)(he:∀ {lo H},Inv [] lo H->Q .next lo H)
  (hs:∀ {v rest lo H K},Inv (v :: rest) lo H->GoK (Inv rest) Q K->tgt v lo H λlo1 H1=>body lo1 H1 K):
  ∀ (rest:List V) (p:Nat){lo:Lo}{H:MH},vs.drop p=rest->Inv rest lo H->cY (b9 C) tgt body (rest.length+1) (r,p) lo H Q
 | [],p,lo,H,hd,h=>by
  refine Lf.mk (p:=none) ?_ (he h)
  show(lst H (.ref r)).map _=_
  rw [hl h,Option.map_some,List.getElem?_eq_none (List.drop_eq_nil_iff.mp hd)];rfl
 |v :: rest,p,lo,H,hd,h=>by
  have hv:vs[p]? =some v:=by rw[<-List.head?_drop,hd];rfl
  refine Lf.mk (p:=some (v,(r,p+1))) ?_ ?_
  ·show(lst H (.ref r)).map _=_
   rw [hl h,Option.map_some,hv];rfl
  ·exact hs h (.loop λh'=>gU Inv hl he hs rest (p+1) (by rw[<-List.drop_drop,hd];rfl) h')
theorem rY{tgt:AF}{body:SF}{e:Int}{Q:SK}(Inv:Int->Lo->MH->Prop)(he:∀ {lo H},Inv e lo H->Q .next lo H)
  (hs:∀ {x lo H K},x<e->Inv x lo H->GoK (Inv (x+1)) Q K->tgt (.int x) lo H λlo1 H1=>body lo1 H1 K):
  ∀ (n:Nat) (x:Int){lo:Lo}{H:MH},x+n=e->Inv x lo H->cY (fV C) tgt body (n+1) (x,n,1) lo H Q
 |0,x,lo,H,hd,h=>by
  have:x=e:=A162 hd
  subst this
  exact he h
 |n+1,x,lo,H,hd,h=>hs (A163 hd) h (.loop λh'=>rY Inv he hs n (x+1) (A164 hd) h')
theorem while_{t:TF}{b:SF}{Q:SK}(Inv:Nat->Lo->MH->Prop)(hs:∀ {m lo H},Inv m lo H->t lo H λc H1=>bif c then ∀ K,GoK (λlo' H'=>∃ m',m'<m/\Inv m' lo' H') Q K->b lo H1 K else Q .next lo H1)
  (mono:∀ {lo H}{P P':Bool->MH->Prop},t lo H P->(∀ c H',P c H'->P' c H')->t lo H P'):
  ∀ (n m:Nat){lo:Lo}{H:MH},m<n->Inv m lo H->runW t b n lo H Q
 |0,_,_,_,hn,_=>absurd hn (Nat.not_lt_zero _)
 |n+1,m,lo,H,hn,h=>mono (hs h) λc H' p=>by
  cases c with
  |true=>exact p _ (.loop fun⟨m',h1,h2⟩=>while_ Inv hs mono n m' (Nat.lt_of_lt_of_le h1 (Nat.le_of_lt_succ hn)) h2)
  |false=>exact p
end
section
variable {C:Cx}
def LI(H:MH)(r:Nat)(l:List Int):Prop:=lst H (.ref r)=some (l.map V.int)
def Hx(H H':MH):Prop:=∀ (i:Nat) (m:MO),H[i]? =some m->H'[i]? =some m
theorem Hx.refl(H:MH):Hx H H:=λ_ _ e=>e
theorem Hx.trans{H1 H2 H3:MH}(a:Hx H1 H2)(b:Hx H2 H3):Hx H1 H3:=λi m e=>b i m (a i m e)
theorem Hx.app(H l:MH):Hx H (H++l):=λi m e=>by
 rw [List.getElem?_append_left (List.getElem?_eq_some_iff.mp e).1];exact e
theorem Hx.set{H H1:MH}{i:Nat}{m:MO}(h:Hx H H1)(hi:H[i]? =none):Hx H (H1.set i m):=λj x e=>by
 have:i≠j:=λq=>by rw[q,e]at hi;cases hi
 rw [List.getElem?_set_ne this];exact h j x e
theorem Hx.lst{H H':MH}{v:V}{vs:List V}(h:Hx H H')(e:lst H v=some vs):lst H' v=some vs:=by
 refine xEA (Option.bind_eq_some_iff.mp e) λi hi e=>?_
 refine xEA (Option.bind_eq_some_iff.mp e) λm hm e=>?_
 exact Option.bind_eq_some_iff.mpr ⟨i,hi,Option.bind_eq_some_iff.mpr ⟨m,h _ _ hm,e⟩⟩
theorem Hx.li{H H':MH}{r:Nat}{l:List Int}(h:Hx H H')(e:LI H r l):LI H' r l:=h.lst e
theorem bW(H:MH)(m:MO):(H++[m])[H.length]? =some m:=by simp
theorem gS(H:MH)(vs:List V):lst (H++[.list vs]) (.ref H.length)=some vs:=by
 show((H++[MO.list vs])[H.length]?).bind _=_
 rw [bW];rfl
theorem aK(H:MH):H[H.length]? =none:=List.getElem?_eq_none (Nat.le_refl _)
def B2J(H:MH)(b:List Int)(f:Int->Option V):Prop:=∀ v,(f v=none/\Idx b v 0 [])∨∃ r js,f v=some (.ref r)/\LI H r js/\Idx b v 0 js
theorem B2J.hx{H H':MH}{b:List Int}{f:Int->Option V}(h:B2J H b f)(e:Hx H H'):B2J H' b f:=λv=>(h v).imp_right fun⟨r,js,h1,h2,h3⟩=>⟨r,js,h1,e.li h2,h3⟩
structure SM(H:MH)(s ra rb rd rj n:Nat)(fs:Str->Option V)(f:Int->Option V)(a b:List Int):Prop where
 o:H[s]? =some (.inst fs)
 fa:fs "a" =some (.ref ra)
 fb:fs "b" =some (.ref rb)
 fd:fs "b2j" =some (.ref rd)
 fj:fs "bjunk" =some (.ref rj)
 ia:LI H ra a
 ib:LI H rb b
 d:H[rd]? =some (.dict n f)
 j:H[rj]? =some .eset
 bj:B2J H b f
 al:a.length<1000000
 bl:b.length<1000000
theorem SM.hx{H H':MH}{s ra rb rd rj n:Nat}{fs:Str->Option V}{f:Int->Option V}{a b:List Int}(h:SM H s ra rb rd rj n fs f a b)(e:Hx H H'):SM H' s ra rb rd rj n fs f a b:=
 ⟨e _ _ h.o,h.fa,h.fb,h.fd,h.fj,e.li h.ia,e.li h.ib,e _ _ h.d,e _ _ h.j,h.bj.hx e,h.al,h.bl⟩
theorem mR{x:Str}{lo:Lo}{H:MH}{Q:EK}{s:Nat}{fs:Str->Option V}{v:V}(h1:lo "self" =some (.ref s))(h2:H[s]? =some (.inst fs))(h3:fs x=some v)(q:Q v H):dV x (eN "self") lo H Q:=
 Lf.mk h1 (Lf.mk (p:=s) rfl (Lf.mk (p:=fs) (by rw[h2];rfl) (Lf.mk h3 q)))
theorem eL:∀ l:Nv,(l.all λp=>p.2.isNone)=true->look l=lo0
 | [],_=>rfl
 | (y,u) :: r,h=>by
  rw [List.all_cons,Bool.and_eq_true]at h
  have ih:=eL r h.2
  funext x
  show(match ((y,u) :: r).lookup x with |some o=>o |none=>none)=none
  rw [c6]
  by_cases q:x=y
  ·rw[if_pos q];exact Option.isNone_iff_eq_none.mp h.1
  ·rw[if_neg q];exact congrFun ih x
theorem u7{f:EF}{g:AF}{lo:Lo}{H:MH}{K:SK}(h:f lo H λv H1=>g v lo H1 λlo' H2=>K .next lo' H2):cX f g lo H K:=h
theorem jJ{x:Str}{f:EF}{lo:Lo}{H:MH}{K:SK}(h:f lo H λv H1=>K .next (upd lo x v) H1):bP x f lo H K:=h
theorem u6{f:EF}{lo:Lo}{H:MH}{K:SK}(h:f lo H λv H1=>K (.ret v) lo H1):jB f lo H K:=h
theorem aP{f g:SF}{lo:Lo}{H:MH}{K:SK}(h:f lo H (bK g K)):aA f g lo H K:=h
theorem pV{t:TF}{f g:SF}{lo:Lo}{H:MH}{K:SK}(h:t lo H λb H1=>bif b then f lo H1 K else g lo H1 K):sIf t f g lo H K:=h
theorem lO{g:EFs}{lo:Lo}{H:MH}{Q:EK}(h:g lo H λvs H1=>vs.length<100/\Q (.tup vs) H1):bY g lo H Q:=h
theorem eLst_i{g:EFs}{lo:Lo}{H:MH}{Q:EK}(h:g lo H λvs H1=>vs.length<1000000/\Q (.ref H1.length) (H1++[.list vs]))(mono:∀ {P P':List V->MH->Prop},g lo H P->(∀ vs H',P vs H'->P' vs H')->g lo H P'):dF g lo H Q:=
 mono h λvs H' ⟨h1,h2⟩=>Lf.mk (p:=(.ref H'.length,H'++[.list vs])) (by rw[mkL,if_pos h1]) h2
theorem rM{lo:Lo}{H:MH}{Q:EK}(h:Q (.ref H.length) (H++[.list []])):dF esN lo H Q:=eLst_i ⟨by decide,h⟩ λp k=>k _ _ p
theorem bL{f:EF}{g:EFs}{lo:Lo}{H:MH}{Q:List V->MH->Prop}(h:f lo H λv H1=>g lo H1 λvs H2=>Q (v :: vs) H2):esC f g lo H Q:=h
theorem iD{lo:Lo}{H:MH}{Q:List V->MH->Prop}(h:Q [] H):esN lo H Q:=h
theorem aY{g:OpF}{f1 f2:EF}{lo:Lo}{H:MH}{Q:EK}(h:f1 lo H λa H1=>f2 lo H1 λb H2=>Lp (g a b H2) Q):aB g f1 f2 lo H Q:=h
theorem kY{g:CF}{fs:EFs}{lo:Lo}{H:MH}{Q:EK}(h:fs lo H λvs H1=>g vs H1 Q):aO g fs lo H Q:=h
theorem fW{v:V}{lo:Lo}{H:MH}{Q:EK}(h:Q v H):eK v lo H Q:=h
theorem b8{x:Str}{lo:Lo}{H:MH}{Q:EK}{v:V}(e:lo x=some v)(h:Q v H):eN x lo H Q:=Lf.mk e h
theorem Lp.mk{o:Option (V×MH)}{Q:EK}{v:V}{H:MH}(e:o=some (v,H))(h:Q v H):Lp o Q:=Lf.mk e h
theorem bd_i{mk:Nat->V}{ok:MO->Bool}{f:EF}{lo:Lo}{H:MH}{Q:EK}(h:f lo H λa H1=>Lf a.rf λi=>Lf H1[i]? λm=>ok m=true/\Q (mk i) H1):eBd mk ok f lo H Q:=h
theorem q6{K:ItK C}{fi:IF K}{tgt:AF}{bf:SF}{lo:Lo}{H:MH}{Q:SK}(h:fi lo H λit H1=>∃ n,cY K tgt bf n it lo H1 Q):iJ K fi tgt bf lo H Q:=h
def fE(s ra rb rd rj nt g:Option V)(al ah bl bh:Int)(bi bj bs i o2 o3 j k:Option V):Nv:=
 [("self",s),("alo",some (.int al)),("ahi",some (.int ah)),("blo",some (.int bl)),("bhi",some (.int bh)),("a",ra),("b",rb),("b2j",rd),("isbjunk",rj),("besti",bi),("bestj",bj),("bestsize",bs),("j2len",g),("nothing",nt),
  ("i",i),("j2lenget",o2),("newj2len",o3),("j",j),("k",k)]
def fN:Nv:=[("self",none),("alo",none),("ahi",none),("blo",none),("bhi",none),("a",none),("b",none),("b2j",none),("isbjunk",none),("besti",none),("bestj",none),("bestsize",none),("j2len",none),("nothing",none),
  ("i",none),("j2lenget",none),("newj2len",none),("j",none),("k",none)]
theorem flm_in(s al ah bl bh):loB ["self","alo","ahi","blo","bhi"] [s,.int al,.int ah,.int bl,.int bh] lo0=look (fE (some s) none none none none none none al ah bl bh none none none none none none none none):=by
 rw [<-eL fN ⋯]
 show upd (upd (upd (upd (upd (look fN) "self" s) "alo" (.int al)) "ahi" (.int ah)) "blo" (.int bl)) "bhi" (.int bh)=_
 rw [aD,aD,aD,aD,aD]
 kernel_rfl
theorem flm_1(X:XX C){H:MH}{s ra rb rd rj n:Nat}{fs:Str->Option V}{f:Int->Option V}{a b:List Int}{al ah bl bh:Int}{K:SK}(h:SM H s ra rb rd rj n fs f a b)
  (k:K .next (look (fE (some (.ref s)) (some (.ref ra)) (some (.ref rb)) (some (.ref rd)) (some (.scon rj)) none none al ah bl bh none none none none none none none none)) H):
  bX X (look (fE (some (.ref s)) none none none none none none al ah bl bh none none none none none none none none)) H K:=by
 unfold bX
 refine u7 (lO (bL (mR ⋯ h.o h.fa (bL (mR ⋯ h.o h.fb (bL (mR ⋯ h.o h.fd (bL (bd_i (mR ⋯ h.o h.fj (Lf.mk (p:=rj) rfl (Lf.mk h.j ⟨rfl,iD ⟨Nat.lt_of_sub_eq_succ rfl,?_⟩⟩))))))))))))
 refine kch (B:=(4=4/\K .next (upd (upd (upd (upd (look (fE (some (.ref s)) none none none none none none al ah bl bh none none none none none none none none)) "a" (.ref ra)) "b" (.ref rb)) "b2j" (.ref rd)) "isbjunk" (.scon rj)) H)) ⋯ ⟨rfl,?_⟩
 rw [aD,aD,aD,aD]
 exact kch ⋯ k
end
section
variable {C:Cx}
structure FC where
 s:Nat
 ra:Nat
 rb:Nat
 rd:Nat
 rj:Nat
 nt:Nat
 w:Wd
def fL(c:FC)(g:Nat)(bi bj bs:Int)(i o2 o3 j k:Option V):Lo:=
 look (fE (some (.ref c.s)) (some (.ref c.ra)) (some (.ref c.rb)) (some (.ref c.rd)) (some (.scon c.rj)) (some (.ref c.nt)) (some (.ref g)) c.w.al c.w.ah c.w.bl c.w.bh (some (.int bi)) (some (.int bj)) (some (.int bs)) i o2 o3 j k)
def sD:SF:=aA (sIf (tE (aB (bQ λx y=>decide (x<y)) (eN "j") (eN "blo"))) (aA (sK .cont) (sK .next)) (sK .next)) (aA (sIf (tE (aB (bQ λx y=>decide (x>=y)) (eN "j") (eN "bhi"))) (aA (sK .brk) (sK .next)) (sK .next)) (aA (cX (aB aH (eCv (eN "j2lenget") (esC (aB cK (eN "j") (eK (.int 1))) (esC (eK (.int 0)) esN))) (eK (.int 1))) (iG (aN "k") (pS (eN "newj2len") (eN "j")))) (aA (sIf (tE (aB (bQ λx y=>decide (x>y)) (eN "k") (eN "bestsize"))) (aA (d5 ["besti","bestj","bestsize"] (bY (esC (aB aH (aB cK (eN "i") (eN "k")) (eK (.int 1))) (esC (aB aH (aB cK (eN "j") (eN "k")) (eK (.int 1))) (esC (eN "k") esN))))) (sK .next)) (sK .next)) (sK .next))))
def colB3:SF:=aA (cX (aB aH (eCv (eN "j2lenget") (esC (aB cK (eN "j") (eK (.int 1))) (esC (eK (.int 0)) esN))) (eK (.int 1))) (iG (aN "k") (pS (eN "newj2len") (eN "j")))) (aA (sIf (tE (aB (bQ λx y=>decide (x>y)) (eN "k") (eN "bestsize"))) (aA (d5 ["besti","bestj","bestsize"] (bY (esC (aB aH (aB cK (eN "i") (eN "k")) (eK (.int 1))) (esC (aB aH (aB cK (eN "j") (eN "k")) (eK (.int 1))) (esC (eN "k") esN))))) (sK .next)) (sK .next)) (sK .next))
def aDr:SF:=aA (sIf (tE (aB (bQ λx y=>decide (x>y)) (eN "k") (eN "bestsize"))) (aA (d5 ["besti","bestj","bestsize"] (bY (esC (aB aH (aB cK (eN "i") (eN "k")) (eK (.int 1))) (esC (aB aH (aB cK (eN "j") (eN "k")) (eK (.int 1))) (esC (eN "k") esN))))) (sK .next)) (sK .next)) (sK .next)
def yP(C:Cx):SF:=aA (bP "j2lenget" (eBd .dget okD (eN "j2len"))) (aA (bP "newj2len" uF) (aA (iJ (b9 C) (iL (eGet (eN "b2j") (aB aM (eN "a") (eN "i")) (eN "nothing"))) (aN "j") sD) (aA (bP "j2len" (eN "newj2len")) (sK .next))))
variable {c:FC}{g gn:Nat}{bi bj bs x:Int}{o1 o2 o3 o4 o5:Option V}{K Q:SK}{H:MH}
theorem aF8{j:Int}:aN "j" (.int j) (fL c g bi bj bs o1 o2 o3 o4 o5) H (λlo1 H1=>sD lo1 H1 K)=sD (fL c g bi bj bs o1 o2 o3 (some (.int j)) o5) H K:=
 congrArg (λlo=>sD lo H K) (aD _ _ _)
theorem col_nf{j:Int}:sD (fL c g bi bj bs o1 o2 o3 (some (.int j)) o5) H K=
  (bif decide (j<c.w.bl) then K .cont (fL c g bi bj bs o1 o2 o3 (some (.int j)) o5) H
   else bif decide (j>=c.w.bh) then K .brk (fL c g bi bj bs o1 o2 o3 (some (.int j)) o5) H
   else colB3 (fL c g bi bj bs o1 o2 o3 (some (.int j)) o5) H K):=by rfl'
theorem vT{i n:Nat}{f:Int->Option V}(h:H[i]? =some (.dict n f)):H[i]?.bind MO.dct=some (n,f):=by rw[h];rfl
theorem col3{j k:Int}{m n:Nat}{f fn:Int->Option V}(hg:H[g]? =some (.dict n f))(hn:H[gn]? =some (.dict m fn))(hm:m<1000000)(hk:(f (j-1)).getD (.int 0)= .int k)
  (h:aDr (fL c g bi bj bs (some (.int x)) (some (.dget g)) (some (.ref gn)) (some (.int j)) (some (.int (k+1)))) (H.set gn (.dict (m+1) (dput fn j (.int (k+1))))) K):
  colB3 (fL c g bi bj bs (some (.int x)) (some (.dget g)) (some (.ref gn)) (some (.int j)) o5) H K:=by
 refine kch (B:=Lf (H[g]?.bind MO.dct) λd=>Lp (aH ((d.2 (j-1)).getD (.int 0)) (.int 1) H) λv H1=>Lf (yR (.ref gn) (.int j) v H1) λH3=>aDr (upd (fL c g bi bj bs (some (.int x)) (some (.dget g)) (some (.ref gn)) (some (.int j)) o5) "k" v) H3 K) ⋯ ?_
 refine Lf.mk (vT hg) (Lp.mk (v:=.int (k+1)) (H:=H) (by rw[hk];rfl) (Lf.mk (p:=H.set gn (.dict (m+1) (dput fn j (.int (k+1))))) ?_ ?_))
 ·show H[gn]?.bind (setO H gn j (.int (k+1)))=_
  rw [hn]
  exact if_pos hm
 ·unfold fL
  rw [aD]
  exact h
theorem col4{j k:Int}(h:K .next (fL c g (if bs<k then x-k+1 else bi) (if bs<k then j-k+1 else bj) (if bs<k then k else bs) (some (.int x)) o2 o3 (some (.int j)) (some (.int k))) H):
  aDr (fL c g bi bj bs (some (.int x)) o2 o3 (some (.int j)) (some (.int k))) H K:=by
 refine kch (B:=(bif decide (k>bs) then((3<100)/\3=3/\K .next (upd (upd (upd (fL c g bi bj bs (some (.int x)) o2 o3 (some (.int j)) (some (.int k))) "bestsize" (.int k)) "bestj" (.int (j-k+1))) "besti" (.int (x-k+1))) H)
  else K .next (fL c g bi bj bs (some (.int x)) o2 o3 (some (.int j)) (some (.int k))) H)) ⋯ ?_
 by_cases q:bs<k
 ·rw[if_pos q,if_pos q,if_pos q]at h
  rw [show decide (k>bs)=true from decide_eq_true q]
  refine⟨by decide,rfl,?_⟩
  unfold fL
  rw [aD,aD,aD]
  exact h
 ·rw[if_neg q,if_neg q,if_neg q]at h
  rw [show decide (k>bs)=false from decide_eq_false q]
  exact h
inductive CI(a b:List Int)(c:FC)(g gn:Nat)(x v:Int)(Hr:MH)(rest:List V)(lo:Lo)(H:MH):Prop
 |mk {js:List Int}{y bi bj bs:Int}{m:Nat}{fn:Int->Option V}{gi:Int->Option Int}{o4 o5:Option V} (er:rest=js.map .int) (el:lo=fL c g bi bj bs (some (.int x)) (some (.dget g)) (some (.ref gn)) o4 o5) (hx:Hx Hr H) (hn:H[gn]? =some (.dict m fn))
   (hm:m+js.length<1000000) (hf:∀ c,fn c=(gi c).map V.int) (row:Row a b c.w x (max c.w.bl y) gi) (bu:BU a b c.w x (max c.w.bl y) bi bj bs) (ix:Idx b v y js) (yb:y<=c.w.bh):CI a b c g gn x v Hr rest lo H
inductive CE(a b:List Int)(c:FC)(g gn:Nat)(x:Int)(Hr:MH)(lo:Lo)(H:MH):Prop
 |mk {bi bj bs:Int}{m:Nat}{fn:Int->Option V}{gi:Int->Option Int}{o4 o5:Option V} (el:lo=fL c g bi bj bs (some (.int x)) (some (.dget g)) (some (.ref gn)) o4 o5) (hx:Hx Hr H) (hn:H[gn]? =some (.dict m fn)) (hf:∀ c,fn c=(gi c).map V.int)
   (row:Row a b c.w x c.w.bh gi) (bu:BU a b c.w x c.w.bh bi bj bs):CE a b c g gn x Hr lo H
theorem CE.of{a b:List Int}{Hr:MH}{lo:Lo}{m:Nat}{fn:Int->Option V}{gi:Int->Option Int}{y:Int}(el:lo=fL c g bi bj bs (some (.int x)) (some (.dget g)) (some (.ref gn)) o4 o5)(hx:Hx Hr H)(hn:H[gn]? =some (.dict m fn))(hf:∀ c,fn c=(gi c).map V.int)
  (row:Row a b c.w x (max c.w.bl y) gi) (bu:BU a b c.w x (max c.w.bl y) bi bj bs) (hn2:∀ z,y<=z->z<c.w.bh->av b z≠av a x) (hb:c.w.bl<=c.w.bh) (yb:y<=c.w.bh):CE a b c g gn x Hr lo H:=by
 have mb:max c.w.bl y<=c.w.bh:=Int.max_le.mpr ⟨hb,yb⟩
 exact .mk el hx hn hf (row.skip mb λz h1 h2 h3 h4=>hn2 z (Int.le_trans (Int.le_max_right _ _) h1) h2 h4.symm) (bu.skip mb λz h1 h2 h3 h4 h5=>hn2 z (Int.le_trans (Int.le_max_right _ _) h1) h2 h5.symm)
theorem Row.pos{a b:List Int}{w:Wd}{x y:Int}{g:Int->Option Int}(h:Row a b w x y g)(c:Int):0<=(g c).getD 0:=by
 have:=h c
 split at this
 ·refine xEA this λk e s=>?_;rw[e];exact s.k0
 ·rw[this];exact Int.le_refl _
theorem aDq{C:Cx}{a b:List Int}{n:Nat}{f:Int->Option V}{g0:Int->Option Int}{v:Int}{Hr:MH}{r:Nat}{js:List Int}{lo:Lo}(hg:Hr[g]? =some (.dict n f))(hf0:∀ c,f c=(g0 c).map V.int)(row0:Row a b c.w (x-1) c.w.bh g0)
  (hgn:Hr[gn]? =none) (hx0:c.w.al<=x) (hx1:x<c.w.ah) (hb:c.w.bl<=c.w.bh) (hbh:c.w.bh<=b.length) (hv:v=av a x) (hr:LI Hr r js) (h:CI a b c g gn x v Hr (js.map .int) lo H) (hQ:∀ {lo H},CE a b c g gn x Hr lo H->Q .next lo H):
  cY (b9 C) (aN "j") sD ((js.map V.int).length+1) (r,0) lo H Q:=by
 subst hv
 refine gU (CI a b c g gn x (av a x) Hr) (λh=>?_) (λh=>?_) (λh G=>?_) _ 0 rfl h
 ·cases h with |mk _ _ hx=>exact hx.li hr
 ·cases h with
  |mk er el hx hn hm hf row bu ix yb=>
   cases List.map_eq_nil_iff.mp er.symm
   cases ix with
   |nil ix=>
   exact hQ (CE.of el hx hn hf row bu (λz h1 h2=>ix z h1 (Int.lt_of_lt_of_le h2 hbh)) hb yb)
 ·cases h with
  | @mk js y bi bj bs m fn gi o4 o5 er el hx hn hm hf row bu ix yb=>
   refine cJ (List.map_eq_cons_iff.mp er.symm) λj js' e1 e2 e3=>?_
   subst e1 e2 e3
   subst el
   refine kch aF8 (kch col_nf ?_)
   have nn:=ix.no
   cases ix with
   |cons h1 hl e _ ix=>
   by_cases q:j<c.w.bl
   ·rw[decide_eq_true q]
    refine G.ct (.mk rfl rfl hx hn (Nat.lt_of_succ_lt hm) hf ?_ ?_ ix (Int.le_trans (Int.add_one_le_of_lt q) hb))
    ·rw[Int.max_eq_left (Int.add_one_le_of_lt q)]
     rwa [Int.max_eq_left (Int.le_of_lt (Int.lt_of_le_of_lt h1 q))]at row
    ·rw[Int.max_eq_left (Int.add_one_le_of_lt q)]
     rwa [Int.max_eq_left (Int.le_of_lt (Int.lt_of_le_of_lt h1 q))]at bu
   ·rw[decide_eq_false q]
    by_cases q2:j>=c.w.bh
    ·rw[decide_eq_true q2]
     exact G.br (hQ (CE.of rfl hx hn hf row bu (λz h1 h2=>nn z h1 (Int.lt_of_lt_of_le h2 q2)) hb yb))
    ·rw[decide_eq_false q2]
     have q:=Int.not_lt.mp q
     have q2:=Int.not_le.mp q2
     have mj:max c.w.bl _<=j:=Int.max_le.mpr ⟨q,h1⟩
     have row2:=row.skip mj λz h1 h2 h3 h4=>nn z (Int.le_trans (Int.le_max_right _ _) h1) h2 h4.symm
     have bu2:=bu.skip mj λz h1 h2 h3 h4 h5=>nn z (Int.le_trans (Int.le_max_right _ _) h1) h2 h5.symm
     have sf:=row0.next hx0 q q2 e.symm
     have hk:(f (j-1)).getD (.int 0)= .int ((g0 (j-1)).getD 0):=by rw[hf0];cases g0 (j-1)<;>rfl
     have k0:0<(g0 (j-1)).getD 0+1:=Int.lt_add_one_of_le (Row.pos row0 _)
     refine col3 (hx _ _ hg) hn (Nat.lt_of_le_of_lt (Nat.le_add_right _ _) hm) hk (col4 (G.nx (.mk rfl rfl (hx.set hgn) (by rw[List.getElem?_set_self (List.getElem?_eq_some_iff.mp hn).1]) ?_ (gi:=λc=>if c=j then some ((g0 (j-1)).getD 0+1) else gi c) ?_ ?_ ?_ ix (Int.add_one_le_of_lt q2))))
     ·exact Nat.lt_of_le_of_lt (Nat.le_of_eq (Nat.add_right_comm _ _ _)) hm
     ·intro z
      unfold dput
      by_cases qz:z=j
      ·rw[if_pos qz,if_pos qz];rfl
      ·rw[if_neg qz,if_neg qz];exact hf z
     ·rw[Int.max_eq_right (Int.le_trans q (Int.le_add_one (Int.le_refl j)))]
      exact row2.step q hx0 e.symm sf
     ·rw[Int.max_eq_right (Int.le_trans q (Int.le_add_one (Int.le_refl j)))]
      exact bu2.step sf hx1 q2 k0
end
section
variable {C:Cx}{c:FC}{g gn:Nat}{bi bj bs x:Int}{o1 o2 o3 o4 o5:Option V}{K Q:SK}{H:MH}{a b:List Int}
theorem eD{x:Int}{n:Nat}(h0:0<=x)(h1:x<n):seqIndex? x n=some x.toNat:=by
 unfold seqIndex?
 rw [if_neg (Int.not_lt.mpr h0)]
 exact if_pos (by rw[decide_eq_true h0,decide_eq_true h1];rfl)
theorem av_get{l:List Int}{x:Int}(h0:0<=x)(h1:x<l.length):(l.map V.int)[x.toNat]? =some (.int (av l x)):=by
 have:=(Int.toNat_lt h0).mpr h1
 unfold av
 rw [List.getElem?_map,List.getD_eq_getElem?_getD,List.getElem?_eq_getElem this];rfl
theorem hF{r:Nat}{l:List Int}{x:Int}(h:LI H r l)(h0:0<=x)(h1:x<l.length)(hl:l.length<1000000):aM (.ref r) (.int x) H=some (.int (av l x),H):=by
 show((lst H (.ref r)).bind (at_ x)).map _=_
 rw [h]
 show(at_ x (l.map V.int)).map _=_
 unfold at_
 rw [if_pos ⟨A165 h0,A166 h1 hl⟩,List.length_map,eD h0 h1]
 show((l.map V.int)[x.toNat]?).map _=_
 rw [av_get h0 h1];rfl
theorem Idx.len{v y:Int}{js:List Int}(h:Idx b v y js)(hy:y<=b.length):y+js.length<=b.length:=by
 induction h with
 |nil _=>simpa using hy
 |cons h1 hl _ _ _ ih=>
  have:=ih (Int.add_one_le_of_lt hl)
  rw [List.length_cons]
  exact A167 h1 this
theorem aE8:aN "i" (.int x) (fL c g bi bj bs o1 o2 o3 o4 o5) H (λlo1 H1=>yP C lo1 H1 K)=yP C (fL c g bi bj bs (some (.int x)) o2 o3 o4 o5) H K:=congrArg (λlo=>yP C lo H K) (aD _ _ _)
def rowB3(C:Cx):SF:=aA (iJ (b9 C) (iL (eGet (eN "b2j") (aB aM (eN "a") (eN "i")) (eN "nothing"))) (aN "j") sD) (aA (bP "j2len" (eN "newj2len")) (sK .next))
theorem row12{n:Nat}{f:Int->Option V}(hg:H[g]? =some (.dict n f))(h:rowB3 C (fL c g bi bj bs (some (.int x)) (some (.dget g)) (some (.ref H.length)) o4 o5) (H++[.dict 0 λ_=>Option.none]) K):
  yP C (fL c g bi bj bs (some (.int x)) o2 o3 o4 o5) H K:=by
 refine kch (B:=Lf H[g]? λm=>okD m=true/\rowB3 C (upd (upd (fL c g bi bj bs (some (.int x)) o2 o3 o4 o5) "j2lenget" (.dget g)) "newj2len" (.ref H.length)) (H++[.dict 0 λ_=>Option.none]) K) ⋯ (Lf.mk hg ⟨rfl,?_⟩)
 unfold fL
 rw [aD,aD]
 exact h
inductive RI(a b:List Int)(c:FC)(H2:MH)(x:Int)(lo:Lo)(H:MH):Prop
 |mk {g n:Nat}{bi bj bs:Int}{f:Int->Option V}{g0:Int->Option Int}{o1 o2 o3 o4 o5:Option V} (el:lo=fL c g bi bj bs o1 o2 o3 o4 o5) (hx:Hx H2 H) (hg:H[g]? =some (.dict n f)) (hf:∀ c,f c=(g0 c).map V.int)
   (row:Row a b c.w (x-1) c.w.bh g0) (bu:BU a b c.w x c.w.bl bi bj bs) (hx0:c.w.al<=x):RI a b c H2 x lo H
theorem aA5{n:Nat}{fs:Str->Option V}{f:Int->Option V}{H2:MH}(h:SM H2 c.s c.ra c.rb c.rd c.rj n fs f a b)(ht:LI H2 c.nt [])(w:WOk a b c.w){lo:Lo}(hx1:x<c.w.ah)(I:RI a b c H2 x lo H)(G:GoK (RI a b c H2 (x+1)) Q K):
  aN "i" (.int x) lo H λlo1 H1=>yP C lo1 H1 K:=by
 cases I with
 | @mk g n0 bi bj bs f0 g0 o1 o2 o3 o4 o5 el hx hg hf row bu hx0=>
 subst el
 refine kch aE8 (row12 hg ?_)
 have hx':Hx H (H++[.dict 0 λ_=>Option.none]):=.app _ _
 have h':=h.hx (hx.trans hx')
 refine kch (B:=(∃ n g,(H++[MO.dict 0 λ_=>Option.none])[c.rd]? =some (.dict n g))/\Lp (aM (.ref c.ra) (.int x) (H++[.dict 0 λ_=>Option.none])) λu H2=>Lf (Ti u) λv=>Lf (H2[c.rd]?.bind MO.dct) λp=>Lf ((p.2 v).getD (.ref c.nt)).rf λi=>(∃ vs,lst H2 (.ref i)=some vs)/\
  ∃ n,cY (b9 C) (aN "j") sD n (i,0) (fL c g bi bj bs (some (.int x)) (some (.dget g)) (some (.ref H.length)) o4 o5) H2 (bK (aA (bP "j2len" (eN "newj2len")) (sK .next)) K)) ⋯ ?_
 refine⟨⟨_,_,h'.d⟩,Lp.mk (hF h'.ia (Int.le_trans w.a0 hx0) (Int.lt_of_lt_of_le hx1 w.a2) h'.al) (Lf.mk (p:=av a x) rfl (Lf.mk (vT h'.d) ?_))⟩
 have fin:∀ {lo H3},CE a b c g H.length x H lo H3->bK (aA (bP "j2len" (eN "newj2len")) (sK .next)) K .next lo H3:=λ{lo H3} e=>by
  cases e with
  | @mk bi bj bs m fn gi o4 o5 el hx3 hn hf3 row3 bu3=>
  subst el
  refine kch (B:=K .next (upd (fL c g bi bj bs (some (.int x)) (some (.dget g)) (some (.ref H.length)) o4 o5) "j2len" (.ref H.length)) H3) ⋯ ?_
  refine G.nx (.mk (g:=H.length) (aD _ _ _) (hx.trans hx3) hn hf3 ?_ bu3.row (Int.le_trans hx0 (Int.le_add_one (Int.le_refl _))))
  rw [Int.add_sub_cancel];exact row3
 have start:∀ {js:List Int},Idx b (av a x) 0 js->CI a b c g H.length x (av a x) H (js.map .int) (fL c g bi bj bs (some (.int x)) (some (.dget g)) (some (.ref H.length)) o4 o5) (H++[.dict 0 λ_=>Option.none]):=λ{js} ix=>
  .mk rfl rfl hx' (bW _ _) (by have:=ix.len (Int.natCast_nonneg _);have:=h.bl;omega) (gi:=λ_=>Option.none) (λ_=>rfl) (.zero (.inr (Int.max_le.mpr ⟨Int.le_refl _,w.b0⟩))) (by rw[Int.max_eq_left w.b0];exact bu) ix (Int.le_trans w.b0 w.b1)
 have go:∀ {r:Nat}{js:List Int},LI H r js->Idx b (av a x) 0 js->Lf (V.ref r).rf λi=>(∃ vs,lst (H++[MO.dict 0 λ_=>Option.none]) (.ref i)=some vs)/\
   ∃ n,cY (b9 C) (aN "j") sD n (i,0) (fL c g bi bj bs (some (.int x)) (some (.dget g)) (some (.ref H.length)) o4 o5) (H++[.dict 0 λ_=>Option.none]) (bK (aA (bP "j2len" (eN "newj2len")) (sK .next)) K):=λhr ix=>
  ⟨⟨_,hx'.li hr⟩,_,aDq hg hf row (aK H) hx0 hx1 w.b1 w.b2 rfl hr (start ix) fin⟩
 rcases h.bj (av a x) with ⟨e,ix⟩ |⟨r,js,e,hr,ix⟩
 ·show Lf ((f (av a x)).getD (.ref c.nt)).rf _
  rw [e];exact go (hx.li ht) ix
 ·show Lf ((f (av a x)).getD (.ref c.nt)).rf _
  rw [e];exact go (hx.li hr) ix
end
section
variable {C:Cx}{c:FC}{g gn:Nat}{bi bj bs x:Int}{o1 o2 o3 o4 o5:Option V}{K Q:SK}{H:MH}{a b:List Int}
theorem aF1(H:MH)(x y:Int):eqv H (.int x) (.int y)=some (decide (x=y)):=by rfl'
theorem flm_26(X:XX C)(R:SF){s ra rb rd rj:Nat}{al ah bl bh:Int}(h:R (fL ⟨s,ra,rb,rd,rj,H.length+1,⟨al,ah,bl,bh⟩⟩ H.length al bl 0 none none none none none) ((H++[.dict 0 λ_=>Option.none])++[.list []]) K):
  aA (cT X) (aA (cS X) (aA (cR X) (aA (cQ X) (aA (cP X) R))))
   (look (fE (some (.ref s)) (some (.ref ra)) (some (.ref rb)) (some (.ref rd)) (some (.scon rj)) none none al ah bl bh none none none none none none none none)) H K:=by
 refine kch (B:=(3<100/\3=3/\R (upd (upd (upd (upd (upd (look (fE (some (.ref s)) (some (.ref ra)) (some (.ref rb)) (some (.ref rd)) (some (.scon rj)) none none al ah bl bh none none none none none none none none)) "bestsize" (.int 0)) "bestj" (.int bl)) "besti" (.int al)) "j2len" (.ref H.length)) "nothing" (.ref (H++[MO.dict 0 λ_=>Option.none]).length)) ((H++[.dict 0 λ_=>Option.none])++[.list []]) K)) ⋯ ⟨by decide,rfl,?_⟩
 rw [aD,aD,aD,aD,aD,show (H++[MO.dict 0 λ_=>Option.none]).length=H.length+1 from by simp]
 exact h
theorem flm_7(X:XX C){n:Nat}{fs:Str->Option V}{f:Int->Option V}(h:SM H c.s c.ra c.rb c.rd c.rj n fs f a b)(ht:LI H c.nt [])(hg:H[g]? =some (.dict 0 λ_=>Option.none))(w:WOk a b c.w)
  (k:∀ {g bi bj bs o1 o2 o3 o4 o5 H'},Hx H H'->Best a b c.w bi bj bs->K .next (fL c g bi bj bs o1 o2 o3 o4 o5) H'):cN X (fL c g c.w.al c.w.bl 0 none none none none none) H K:=by
 refine kch (B:=(rOk c.w.al c.w.ah 1=true/\∃ n,cY (fV C) (aN "i") (yP C) n (c.w.al,pH c.w.al c.w.ah 1,1) (fL c g c.w.al c.w.bl 0 none none none none none) H K)) ⋯ ⟨?_,_,rY (e:=c.w.ah) (RI a b c H) (λr=>?_) (λhx r G=>aA5 h ht w hx r G) _ _ ?_ (.mk rfl (.refl H) hg (λ_=>rfl) (g0:=λ_=>Option.none) (.zero (.inl (Int.sub_one_lt_of_le (Int.le_refl _)))) (.start w.a1 w.b1) (Int.le_refl _))⟩
 ·have:=w.a0;have:=w.a1;have:=w.a2;have:=h.al
  unfold rOk
  rw [decide_eq_true (by omega: -1000000<c.w.al),decide_eq_true (by omega:c.w.al<1000000),decide_eq_true (by omega: -1000000<c.w.ah),decide_eq_true (by omega:c.w.ah<1000000)]
  rfl
 ·cases r with
  |mk el hx hg hf row bu hx0=>
   subst el
   exact k hx bu.done
 ·show c.w.al+((c.w.ah-c.w.al).toNat:Int)=c.w.ah
  have:=w.a1;exact A168 this
theorem ab_eq{ra rb:Nat}{i j:Int}{Q:Bool->MH->Prop}(ha:LI H ra a)(hb:LI H rb b)(al:a.length<1000000)(bl:b.length<1000000)(i0:0<=i)(i1:i<a.length)(j0:0<=j)(j1:j<b.length)(q:Q (decide (av a i=av b j)) H):
  Lp (aM (.ref ra) (.int i) H) λa H2=>Lp (aM (.ref rb) (.int j) H2) λb H3=>Lp (bE id a b H3) λv H4=>Lf (tr v H4) λc=>Q c H4:=
 Lp.mk (hF ha i0 i1 al) (Lp.mk (hF hb j0 j1 bl) (Lp.mk (v:=.bool (decide (av a i=av b j))) (H:=H) ⋯ (Lf.mk (p:=decide (av a i=av b j)) rfl q)))
theorem Best.left{w:Wd}{i j k:Int}(h:Best a b w i j k)(hi:w.al<i)(hj:w.bl<j):av a (i-1)≠av b (j-1):=λe=>by
 have n:=h.n
 have i0:=n.i0;have i1:=n.i1;have j0:=n.j0;have j1:=n.j1;have k0:=n.k0
 have g:=h.g (i-1) (j-1) (k+1) ⟨A169 hi,A170 i1,A169 hj,A170 j1,A171 k0,λt h1 h2=>?_⟩ (A172 k0)
 ·rcases g with g |⟨g,_⟩<;>omega
 ·by_cases q:t=0
  ·rw[q,Int.add_zero,Int.add_zero];exact e
  ·have:=n.m (t-1) (A173 h1 q) (A174 h2)
   rw [show i-1+t=i+(t-1) from A175,show j-1+t=j+(t-1) from A175];exact this
theorem Best.right{w:Wd}{i j k:Int}(h:Best a b w i j k)(hi:i+k<w.ah)(hj:j+k<w.bh):av a (i+k)≠av b (j+k):=λe=>by
 have n:=h.n
 have i0:=n.i0;have i1:=n.i1;have j0:=n.j0;have j1:=n.j1;have k0:=n.k0
 have g:=h.g i j (k+1) ⟨A176 i0,A177 hi,A176 j0,A177 hj,A171 k0,λt h1 h2=>?_⟩ (A172 k0)
 ·rcases g with g |⟨g,_⟩<;>omega
 ·by_cases q:t=k
  ·rw[q];exact e
  ·exact n.m t h1 (A132 h2 q)
theorem flm_8(X:XX C){n:Nat}{fs:Str->Option V}{f:Int->Option V}(h:SM H c.s c.ra c.rb c.rd c.rj n fs f a b)(w:WOk a b c.w)(B:Best a b c.w bi bj bs)(k:K .next (fL c g bi bj bs o1 o2 o3 o4 o5) H):
  cM X (fL c g bi bj bs o1 o2 o3 o4 o5) H K:=by
 refine⟨1,kch (B:=(bif decide (bi>c.w.al) then bif decide (bj>c.w.bl) then Lp (aM (.ref c.rb) (.int (bj-1)) H) λv H1=>Lf ((one [v]).bind Ti) λk=>H1[c.rj]? =some .eset/\
  (Lp (aM (.ref c.ra) (.int (bi-1)) H1) λa H2=>Lp (aM (.ref c.rb) (.int (bj-1)) H2) λb H3=>Lp (bE id a b H3) λv H4=>Lf (tr v H4) λt=>bif t then
   aA (d5 ["besti","bestj","bestsize"] (bY (esC (aB cK (eN "besti") (eK (.int 1))) (esC (aB cK (eN "bestj") (eK (.int 1))) (esC (aB aH (eN "bestsize") (eK (.int 1))) esN))))) (sK .next) (fL c g bi bj bs o1 o2 o3 o4 o5) H4 (tI (λ_ _ _=>False) K)
   else K .next (fL c g bi bj bs o1 o2 o3 o4 o5) H4) else K .next (fL c g bi bj bs o1 o2 o3 o4 o5) H else K .next (fL c g bi bj bs o1 o2 o3 o4 o5) H)) ⋯ ?_⟩
 have i1:=B.n.i1;have j1:=B.n.j1;have k0:=B.n.k0;have a0:=w.a0;have a2:=w.a2;have b0:=w.b0;have b2:=w.b2
 by_cases q1:c.w.al<bi
 ·rw[decide_eq_true q1,cond_true]
  by_cases q2:c.w.bl<bj
  ·rw[decide_eq_true q2,cond_true]
   refine Lp.mk (hF h.ib (A178 b0 q2) (A179 j1 k0 b2) h.bl) (Lf.mk (p:=av b (bj-1)) rfl ?_)
   refine⟨h.j,ab_eq (Q:=λt H4=>bif t then _ else _) h.ia h.ib h.al h.bl (A178 a0 q1) (A179 i1 k0 a2) (A178 b0 q2) (A179 j1 k0 b2) ?_⟩
   rw [decide_eq_false (B.left q1 q2)]
   exact k
  ·rw[decide_eq_false q2];exact k
 ·rw[decide_eq_false q1];exact k
theorem flm_9(X:XX C){n:Nat}{fs:Str->Option V}{f:Int->Option V}(h:SM H c.s c.ra c.rb c.rd c.rj n fs f a b)(w:WOk a b c.w)(B:Best a b c.w bi bj bs)(k:K .next (fL c g bi bj bs o1 o2 o3 o4 o5) H):
  cL X (fL c g bi bj bs o1 o2 o3 o4 o5) H K:=by
 refine⟨1,kch (B:=(bif decide (bi+bs<c.w.ah) then bif decide (bj+bs<c.w.bh) then Lp (aM (.ref c.rb) (.int (bj+bs)) H) λv H1=>Lf ((one [v]).bind Ti) λk=>H1[c.rj]? =some .eset/\
  (Lp (aM (.ref c.ra) (.int (bi+bs)) H1) λa H2=>Lp (aM (.ref c.rb) (.int (bj+bs)) H2) λb H3=>Lp (bE id a b H3) λv H4=>Lf (tr v H4) λt=>bif t then
   aA (sAug "bestsize" yS (eK (.int 1))) (sK .next) (fL c g bi bj bs o1 o2 o3 o4 o5) H4 (tI (λ_ _ _=>False) K)
   else K .next (fL c g bi bj bs o1 o2 o3 o4 o5) H4) else K .next (fL c g bi bj bs o1 o2 o3 o4 o5) H else K .next (fL c g bi bj bs o1 o2 o3 o4 o5) H)) ⋯ ?_⟩
 have i0:=B.n.i0;have j0:=B.n.j0;have i1:=B.n.i1;have j1:=B.n.j1;have k0:=B.n.k0;have a0:=w.a0;have a2:=w.a2;have b0:=w.b0;have b2:=w.b2
 by_cases q1:bi+bs<c.w.ah
 ·rw[decide_eq_true q1,cond_true]
  by_cases q2:bj+bs<c.w.bh
  ·rw[decide_eq_true q2,cond_true]
   refine Lp.mk (hF h.ib (A180 j0 k0 b0) (A181 b2 q2) h.bl) (Lf.mk (p:=av b (bj+bs)) rfl ?_)
   refine⟨h.j,ab_eq (Q:=λt H4=>bif t then _ else _) h.ia h.ib h.al h.bl (A180 i0 k0 a0) (A181 a2 q1) (A180 j0 k0 b0) (A181 b2 q2) ?_⟩
   rw [decide_eq_false (B.right q1 q2)]
   exact k
  ·rw[decide_eq_false q2];exact k
 ·rw[decide_eq_false q1];exact k
theorem flm_10(X:XX C){n:Nat}{fs:Str->Option V}{f:Int->Option V}(h:SM H c.s c.ra c.rb c.rd c.rj n fs f a b)(w:WOk a b c.w)(B:Best a b c.w bi bj bs)(k:K .next (fL c g bi bj bs o1 o2 o3 o4 o5) H):
  cH X (fL c g bi bj bs o1 o2 o3 o4 o5) H K:=by
 refine⟨1,kch (B:=(bif decide (bi>c.w.al) then bif decide (bj>c.w.bl) then Lp (aM (.ref c.rb) (.int (bj-1)) H) λv H1=>Lf ((one [v]).bind Ti) λk=>H1[c.rj]? =some .eset/\
  (K .next (fL c g bi bj bs o1 o2 o3 o4 o5) H1) else K .next (fL c g bi bj bs o1 o2 o3 o4 o5) H else K .next (fL c g bi bj bs o1 o2 o3 o4 o5) H)) ⋯ ?_⟩
 have i0:=B.n.i0;have j0:=B.n.j0;have i1:=B.n.i1;have j1:=B.n.j1;have k0:=B.n.k0;have a0:=w.a0;have a2:=w.a2;have b0:=w.b0;have b2:=w.b2
 by_cases q1:bi>c.w.al
 ·rw[decide_eq_true q1,cond_true]
  by_cases q2:bj>c.w.bl
  ·rw[decide_eq_true q2,cond_true]
   refine Lp.mk (hF h.ib (A178 b0 q2) (A179 j1 k0 b2) h.bl) (Lf.mk (p:=av b (bj-1)) rfl ?_)
   exact⟨h.j,k⟩
  ·rw[decide_eq_false q2];exact k
 ·rw[decide_eq_false q1];exact k
theorem flm_11(X:XX C){n:Nat}{fs:Str->Option V}{f:Int->Option V}(h:SM H c.s c.ra c.rb c.rd c.rj n fs f a b)(w:WOk a b c.w)(B:Best a b c.w bi bj bs)(k:K .next (fL c g bi bj bs o1 o2 o3 o4 o5) H):
  cG X (fL c g bi bj bs o1 o2 o3 o4 o5) H K:=by
 refine⟨1,kch (B:=(bif decide (bi+bs<c.w.ah) then bif decide (bj+bs<c.w.bh) then Lp (aM (.ref c.rb) (.int (bj+bs)) H) λv H1=>Lf ((one [v]).bind Ti) λk=>H1[c.rj]? =some .eset/\
  (K .next (fL c g bi bj bs o1 o2 o3 o4 o5) H1) else K .next (fL c g bi bj bs o1 o2 o3 o4 o5) H else K .next (fL c g bi bj bs o1 o2 o3 o4 o5) H)) ⋯ ?_⟩
 have i0:=B.n.i0;have j0:=B.n.j0;have i1:=B.n.i1;have j1:=B.n.j1;have k0:=B.n.k0;have a0:=w.a0;have a2:=w.a2;have b0:=w.b0;have b2:=w.b2
 by_cases q1:bi+bs<c.w.ah
 ·rw[decide_eq_true q1,cond_true]
  by_cases q2:bj+bs<c.w.bh
  ·rw[decide_eq_true q2,cond_true]
   refine Lp.mk (hF h.ib (A180 j0 k0 b0) (A181 b2 q2) h.bl) (Lf.mk (p:=av b (bj+bs)) rfl ?_)
   exact⟨h.j,k⟩
  ·rw[decide_eq_false q2];exact k
 ·rw[decide_eq_false q1];exact k
theorem flm_ok(X:XX C){s ra rb rd rj n:Nat}{fs:Str->Option V}{f:Int->Option V}{al ah bl bh:Int}{Q:EK}(h:SM H s ra rb rd rj n fs f a b)(w:WOk a b ⟨al,ah,bl,bh⟩)
  (k:∀ {i j k H'},Hx H H'->Best a b ⟨al,ah,bl,bh⟩ i j k->Q (.mat i j k) H'):bU X [.ref s,.int al,.int ah,.int bl,.int bh] H Q:=by
 refine⟨rfl,?_⟩
 show c4 X (loB ["self","alo","ahi","blo","bhi"] [.ref s,.int al,.int ah,.int bl,.int bh] lo0) H (m6 Q)
 rw [flm_in]
 refine flm_1 X h (flm_26 X _ ?_)
 have e:=(Hx.app H [.dict 0 λ_=>Option.none]).trans (Hx.app _ [.list []])
 have h1:=h.hx e
 refine flm_7 X (c:=⟨s,ra,rb,rd,rj,H.length+1,⟨al,ah,bl,bh⟩⟩) h1 ?_ ?_ w λ{g bi bj bs o1 o2 o3 o4 o5 H'} e1 B=>?_
 ·have:=gS (H++[.dict 0 λ_=>Option.none]) []
  rw [List.length_append]at this
  exact this
 ·exact Hx.app _ _ _ _ (bW H _)
 have h2:=h1.hx e1
 exact flm_8 X h2 w B (flm_9 X h2 w B (flm_10 X h2 w B (flm_11 X h2 w B (kch (B:=Q (.mat bi bj bs) H') ⋯ (k (e.trans e1) B)))))
end
section
variable {C:Cx}
theorem bN{P Q:Prop}(h:Q):bif false then P else Q:=h
theorem b5{P Q:Prop}(h:P):bif true then P else Q:=h
theorem aCe{H:MH}{s:Nat}{fs:Str->Option V}(h:H[s]? =some (.inst fs)):H[s]?.bind MO.ins=some fs:=by rw[h];rfl
theorem aG{H:MH}{i:Nat}{m:MO}(h:H[i]? =some m)(m':MO):(H.set i m')[i]? =some m':=by
 rw [List.getElem?_set_self (List.getElem?_eq_some_iff.mp h).1]
theorem aF{H:MH}{i j:Nat}{m m':MO}(h:H[j]? =some m)(n:i≠j):(H.set i m')[j]? =some m:=by
 rw [List.getElem?_set_ne n];exact h
def St(s:Nat)(x:Str)(v:V)(H:MH)(k:MH->Prop):Prop:=Lf (H[s]?.bind MO.ins) λfs=>k (H.set s (.inst (fput fs x v)))
def At(s:Nat)(x:Str)(H:MH)(k:V->Prop):Prop:=Lf (H[s]?.bind MO.ins) λfs=>Lf (fs x) k
theorem St.mk{s:Nat}{x:Str}{v:V}{H:MH}{k:MH->Prop}{fs:Str->Option V}(h:H[s]? =some (.inst fs))(q:k (H.set s (.inst (fput fs x v)))):St s x v H k:=Lf.mk (aCe h) q
theorem At.mk{s:Nat}{x:Str}{v:V}{H:MH}{k:V->Prop}{fs:Str->Option V}(h:H[s]? =some (.inst fs))(e:fs x=some v)(q:k v):At s x H k:=Lf.mk (aCe h) (Lf.mk e q)
def fs1(fs:Str->Option V)(r:Nat):Str->Option V:=fput (fput (fput fs "a" (.ref r)) "matching_blocks" .none) "opcodes" .none
theorem sX(X:XX C){H:MH}{s ra:Nat}{fs:Str->Option V}{Q:EK}(h:H[s]? =some (.inst fs))(ha:fs "a" =some .none)(k:Q .none (H.set s (.inst (fs1 fs ra)))):hZ X [.ref s,.ref ra] H Q:=by
 refine kch (B:=(2=2/\At s "a" H λv=>Lp (oIs id (.ref ra) v H) λv H1=>Lf (tr v H1) λb=>bif b then Q .none H1 else St s "a" (.ref ra) H1 λH2=>St s "matching_blocks" .none H2 λH3=>St s "opcodes" .none H3 λH4=>Q .none H4)) ⋯
  ⟨rfl,At.mk h ha (Lp.mk (v:=.bool false) (H:=H) rfl (Lf.mk (p:=false) rfl (bN (St.mk h (St.mk (aG h _) (St.mk (aG (aG h _) _) ?_))))))⟩
 rw [List.set_set,List.set_set];exact k
def fs2(fs:Str->Option V)(r:Nat):Str->Option V:=fput (fput (fput (fput fs "b" (.ref r)) "matching_blocks" .none) "opcodes" .none) "fullbcount" .none
theorem sW(X:XX C){H:MH}{s rb:Nat}{fs:Str->Option V}{Q:EK}(h:H[s]? =some (.inst fs))(ha:fs "b" =some .none)(k:eM X [.ref s] (H.set s (.inst (fs2 fs rb))) λ_ H'=>Q .none H'):hY X [.ref s,.ref rb] H Q:=by
 refine kch (B:=(2=2/\At s "b" H λv=>Lp (oIs id (.ref rb) v H) λv H1=>Lf (tr v H1) λb=>bif b then Q .none H1 else St s "b" (.ref rb) H1 λH2=>St s "matching_blocks" .none H2 λH3=>St s "opcodes" .none H3 λH4=>St s "fullbcount" .none H4 λH5=>(∃ ff,H5[s]? =some (.inst ff))/\eM X [.ref s] H5 λ_ H'=>Q .none H')) ⋯
  ⟨rfl,At.mk h ha (Lp.mk (v:=.bool false) (H:=H) rfl (Lf.mk (p:=false) rfl (bN (St.mk h (St.mk (aG h _) (St.mk (aG (aG h _) _) (St.mk (aG (aG (aG h _) _) _) ?_)))))))⟩
 rw [List.set_set,List.set_set,List.set_set];exact⟨⟨_,aG h _⟩,k⟩
def js(b:List Int)(v:Int):Nat->List Int
 |0=>[]
 |p+1=>js b v p++if av b p=v then [(p:Int)] else []
theorem js_c(b:List Int)(v:Int)(p:Nat):js b v (p+1)=js b v p++if av b p=v then [(p:Int)] else []:=rfl
theorem Idx.low{b js:List Int}{v lo:Int}(h:Idx b v (lo+1) js)(e:av b lo≠v):Idx b v lo js:=by
 have go:∀ c:Int,lo<=c->(lo+1<=c->av b c≠v)->av b c≠v:=λc h1 h2=>by
  rcases Int.lt_or_eq_of_le h1 with q |q
  ·exact h2 q
  ·exact q▸e
 cases h with
 |nil n=>exact .nil λc h1 h2=>go c h1 λq=>n c q h2
 |cons h1 h2 h3 n r=>exact .cons (Int.le_trans (Int.le_add_one (Int.le_refl _)) h1) h2 h3 (λc a b=>go c a λq=>n c q b) r
theorem aB9{b:List Int}{v:Int}:∀ {p:Nat}{rest:List Int},p<=b.length->Idx b v p rest->Idx b v 0 (js b v p++rest)
 |0,_,_,h=>h
 |p+1,rest,hp,h=>by
  rw [js_c,List.append_assoc]
  refine aB9 (Nat.le_of_succ_le hp) ?_
  by_cases q:av b p=v
  ·rw[if_pos q]
   exact .cons (Int.le_refl _) (Int.ofNat_lt.mpr hp) q (λc h1 h2=>absurd h2 (Int.not_lt.mpr h1)) h
  ·rw[if_neg q]
   exact Idx.low h q
structure Bk(B:MH)(s rd:Nat)(b:List Int)(p:Nat)(f:Int->Option V)(H:MH):Prop where
 g:∀ v,(f v=none/\js b v p= [])∨∃ r,f v=some (.ref r)/\H[r]? =some (.list ((js b v p).map V.int))/\B[r]? =none/\r≠s/\r≠rd
 i:∀ v v' r,f v=some (.ref r)->f v'=some (.ref r)->v=v'
theorem Hx.fresh{B H:MH}(h:Hx B H):B[H.length]? =none:=by
 cases e:B[H.length]? with
 |none=>rfl
 |some m=>exact absurd (h _ _ e) (by rw[aK];nofun)
theorem aR{H:MH}{i:Nat}{m:MO}(h:H[i]? =some m):H.length≠i:=λq=>by rw[<-q,aK]at h;cases h
def fB(s rb rd i elt ind:Option V):Nv:=[("self",s),("b",rb),("b2j",rd),("i",i),("elt",elt),("indices",ind)]
inductive CBI(B:MH)(s rb rd:Nat)(fs:Str->Option V)(b:List Int)(p:Nat)(lo:Lo)(H:MH):Prop
 |mk {n:Nat}{f:Int->Option V}{o1 o2 o3:Option V} (el:lo=look (fB (some (.ref s)) (some (.ref rb)) (some (.ref rd)) o1 o2 o3)) (hx:Hx B H) (ho:H[s]? =some (.inst fs)) (hd:H[rd]? =some (.dict n f)) (hn:n<=p) (bk:Bk B s rd b p f H):CBI B s rb rd fs b p lo H
theorem wU{P:Option (V×(Nat×Nat))->MH->Prop}{r p:Nat}{vs:List V}{H:MH}{o:Option V}(hl:lst H (.ref r)=some vs)(e:vs[p]? =o)(h:P (o.map λv=>(.tup [.int p,v],(r,p+1))) H):(qD C).nx (r,p) H P:=
 Lf.mk hl (by subst e;exact h)
theorem tR{tgt:AF}{body:SF}{r:Nat}{vs:List V}{Q:SK}(Inv:Nat->Lo->MH->Prop)(hl:∀ {p lo H},Inv p lo H->lst H (.ref r)=some vs)(he:∀ {lo H},Inv vs.length lo H->Q .next lo H)
  (hs:∀ {p v lo H K},vs[p]? =some v->Inv p lo H->GoK (Inv (p+1)) Q K->tgt (.tup [.int p,v]) lo H λlo1 H1=>body lo1 H1 K):
  ∀ (k p:Nat){lo:Lo}{H:MH},p+k=vs.length->Inv p lo H->cY (qD C) tgt body (k+1) (r,p) lo H Q
 |0,p,lo,H,hd,h=>by
  refine wU (o:=none) (hl h) (List.getElem?_eq_none (Nat.le_of_eq hd.symm)) ?_
  have e:p=vs.length:=hd
  subst e
  exact he h
 |k+1,p,lo,H,hd,h=>by
  have hp:p<vs.length:=A106 hd
  exact wU (o:=some vs[p]) (hl h) (List.getElem?_eq_getElem hp) (hs (List.getElem?_eq_getElem hp) h (.loop λh'=>tR Inv hl he hs k (p+1) (A109 hd) h'))
def chB:SF:=aA (bP "indices" (aDi (eN "b2j") (eN "elt") (dF esN))) (aA (aT (cV (eN "indices") (eN "i"))) (sK .next))
def chT:AF:=dD 2 (asC (aN "i") (asC (aN "elt") asN))
section
variable {B:MH}{s rb rd:Nat}{fs:Str->Option V}{b:List Int}{p:Nat}{H:MH}
theorem Bk.old{f:Int->Option V}{r:Nat}{G:MH}(h:Bk B s rd b p f H)(hx:Hx H G)(e:f (av b p)=some (.ref r))(hs:H[s]? =some (.inst fs)):Bk B s rd b (p+1) f (G.set r (.list ((js b (av b p) p++[(p:Int)]).map V.int))):=by
 refine⟨λv=>?_,h.i⟩
 rw [js_c]
 by_cases q:av b p=v
 ·subst q
  rw [if_pos rfl]
  rcases h.g (av b p) with ⟨e1,_⟩ |⟨r',e1,h1,h2⟩
  ·rw[e]at e1;cases e1
  ·rw[e]at e1;cases e1
   exact .inr ⟨r,e,aG (hx _ _ h1) _,h2⟩
 ·rw[if_neg q,List.append_nil]
  rcases h.g v with h1 |⟨r',e1,h1,h2⟩
  ·exact .inl h1
  ·exact .inr ⟨r',e1,aF (hx _ _ h1) λz=>q (h.i _ _ r (e) (z▸e1)),h2⟩
theorem Bk.new{f:Int->Option V}{n:Nat}(h:Bk B s rd b p f H)(hx:Hx B H)(e:f (av b p)=none)(hs:H[s]? =some (.inst fs))(hd:H[rd]? =some (.dict n f))(m:MO):
  Bk B s rd b (p+1) (dput f (av b p) (.ref H.length)) (((H++[MO.list []]).set rd m).set H.length (.list [.int p])):=by
 have nr:=aR hd
 have ns:=aR hs
 refine⟨λv=>?_,λv v' r h1 h2=>?_⟩
 ·rw[js_c]
  unfold dput
  by_cases q:v=av b p
  ·subst q
   rw [if_pos rfl,if_pos rfl]
   refine .inr ⟨_,rfl,?_,hx.fresh,ns,nr⟩
   rcases h.g (av b p) with ⟨_,e1⟩ |⟨r',e1,_⟩
   ·rw[e1];exact aG (aF (bW _ _) nr.symm) _
   ·rw[e]at e1;cases e1
  ·rw[if_neg q,if_neg (λz=>q z.symm),List.append_nil]
   rcases h.g v with h1 |⟨r',e1,h1,h2⟩
   ·exact .inl h1
   ·exact .inr ⟨r',e1,aF (aF (Hx.app _ _ _ _ h1) h2.2.2.symm) (aR h1),h2⟩
 ·unfold dput at h1 h2
  have key:∀ v,f v≠some (.ref H.length):=λv z=>by
   rcases h.g v with ⟨e1,_⟩ |⟨r',e1,h1,_⟩
   ·rw[z]at e1;cases e1
   ·rw[z]at e1;cases e1;exact aR h1 rfl
  by_cases q:v=av b p
  ·by_cases q':v'=av b p
   ·exact q.trans q'.symm
   ·rw[if_pos q]at h1;rw[if_neg q']at h2;cases h1;exact absurd h2 (key _)
  ·by_cases q':v'=av b p
   ·rw[if_neg q]at h1;rw[if_pos q']at h2;cases h2;exact absurd h1 (key _)
   ·rw[if_neg q]at h1;rw[if_neg q']at h2;exact h.i _ _ _ h1 h2
end
end
section
variable {C:Cx}{B:MH}{s rb rd:Nat}{fs:Str->Option V}{b:List Int}{p:Nat}{H:MH}{K:SK}{lo:Lo}
theorem dK{r:Nat}{vs:List V}(h:H[r]? =some (.list vs)):H[r]?.bind MO.own=some vs:=by rw[h];rfl
theorem aQ{r:Nat}{vs:List V}(h:H[r]? =some (.list vs)):lst H (.ref r)=some vs:=by
 show H[r]?.bind _=_
 rw [h];rfl
theorem aA2{x y:Str}{r:Nat}{vs:List V}{v:V}(hf:lo x=some (.ref r))(hg:lo y=some v)(h:H[r]? =some (.list vs))(hl:vs.length<1000000)(k:K .next lo (H.set r (.list (vs++[v])))):aT (cV (eN x) (eN y)) lo H K:=
 Lf.mk hf (Lf.mk (p:=r) rfl ⟨⟨_,h⟩,Lf.mk hg (Lf.mk (dK h) ⟨hl,k⟩)⟩)
theorem aB8(b:List Int)(v:Int):∀ p,(js b v p).length<=p
 |0=>Nat.le_refl _
 |p+1=>by
  rw [js_c,List.length_append]
  refine Nat.add_le_add (aB8 b v p) ?_
  split
  ·exact Nat.le_refl 1
  ·exact Nat.zero_le 1
def chR(w:V)(lo:Lo)(K:SK)(H:MH):Prop:=aA (aT (cV (eN "indices") (eN "i"))) (sK .next) (upd lo "indices" w) H K
theorem chR_i{r:Nat}{vs:List V}{v:V}(hi:upd lo "indices" (.ref r) "i" =some v)(h:H[r]? =some (.list vs))(hl:vs.length<1000000)(k:K .next (upd lo "indices" (.ref r)) (H.set r (.list (vs++[v])))):chR (.ref r) lo K H:=
 aA2 (x:="indices") (y:="i") (lo:=upd lo "indices" (.ref r)) (K:=bK (sK .next) K) ⋯ hi h hl k
theorem ch_nf{v:Int}{o1 o2 o3:Option V}:(chT (.tup [.int p,.int v]) (look (fB (some (.ref s)) (some (.ref rb)) (some (.ref rd)) o1 o2 o3)) H λlo1 H1=>chB lo1 H1 K)=
  (2=2/\(∃ n g,H[rd]? =some (.dict n g))/\Lf ((H++[MO.list []])[rd]?.bind MO.dct) λq=>q.1<1000000/\match q.2 v with
   |some v'=>chR v' (upd (upd (look (fB (some (.ref s)) (some (.ref rb)) (some (.ref rd)) o1 o2 o3)) "i" (.int p)) "elt" (.int v)) K (H++[MO.list []])
   |none=>chR (.ref H.length) (upd (upd (look (fB (some (.ref s)) (some (.ref rb)) (some (.ref rd)) o1 o2 o3)) "i" (.int p)) "elt" (.int v)) K ((H++[MO.list []]).set rd (.dict (q.1+1) (dput q.2 v (.ref H.length))))):=by rfl'
theorem upd3{o1 o2 o3:Option V}(u v w:V):upd (upd (upd (look (fB (some (.ref s)) (some (.ref rb)) (some (.ref rd)) o1 o2 o3)) "i" u) "elt" v) "indices" w=look (fB (some (.ref s)) (some (.ref rb)) (some (.ref rd)) (some u) (some v) (some w)):=by
 rw [aD,aD,aD];kernel_rfl
theorem aF9{Q:SK}(hp:p<1000000)(hs:B[s]? =none)(hr:B[rd]? =none)(sr:s≠rd)(I:CBI B s rb rd fs b p lo H)(G:GoK (CBI B s rb rd fs b (p+1)) Q K):chT (.tup [.int p,.int (av b p)]) lo H λlo1 H1=>chB lo1 H1 K:=by
 cases I with
 | @mk n f o1 o2 o3 el hx ho hd hn bk=>
 subst el
 have hx':Hx H (H++[MO.list []]):=.app _ _
 have hl:=aB8 b (av b p) p
 refine kch ch_nf ⟨rfl,⟨_,_,hd⟩,Lf.mk (vT (hx' _ _ hd)) ⟨Nat.lt_of_le_of_lt hn hp,?_⟩⟩
 dsimp only
 rcases bk.g (av b p) with ⟨e,e2⟩ |⟨r,e,h1,h2,h3,h4⟩
 ·rw[e]
  have nr:=aR hd
  have ns:=aR ho
  refine chR_i (vs:=[]) (v:=.int p) ⋯ (aF (bW _ _) nr.symm) (by decide) (G.nx (.mk (n:=n+1) (upd3 _ _ _) ?_ ?_ ?_ (Nat.succ_le_succ hn) (bk.new hx e ho hd _)))
  ·exact((hx.trans hx').set hr).set hx.fresh
  ·exact aF (aF (hx' _ _ ho) sr.symm) ns
  ·exact aF (aG (hx' _ _ hd) _) nr
 ·rw[e]
  refine chR_i (vs:=(js b (av b p) p).map V.int) (v:=.int p) ⋯ (hx' _ _ h1) (by rw[List.length_map];exact Nat.lt_of_le_of_lt hl hp) ?_
  rw [show (js b (av b p) p).map V.int++[V.int p]=(js b (av b p) p++[(p:Int)]).map V.int from by rw[List.map_append];rfl]
  refine G.nx (.mk (n:=n) (upd3 _ _ _) ?_ ?_ ?_ (Nat.le_succ_of_le hn) (bk.old hx' e ho))
  ·exact(hx.trans hx').set h2
  ·exact aF (hx' _ _ ho) h3
  ·exact aF (hx' _ _ hd) h4
theorem fB_0:upd (upd (upd lo0 "self" (.ref s)) "b" (.ref rb)) "b2j" (.ref rd)=look (fB (some (.ref s)) (some (.ref rb)) (some (.ref rd)) none none none):=by
 rw [<-eL (fB none none none none none none) ⋯,aD,aD,aD]
 kernel_rfl
def fs3(fs:Str->Option V)(rd rj rp:Nat):Str->Option V:=fput (fput (fput fs "b2j" (.ref rd)) "bjunk" (.ref rj)) "bpopular" (.ref rp)
theorem Bk.idx{f:Int->Option V}(h:Bk B s rd b b.length f H){H':MH}(k:∀ (r:Nat) (m:MO),H[r]? =some m->r≠s->H'[r]? =some m):B2J H' b f:=λv=>by
 have e:Idx b v 0 (js b v b.length):=by
  have:=aB9 (b:=b) (v:=v) (rest:=[]) (Nat.le_refl b.length) (.nil λc h1 h2=>absurd h2 (Int.not_lt.mpr h1))
  rwa [List.append_nil]at this
 rcases h.g v with ⟨h1,h2⟩ |⟨r,h1,h2,h3,h4,h5⟩
 ·exact .inl ⟨h1,h2▸e⟩
 ·exact .inr ⟨r,_,h1,aQ (k _ _ h2 h4),e⟩
def xP(X:XX C):SF:=aA (i5 X) (aA (iZ X) (aA (iY X) (aA (iX X) (aA (iW X) (aA (iV X) (sK .next))))))
theorem aDs(X:XX C){Q:EK}{t:Bool}{n:Nat}{f:Int->Option V}{o1 o2 o3:Option V}(hs:B[s]? =none)(hx:Hx B H)(h:H[s]? =some (.inst fs))(hd:H[rd]? =some (.dict n f))(sr:s≠rd)(hb:LI B rb b)(bl:b.length<1000000)(bt:t=true->b.length<200)(ej:fs "isjunk" =some .none)(ea:fs "autojunk" =some (.bool t))(bk:Bk B s rd b b.length f H)
  (k:∀ {H' rj rp},Hx B H'->H'[s]? =some (MO.inst (fput (fput fs "bjunk" (.ref rj)) "bpopular" (.ref rp)))->H'[rd]? =some (.dict n f)->H'[rj]? =some .eset->B2J H' b f->Q .none H'):
  xP X (look (fB (some (.ref s)) (some (.ref rb)) (some (.ref rd)) o1 o2 o3)) H (m6 Q):=by
 refine kch (B:=(St s "bjunk" (.ref H.length) (H++[MO.eset]) λH3=>At s "isjunk" H3 λv=>Lf (tr v H3) λb=>bif b then False else St s "bpopular" (.ref H3.length) (H3++[MO.eset]) λH4=>
  Lp ((lst H4 (.ref rb)).bind λxs=>if xs.length<1000000 then some (.int xs.length,H4) else none) λn H5=>At s "autojunk" H5 λv=>Lf (tr v H5) λb=>bif b then(Lp (bQ (λx y=>decide (x>=y)) n (.int 200) H5) λv H6=>Lf (tr v H6) λb=>bif b then False else Q .none H6) else Q .none H5)) ⋯ ?_
 have h1:=Hx.app H [MO.eset] _ _ h
 have s1:=aG h1 (MO.inst (fput fs "bjunk" (.ref H.length)))
 have x1:=((hx.trans (.app H [MO.eset])).set (m:=.inst (fput fs "bjunk" (.ref H.length))) hs)
 refine St.mk h1 (At.mk s1 (v:=.none) ej (Lf.mk (p:=false) rfl (bN (St.mk (Hx.app _ [MO.eset] _ _ s1) ?_))))
 have s2:=aG (Hx.app _ [MO.eset] _ _ s1) (MO.inst (fput (fput fs "bjunk" (.ref H.length)) "bpopular" (.ref ((H++[MO.eset]).set s (MO.inst (fput fs "bjunk" (.ref H.length)))).length)))
 have x2:=((x1.trans (.app _ [MO.eset])).set (m:=.inst (fput (fput fs "bjunk" (.ref H.length)) "bpopular" (.ref ((H++[MO.eset]).set s (MO.inst (fput fs "bjunk" (.ref H.length)))).length))) hs)
 have lb:=x2.li hb
 have key:∀ (r:Nat) (m:MO),(H++[MO.eset])[r]? =some m->r≠s->((((H++[MO.eset]).set s (MO.inst (fput fs "bjunk" (.ref H.length))))++[MO.eset]).set s (MO.inst (fput (fput fs "bjunk" (.ref H.length)) "bpopular" (.ref ((H++[MO.eset]).set s (MO.inst (fput fs "bjunk" (.ref H.length)))).length))))[r]? =some m:=λr m e n=>
  aF (Hx.app _ _ _ _ (aF e n.symm)) n.symm
 have fin:=k x2 s2 (key _ _ (Hx.app _ _ _ _ hd) sr.symm) (key _ _ (bW _ _) (aR h)) (bk.idx λr m e n=>key _ _ (Hx.app _ _ _ _ e) n)
 refine Lp.mk (v:=.int b.length) (by rw[lb];show(if (b.map V.int).length<1000000 then _ else _)=_;rw[List.length_map,if_pos bl]) (At.mk s2 (v:=.bool t) ea (Lf.mk (p:=t) rfl ?_))
 cases t with
 |false=>exact fin
 |true=>
  refine b5 (Lp.mk (v:=.bool (decide ((b.length:Int)>=200))) ⋯ (Lf.mk (p:=false) ?_ (bN fin)))
  rw [decide_eq_false (A182 (bt rfl))];rfl
theorem vY(X:XX C){Q:EK}{t:Bool}(h:H[s]? =some (.inst fs))(hx:Hx B H)(hs:B[s]? =none)(hb:LI B rb b)(bl:b.length<1000000)(bt:t=true->b.length<200)(eb:fs "b" =some (.ref rb))(ej:fs "isjunk" =some .none)(ea:fs "autojunk" =some (.bool t))
  (k:∀ {H' rd rj rp n f},Hx B H'->H'[s]? =some (MO.inst (fs3 fs rd rj rp))->H'[rd]? =some (.dict n f)->H'[rj]? =some .eset->B2J H' b f->Q .none H'):eM X [.ref s] H Q:=by
 refine kch (B:=(1=1/\At s "b" H λv=>St s "b2j" (.ref H.length) (H++[.dict 0 λ_=>none]) λH2=>Lf v.rf λi=>(∃ vs,lst H2 (.ref i)=some vs)/\
  ∃ n,cY (qD C) chT chB n (i,0) (upd (upd (upd lo0 "self" (.ref s)) "b" v) "b2j" (.ref H.length)) H2 (bK (xP X) (m6 Q)))) ⋯ ?_
 have e1:=Hx.app H [.dict 0 λ_=>none]
 refine⟨rfl,At.mk h eb (St.mk (e1 _ _ h) (Lf.mk (p:=rb) rfl ?_))⟩
 have s1:=aG (e1 _ _ h) (MO.inst (fput fs "b2j" (.ref H.length)))
 have x1:=(hx.trans e1).set (m:=.inst (fput fs "b2j" (.ref H.length))) hs
 have sr:s≠H.length:=(aR h).symm
 refine⟨⟨_,x1.li hb⟩,(b.map V.int).length+1,?_⟩
 rw [fB_0]
 refine tR (CBI B s rb H.length (fput fs "b2j" (.ref H.length)) b) (vs:=b.map V.int) (λI=>?_) (λI=>?_) (λ{p v lo H K} e I G=>?_) _ 0 (Nat.zero_add _) (.mk (n:=0) (f:=λ_=>none) rfl x1 s1 (aF (bW _ _) sr) (Nat.le_refl _) ⟨λv=>.inl ⟨rfl,rfl⟩,λv v' r h1 h2=>nomatch h1⟩)
 ·cases I with
  |mk el hx=>exact hx.li hb
 ·cases I with
  |mk el hx ho hd hn bk=>
   subst el
   rw [List.length_map]at bk
   exact aDs X hs hx ho hd sr hb bl bt ej ea bk k
 ·rw[List.getElem?_map]at e
  obtain⟨x,h1,h2⟩:=Option.map_eq_some_iff.mp e
  subst h2
  have:av b p=x:=by
   show b.getD p 0=x
   rw [List.getD_eq_getElem?_getD,h1];rfl
  subst this
  exact aF9 (Nat.lt_trans (List.getElem?_eq_some_iff.mp h1).1 bl) hs hx.fresh sr I G
end
section
structure Bx(a b:List Int)(t:T3):Prop where
 p:0<t.k
 n:In a b ⟨0,a.length,0,b.length⟩ t.i t.j t.k
def T3.w(t:T3):Wd:=⟨t.i,t.i+t.k,t.j,t.j+t.k⟩
def Sep(x y:Wd):Prop:=(x.ah<=y.al/\x.bh<=y.bl)∨(y.ah<=x.al/\y.bh<=x.bl)
structure Sb(x y:Wd):Prop where
 a0:y.al<=x.al
 a1:x.ah<=y.ah
 b0:y.bl<=x.bl
 b1:x.bh<=y.bh
theorem Sep.symm{x y:Wd}(h:Sep x y):Sep y x:=Or.symm h
theorem Sep.sub{x y z:Wd}(h:Sep y z)(s:Sb x y):Sep x z:=
 h.imp (λh=>⟨Int.le_trans s.a1 h.1,Int.le_trans s.b1 h.2⟩) λh=>⟨Int.le_trans h.1 s.a0,Int.le_trans h.2 s.b0⟩
section
variable {a b:List Int}{w:Wd}{i j k:Int}{q:List Wd}
theorem y0(i:Int){k:Int}(h:0<=k):i<=i+k:=Int.le_add_of_nonneg_right h
theorem sb1(B:In a b w i j k):Sb ⟨w.al,i,w.bl,j⟩ w:=⟨Int.le_refl _,Int.le_trans (y0 i B.k0) B.i1,Int.le_refl _,Int.le_trans (y0 j B.k0) B.j1⟩
theorem sb2(B:In a b w i j k):Sb ⟨i+k,w.ah,j+k,w.bh⟩ w:=⟨Int.le_trans B.i0 (y0 i B.k0),Int.le_refl _,Int.le_trans B.j0 (y0 j B.k0),Int.le_refl _⟩
theorem sb3(B:In a b w i j k):Sb (T3.w ⟨i,j,k⟩) w:=⟨B.i0,B.i1,B.j0,B.j1⟩
theorem mem1{v:Wd}(h:v∈gO w i j q):v=⟨w.al,i,w.bl,j⟩∨v∈q:=by
 unfold gO at h
 split at h
 ·exact List.mem_cons.mp h
 ·exact .inr h
theorem mem2{v:Wd}(h:v∈iH w i j k q):v=⟨i+k,w.ah,j+k,w.bh⟩∨v∈q:=by
 unfold iH at h
 split at h
 ·exact List.mem_cons.mp h
 ·exact .inr h
theorem pw1(h:q.Pairwise Sep)(c:∀ v∈q,Sep ⟨w.al,i,w.bl,j⟩ v):(gO w i j q).Pairwise Sep:=by
 unfold gO
 split
 ·exact List.pairwise_cons.mpr ⟨c,h⟩
 ·exact h
theorem pw2(h:q.Pairwise Sep)(c:∀ v∈q,Sep ⟨i+k,w.ah,j+k,w.bh⟩ v):(iH w i j k q).Pairwise Sep:=by
 unfold iH
 split
 ·exact List.pairwise_cons.mpr ⟨c,h⟩
 ·exact h
end
def SepT(x y:T3):Prop:=Sep x.w y.w
theorem Run.ok{a b:List Int}{q:List Wd}{m r:List T3}(h:Run a b q m r)(hw:∀ w∈q,WOk a b w)(hm:∀ t∈m,Bx a b t)(pq:q.Pairwise Sep)(pm:m.Pairwise SepT)(cr:∀ w∈q,∀ t∈m,Sep w t.w):
  (∀ t∈r,Bx a b t)/\r.Pairwise SepT:=by
 induction h with
 |nil=>exact⟨hm,pm⟩
 |zero B h ih=>
  exact ih (λv hv=>hw v (.tail _ hv)) hm (List.pairwise_cons.mp pq).2 pm λv hv=>cr v (.tail _ hv)
 | @pos w q m r i j k B p h ih=>
  have W:=hw w (.head _)
  have n:=B.n
  refine xA (List.pairwise_cons.mp pq) λpw pq=>?_
  have cl:∀ v∈gO w i j q,v=⟨w.al,i,w.bl,j⟩∨v∈q:=λv hv=>mem1 hv
  have new:∀ v∈iH w i j k (gO w i j q),Sep v (T3.w ⟨i,j,k⟩):=λv hv=>by
   refine Or.elim (mem2 hv) (λe=>?_) λe=>?_
   ·exact e▸ .inr ⟨Int.le_refl _,Int.le_refl _⟩
   ·refine Or.elim (cl v e) (λe=>?_) λe=>?_
    ·exact e▸ .inl ⟨Int.le_refl _,Int.le_refl _⟩
    ·exact((pw v e).sub (sb3 n)).symm
  refine ih (wI W B λv hv=>hw v (.tail _ hv)) (λt ht=>?_) (pw2 (pw1 pq λv hv=>(pw v hv).sub (sb1 n)) λv hv=>?_) (List.pairwise_append.mpr ⟨pm,List.pairwise_singleton _ _,λx hx y hy=>?_⟩) λv hv t ht=>?_
  ·refine Or.elim (List.mem_append.mp ht) (λe=>?_) λe=>?_
   ·exact hm t e
   ·cases List.mem_singleton.mp e
    exact⟨p,Int.le_trans W.a0 n.i0,Int.le_trans n.i1 W.a2,Int.le_trans W.b0 n.j0,Int.le_trans n.j1 W.b2,n.k0,n.m⟩
  ·refine Or.elim (cl v hv) (λe=>?_) λe=>?_
   ·exact e▸ .inr ⟨y0 i n.k0,y0 j n.k0⟩
   ·exact(pw v e).sub (sb2 n)
  ·cases List.mem_singleton.mp hy
   exact((cr w (.head _) x hx).sub (sb3 n)).symm
  ·refine Or.elim (List.mem_append.mp ht) (λe=>?_) λe=>?_
   ·refine Or.elim (mem2 hv) (λz=>?_) λz=>?_
    ·exact z▸(cr w (.head _) t e).sub (sb2 n)
    ·refine Or.elim (cl v z) (λz=>?_) λz=>?_
     ·exact z▸(cr w (.head _) t e).sub (sb1 n)
     ·exact cr v (.tail _ z) t e
   ·cases List.mem_singleton.mp e
    exact new v hv
theorem Run.ok0{a b:List Int}{r:List T3}(h:Run a b [⟨0,a.length,0,b.length⟩] [] r):(∀ t∈r,Bx a b t)/\r.Pairwise SepT:=
 h.ok (λw hw=>by
  cases List.mem_singleton.mp hw
  exact⟨Int.le_refl _,Int.natCast_nonneg _,Int.le_refl _,Int.le_refl _,Int.natCast_nonneg _,Int.le_refl _⟩) (λ_ h=>absurd h List.not_mem_nil) (List.pairwise_singleton _ _) .nil λ_ _ _ h=>absurd h List.not_mem_nil
inductive CH(a b:List Int):Int->Int->List T3->Prop
 |nil {i j:Int}:CH a b i j []
 |cons {i j:Int}{t:T3}{l:List T3} (hi:i<=t.i) (hj:j<=t.j) (B:Bx a b t) (h:CH a b (t.i+t.k) (t.j+t.k) l):CH a b i j (t :: l)
theorem CH.of{a b:List Int}:∀ {l:List T3}{i j:Int},(∀ t∈l,Bx a b t)->l.Pairwise SepT->l.Pairwise (λx y=>x.i<y.i)->(∀ t∈l,i<=t.i/\j<=t.j)->CH a b i j l
 | [],_,_,_,_,_,_=>.nil
 |t :: l,i,j,hb,hs,hl,h0=>by
  refine xA (List.pairwise_cons.mp hs) λs1 s2=>?_
  refine xA (List.pairwise_cons.mp hl) λl1 l2=>?_
  have ht:=h0 t (.head _)
  refine .cons ht.1 ht.2 (hb t (.head _)) (CH.of (λx hx=>hb x (.tail _ hx)) s2 l2 λx hx=>?_)
  refine Or.elim (s1 x hx) (λs=>?_) λs=>?_
  ·exact s
  ·have p:=(hb x (.tail _ hx)).p
   have e:=Int.lt_of_lt_of_le (l1 x hx) (Int.le_trans (Int.le_of_lt (Int.lt_add_of_pos_right x.i p)) s.1)
   exact absurd e (Int.lt_irrefl _)
theorem CH.len{a b:List Int}{l:List T3}{i j:Int}(h:CH a b i j l)(hi:i<=a.length):i+l.length<=a.length:=by
 induction h with
 |nil=>simpa using hi
 | @cons i j t l h1 h2 B h ih=>
  have:=ih B.n.i1
  have p:=B.p
  rw [List.length_cons]
  exact A201 h1 this p
theorem rH:∀ (l:List T3) (c:T3),(nad c l).length<=l.length+1
 | [],c=>by
  rw [wW];split
  ·exact Nat.zero_le 1
  ·exact Nat.le_refl 1
 |x :: l,c=>by
  rw [wX];split
  ·exact Nat.le_succ_of_le (rH l _)
  ·rw[List.length_append,List.length_cons,Nat.add_comm]
   refine Nat.add_le_add (rH l x) ?_
   split
   ·exact Nat.zero_le 1
   ·exact Nat.le_refl 1
theorem Run.sorted{a b:List Int}{r:List T3}(h:Run a b [⟨0,a.length,0,b.length⟩] [] r):r.Pairwise (λx y=>x.i≠y.i)/\CH a b 0 0 (isort T3.i r):=by
 refine xA h.ok0 λh1 h2=>?_
 have ne:r.Pairwise (λx y=>x.i≠y.i):=h2.imp_of_mem λ{x y} hx hy s e=>by
  have px:=(h1 x hx).p;have py:=(h1 y hy).p
  refine Or.elim s (λs=>?_) λs=>?_
  ·exact absurd (Int.lt_of_lt_of_le (Int.lt_add_of_pos_right x.i px) s.1) (e▸Int.lt_irrefl _)
  ·exact absurd (Int.lt_of_lt_of_le (Int.lt_add_of_pos_right y.i py) s.1) (e▸Int.lt_irrefl _)
 have pm:=cA T3.i r
 have h3:∀ t∈isort T3.i r,Bx a b t:=λt ht=>h1 t (pm.mem_iff.mp ht)
 exact⟨ne,.of h3 ((pm.pairwise_iff λ{x y} (s:SepT x y)=>s.symm).mpr h2) (j7 ne) λt ht=>⟨(h3 t ht).n.i0,(h3 t ht).n.j0⟩⟩
theorem Run.len{a b:List Int}{r:List T3}(h:Run a b [⟨0,a.length,0,b.length⟩] [] r):r.length<=a.length:=by
 have:=h.sorted.2.len (Int.natCast_nonneg _)
 rw [(cA T3.i r).length_eq]at this
 exact A202 this
end
section
inductive Tg where |rep |del |ins |eq
structure Op where
 tag:Tg
 i1:Int
 i2:Int
 j1:Int
 j2:Int
def gap(i j i' j':Int):List Op:=if i<i' then if j<j' then [⟨.rep,i,i',j,j'⟩] else [⟨.del,i,i',j,j'⟩] else if j<j' then [⟨.ins,i,i',j,j'⟩] else []
def ops(i j:Int):List T3->List Op
 | []=>[]
 |t :: l=>gap i j t.i t.j++((if t.k=0 then [] else [Op.mk .eq t.i (t.i+t.k) t.j (t.j+t.k)])++ops (t.i+t.k) (t.j+t.k) l)
theorem ops_n(i j:Int):ops i j []= []:=rfl
theorem wS(i j:Int)(t:T3)(l:List T3):ops i j (t :: l)=gap i j t.i t.j++((if t.k=0 then [] else [Op.mk .eq t.i (t.i+t.k) t.j (t.j+t.k)])++ops (t.i+t.k) (t.j+t.k) l):=rfl
inductive Cod(a b:List Int):Option Bool->Int->Int->List Op->Prop
 |nil {f:Option Bool}:Cod a b f a.length b.length []
 |eq {f:Option Bool}{i j k:Int}{l:List Op} (hf:f≠some true) (p:0<k) (m:Mt a b i j k) (h:Cod a b (some true) (i+k) (j+k) l):Cod a b f i j (⟨.eq,i,i+k,j,j+k⟩ :: l)
 |ch {f:Option Bool}{i j i' j':Int}{g:Tg}{l:List Op} (hf:f≠some false) (hg:g≠ .eq) (hi:i<=i') (hj:j<=j') (lt:i<i'∨j<j') (h:Cod a b (some false) i' j' l):Cod a b f i j (⟨g,i,i',j,j'⟩ :: l)
end
section
variable {C:Cx}{H:MH}{s ra rb:Nat}{a b:List Int}{Q:EK}
theorem aE4(X:XX C){fs:Str->Option V}(h:H[s]? =some (.inst fs))(ha:fs "a" =some .none)(hb:fs "b" =some .none)(k:eM X [.ref s] (H.set s (.inst (fs2 (fs1 fs ra) rb))) λ_ H'=>Q .none H'):hV X [.ref s,.ref ra,.ref rb] H Q:=by
 refine kch (B:=(3=3/\(∃ ff,H[s]? =some (.inst ff))/\hZ X [.ref s,.ref ra] H λ_ H2=>(∃ ff,H2[s]? =some (.inst ff))/\hY X [.ref s,.ref rb] H2 λ_ H3=>Q .none H3)) ⋯ ⟨rfl,⟨_,h⟩,sX X h ha ⟨⟨_,aG h _⟩,sW X (aG h _) hb ?_⟩⟩
 rw [List.set_set];exact k
def fs0F:Str->Option V:=fput (fput (fput (fput (λ_=>none) "isjunk" .none) "a" .none) "b" .none) "autojunk" (.bool false)
def fsF(ra rb rd rj rp:Nat):Str->Option V:=fs3 (fs2 (fs1 fs0F ra) rb) rd rj rp
theorem aCg(X:XX C):sF X [.ref s,.none,.ref ra,.ref rb,.bool false] H Q=(5=5/\St s "isjunk" .none H λH1=>St s "a" .none H1 λH2=>St s "b" .none H2 λH3=>St s "autojunk" (.bool false) H3 λH4=>(∃ ff,H4[s]? =some (.inst ff))/\hV X [.ref s,.ref ra,.ref rb] H4 λ_ H'=>Q .none H'):=by rfl'
theorem aGf(X:XX C)(ha:LI H ra a)(hb:LI H rb b)(al:a.length<1000000)(bl:b.length<1000000)
  (k:∀ {H' rd rj rp n f},Hx H H'->SM H' H.length ra rb rd rj n (fsF ra rb rd rj rp) f a b->Q (.ref H.length) H'):X.c_SM4 [.none,.ref ra,.ref rb,.bool false] H Q:=by
 have h0:=bW H (.inst λ_=>none)
 have h1:=aG h0 (.inst (fput (λ_=>none) "isjunk" .none))
 have h2:=aG h1 (.inst (fput (fput (λ_=>none) "isjunk" .none) "a" .none))
 have h3:=aG h2 (.inst (fput (fput (fput (λ_=>none) "isjunk" .none) "a" .none) "b" .none))
 have h4:=aG h3 (.inst fs0F)
 have x:=Hx.app H [.inst λ_=>none]
 refine kch (aCg X) ⟨rfl,St.mk h0 (St.mk h1 (St.mk h2 (St.mk h3 ⟨⟨_,h4⟩,aE4 X h4 ⋯ ⋯ ?_⟩)))⟩
 have h5:=aG h4 (.inst (fs2 (fs1 fs0F ra) rb))
 refine vY X (B:=H) (t:=false) h5 (((((x.set (aK H)).set (aK H)).set (aK H)).set (aK H)).set (aK H)) (aK H) hb bl nofun ⋯ ⋯ ⋯ λ{H' rd rj rp n f} e1 e2 e3 e4 e5=>⟨rfl,k (rp:=rp) (rd:=rd) (rj:=rj) e1 ⟨e2,by rfl',by rfl',by rfl',by rfl',e1.li ha,e1.li hb,e3,e4,e5,al,bl⟩⟩
end
section
variable {C:Cx}{H:MH}{K Q:SK}{lo:Lo}{a b:List Int}
def Wd.v(w:Wd):V:=.tup [.int w.al,.int w.ah,.int w.bl,.int w.bh]
def T3.v(t:T3):V:=.mat t.i t.j t.k
def T3.t(t:T3):V:=.tup [.int t.i,.int t.j,.int t.k]
structure GC where
 s:Nat
 la:Int
 lb:Int
 q:Nat
 m:Nat
def fG(s la lb q m al ah bl bh i j k x:Option V):Nv:=
 [("self",s),("la",la),("lb",lb),("queue",q),("matching_blocks",m),("alo",al),("ahi",ah),("blo",bl),("bhi",bh),("i",i),("j",j),("k",k),("x",x),("i1",none),("j1",none),("k1",none),("non_adjacent",none),("i2",none),("j2",none),("k2",none)]
def gL(c:GC)(al ah bl bh i j k x:Option V):Lo:=look (fG (some (.ref c.s)) (some (.int c.la)) (some (.int c.lb)) (some (.ref c.q)) (some (.ref c.m)) al ah bl bh i j k x)
def gL'(c:GC)(w:Wd)(i j k x:Option V):Lo:=gL c (some (.int w.al)) (some (.int w.ah)) (some (.int w.bl)) (some (.int w.bh)) i j k x
def gI(X:XX C):SF:=aA (sIf (tE (eN "k")) (aA (aT (cV (eN "matching_blocks") (eN "x"))) (aA (sIf (aU (tE (aB (bQ λx y=>decide (x<y)) (eN "alo") (eN "i"))) (aU (tE (aB (bQ λx y=>decide (x<y)) (eN "blo") (eN "j"))) (tK true))) (aA (aT (cV (eN "queue") (bY (esC (eN "alo") (esC (eN "i") (esC (eN "blo") (esC (eN "j") esN))))))) (sK .next)) (sK .next)) (aA (sIf (aU (tE (aB (bQ λx y=>decide (x<y)) (aB aH (eN "i") (eN "k")) (eN "ahi"))) (aU (tE (aB (bQ λx y=>decide (x<y)) (aB aH (eN "j") (eN "k")) (eN "bhi"))) (tK true))) (aA (aT (cV (eN "queue") (bY (esC (aB aH (eN "i") (eN "k")) (esC (eN "ahi") (esC (aB aH (eN "j") (eN "k")) (esC (eN "bhi") esN))))))) (sK .next)) (sK .next)) (sK .next)))) (sK .next)) (sK .next)
def gF(X:XX C):SF:=aA (cX (gV (bU X) (eN "self") (esC (eN "alo") (esC (eN "ahi") (esC (eN "blo") (esC (eN "bhi") esN))))) (iG (dD 3 (asC (aN "i") (asC (aN "j") (asC (aN "k") asN)))) (aN "x"))) (gI X)
def gB(X:XX C):SF:=aA (cX (ePop (eN "queue")) (dD 4 (asC (aN "alo") (asC (aN "ahi") (asC (aN "blo") (asC (aN "bhi") asN)))))) (gF X)
theorem pop_i{x:Str}{r:Nat}{vs:List V}{v:V}{Q:EK}(hx:lo x=some (.ref r))(h:H[r]? =some (.list (vs++[v])))(hl:vs.length<999999)(k:Q v (H.set r (.list vs))):ePop (eN x) lo H Q:=by
 have e:(vs++[v]).length=vs.length+1:=by rw[List.length_append];rfl
 refine Lf.mk hx (Lf.mk (p:=r) rfl (Lf.mk (dK h) ⟨by rw[e];exact Nat.succ_lt_succ hl,Lf.mk (p:=v) ?_ ?_⟩))
 ·rw[e,Nat.add_sub_cancel,List.getElem?_append_right (Nat.le_refl _),Nat.sub_self];rfl
 ·rw[e,Nat.add_sub_cancel,List.eraseIdx_append_of_length_le (Nat.le_refl _),Nat.sub_self]
  show Q v (H.set r (.list (vs++[])))
  rw [List.append_nil];exact k
theorem iM{x:Str}{r:Nat}{vs:List V}{v:V}{g:EF}(hx:lo x=some (.ref r))(hg:∀ (H:MH) (Q:EK),Q v H->g lo H Q)(h:H[r]? =some (.list vs))(hl:vs.length<1000000)(k:K .next lo (H.set r (.list (vs++[v])))):aT (cV (eN x) g) lo H K:=
 Lf.mk hx (Lf.mk (p:=r) rfl ⟨⟨_,h⟩,hg _ _ (Lf.mk (dK h) ⟨hl,k⟩)⟩)
inductive QI(a b:List Int)(c:GC)(G:MH)(n:Nat)(lo:Lo)(H:MH):Prop
 |mk {q:List Wd}{m:List T3}{al ah bl bh i j k x:Option V} (el:lo=gL c al ah bl bh i j k x) (hx:Hx G H) (hq:H[c.q]? =some (.list (q.reverse.map Wd.v))) (hm:H[c.m]? =some (.list (m.map T3.v)))
   (w:∀ v∈q,WOk a b v) (r:∀ r,Run a b q m r->Run a b [⟨0,c.la,0,c.lb⟩] [] r) (n1:mu q<=n) (n2:m.length+mu q<=1000):QI a b c G n lo H
theorem gB_pop{X:XX C}{c:GC}{w:Wd}{vs:List V}{al ah bl bh i j k x:Option V}(h:H[c.q]? =some (.list (vs++[w.v])))(hl:vs.length<999999)(q:gF X (gL' c w i j k x) (H.set c.q (.list vs)) K):gB X (gL c al ah bl bh i j k x) H K:=by
 refine aP (u7 (pop_i ⋯ h hl ?_))
 refine kch (B:=(4=4/\gF X (upd (upd (upd (upd (gL c al ah bl bh i j k x) "alo" (.int w.al)) "ahi" (.int w.ah)) "blo" (.int w.bl)) "bhi" (.int w.bh)) (H.set c.q (.list vs)) K)) ⋯ ⟨rfl,?_⟩
 unfold gL
 rw [aD,aD,aD,aD]
 exact q
theorem gF_nf{X:XX C}{c:GC}{w:Wd}{i j k x:Option V}:gF X (gL' c w i j k x) H K=((∃ ff,H[c.s]? =some (.inst ff))/\bU X [.ref c.s,.int w.al,.int w.ah,.int w.bl,.int w.bh] H λv H2=>
  iG (dD 3 (asC (aN "i") (asC (aN "j") (asC (aN "k") asN)))) (aN "x") v (gL' c w i j k x) H2 λlo' H3=>gI X lo' H3 K):=by rfl'
theorem gF_set{X:XX C}{c:GC}{w:Wd}{i j k x:Option V}{t:T3}(q:gI X (gL' c w (some (.int t.i)) (some (.int t.j)) (some (.int t.k)) (some t.v)) H K):
  iG (dD 3 (asC (aN "i") (asC (aN "j") (asC (aN "k") asN)))) (aN "x") t.v (gL' c w i j k x) H λlo' H3=>gI X lo' H3 K:=by
 refine kch (B:=(3=3/\gI X (upd (upd (upd (upd (gL' c w i j k x) "i" (.int t.i)) "j" (.int t.j)) "k" (.int t.k)) "x" t.v) H K)) ⋯ ⟨rfl,?_⟩
 unfold gL' gL
 rw [aD,aD,aD,aD]
 exact q
def gP1:SF:=aA (aT (cV (eN "queue") (bY (esC (eN "alo") (esC (eN "i") (esC (eN "blo") (esC (eN "j") esN))))))) (sK .next)
def gP2:SF:=aA (aT (cV (eN "queue") (bY (esC (aB aH (eN "i") (eN "k")) (esC (eN "ahi") (esC (aB aH (eN "j") (eN "k")) (esC (eN "bhi") esN))))))) (sK .next)
def gJ:SF:=aA (sIf (aU (tE (aB (bQ λx y=>decide (x<y)) (aB aH (eN "i") (eN "k")) (eN "ahi"))) (aU (tE (aB (bQ λx y=>decide (x<y)) (aB aH (eN "j") (eN "k")) (eN "bhi"))) (tK true))) gP2 (sK .next)) (sK .next)
def gH:SF:=aA (sIf (aU (tE (aB (bQ λx y=>decide (x<y)) (eN "alo") (eN "i"))) (aU (tE (aB (bQ λx y=>decide (x<y)) (eN "blo") (eN "j"))) (tK true))) gP1 (sK .next)) gJ
def gA:SF:=aA (aT (cV (eN "matching_blocks") (eN "x"))) gH
section
variable {X:XX C}{c:GC}{w:Wd}{t:T3}
def gT(c:GC)(w:Wd)(t:T3):Lo:=gL' c w (some (.int t.i)) (some (.int t.j)) (some (.int t.k)) (some t.v)
theorem gI_nf:gI X (gT c w t) H K=(bif t.k != 0 then gA (gT c w t) H K else K .next (gT c w t) H):=by rfl'
theorem gH_nf:gH (gT c w t) H K=(bif decide (w.al<t.i) then bif decide (w.bl<t.j) then gP1 (gT c w t) H (bK gJ K) else gJ (gT c w t) H K else gJ (gT c w t) H K):=by rfl'
theorem gJ_nf:gJ (gT c w t) H K=(bif decide (t.i+t.k<w.ah) then bif decide (t.j+t.k<w.bh) then gP2 (gT c w t) H K else K .next (gT c w t) H else K .next (gT c w t) H):=by rfl'
theorem gP1_i{vs:List V}(h:H[c.q]? =some (.list vs))(hl:vs.length<1000000)(k:K .next (gT c w t) (H.set c.q (.list (vs++[Wd.v ⟨w.al,t.i,w.bl,t.j⟩])))):gP1 (gT c w t) H K:=by
 unfold gP1
 exact aP (iM (K:=bK (sK .next) K) ⋯ (λH Q q=>kch (B:=(4<100/\Q (Wd.v ⟨w.al,t.i,w.bl,t.j⟩) H)) ⋯ ⟨by decide,q⟩) h hl k)
theorem gP2_i{vs:List V}(h:H[c.q]? =some (.list vs))(hl:vs.length<1000000)(k:K .next (gT c w t) (H.set c.q (.list (vs++[Wd.v ⟨t.i+t.k,w.ah,t.j+t.k,w.bh⟩])))):gP2 (gT c w t) H K:=by
 unfold gP2
 exact aP (iM (K:=bK (sK .next) K) ⋯ (λH Q q=>kch (B:=(4<100/\Q (Wd.v ⟨t.i+t.k,w.ah,t.j+t.k,w.bh⟩) H)) ⋯ ⟨by decide,q⟩) h hl k)
def Ex(H H':MH)(i:Nat):Prop:=∀ (j:Nat) (m:MO),i≠j->H[j]? =some m->H'[j]? =some m
theorem Ex.set{H:MH}{i:Nat}{m:MO}:Ex H (H.set i m) i:=λj x n e=>aF e n
theorem Ex.trans{H H1 H2:MH}{i:Nat}(h:Ex H H1 i)(h':Ex H1 H2 i):Ex H H2 i:=λj m n e=>h' j m n (h j m n e)
theorem Ex.hx{G H H':MH}{i:Nat}(h:Ex H H' i)(x:Hx G H)(hi:G[i]? =none):Hx G H':=λj m e=>h j m (λz=>by rw[z,e]at hi;cases hi) (x j m e)
theorem m4(q:List Wd)(w:Wd):(w :: q).reverse.map Wd.v=q.reverse.map Wd.v++[w.v]:=by rw[List.reverse_cons,List.map_append];rfl
theorem qlen{q:List Wd}{n:Nat}(h:q.length<n):(q.reverse.map Wd.v).length<n:=by rw[List.length_map,List.length_reverse];exact h
theorem gJ_i{q:List Wd}(h:H[c.q]? =some (.list (q.reverse.map Wd.v)))(hl:q.length<1000000)(k:∀ {H'},H'[c.q]? =some (.list ((iH w t.i t.j t.k q).reverse.map Wd.v))->Ex H H' c.q->K .next (gT c w t) H'):gJ (gT c w t) H K:=by
 unfold iH at k
 refine kch gJ_nf ?_
 by_cases q1:t.i+t.k<w.ah
 ·by_cases q2:t.j+t.k<w.bh
  ·rw[if_pos ⟨q1,q2⟩,m4]at k
   rw [decide_eq_true q1,decide_eq_true q2]
   exact gP2_i h (qlen hl) (k (aG h _) .set)
  ·rw[if_neg λz=>q2 z.2]at k
   rw [decide_eq_true q1,decide_eq_false q2]
   exact k h λ_ _ _ e=>e
 ·rw[if_neg λz=>q1 z.1]at k
  rw [decide_eq_false q1]
  exact k h λ_ _ _ e=>e
theorem gH_i{q:List Wd}(h:H[c.q]? =some (.list (q.reverse.map Wd.v)))(hl:q.length<999999)(k:∀ {H'},H'[c.q]? =some (.list ((iH w t.i t.j t.k (gO w t.i t.j q)).reverse.map Wd.v))->Ex H H' c.q->K .next (gT c w t) H'):gH (gT c w t) H K:=by
 unfold gO at k
 refine kch gH_nf ?_
 by_cases q1:w.al<t.i
 ·by_cases q2:w.bl<t.j
  ·rw[if_pos ⟨q1,q2⟩]at k
   rw [decide_eq_true q1,decide_eq_true q2]
   exact gP1_i h (qlen (Nat.lt_trans hl (by decide))) (gJ_i (K:=K) (q:=⟨w.al,t.i,w.bl,t.j⟩ :: q) (by rw[m4];exact aG h _) (Nat.succ_lt_succ hl) λh1 e=>k h1 (Ex.set.trans e))
  ·rw[if_neg λz=>q2 z.2]at k
   rw [decide_eq_true q1,decide_eq_false q2]
   exact gJ_i h (Nat.lt_trans hl (by decide)) k
 ·rw[if_neg λz=>q1 z.1]at k
  rw [decide_eq_false q1]
  exact gJ_i h (Nat.lt_trans hl (by decide)) k
end
theorem qP{r:Nat}{vs:List V}(h:H[r]? =some (.list vs))(hl:vs.length<1000000):tr (.ref r) H=some (!vs.isEmpty):=by
 show(lst H (.ref r)).bind _=_
 rw [aQ h]
 exact if_pos hl
theorem q_step(X:XX C){c:GC}{ra rb rd rj n N:Nat}{fs:Str->Option V}{f:Int->Option V}{G:MH}(S:SM G c.s ra rb rd rj n fs f a b)(gq:G[c.q]? =none)(gm:G[c.m]? =none)(qm:c.q≠c.m)(I:QI a b c G N lo H)
  (hQ:∀ {lo H},QI a b c G 0 lo H->Q .next lo H):tE (eN "queue") lo H λt H1=>bif t then ∀ K,GoK (λlo' H'=>∃ N',N'<N/\QI a b c G N' lo' H') Q K->gB X lo H1 K else Q .next lo H1:=by
 cases I with
 | @mk q m al ah bl bh i j k x el hx hq hm w r n1 n2=>
 subst el
 have ql:=vF q
 have ql2:q.length<1000000:=A184 n2 ql
 refine b8 (x:="queue") (v:=.ref c.q) (Q:=λv H1=>Lf (tr v H1) λt=>bif t then ∀ K,GoK (λlo' H'=>∃ N',N'<N/\QI a b c G N' lo' H') Q K->gB X (gL c al ah bl bh i j k x) H1 K else Q .next (gL c al ah bl bh i j k x) H1) ⋯ (Lf.mk (qP hq (qlen ql2)) ?_)
 cases q with
 |nil=>exact hQ (.mk rfl hx hq hm w r (Nat.le_refl _) n2)
 |cons w0 q=>
  rw [m4]at hq ⊢
  rw [show (!(q.reverse.map Wd.v++[w0.v]).isEmpty)=true by simp]
  intro K go
  have ql3:q.length<999999:=Nat.lt_of_succ_lt_succ ql2
  refine gB_pop (w:=w0) hq (qlen ql3) (kch gF_nf ?_)
  have x1:Hx G (H.set c.q (.list (q.reverse.map Wd.v))):=hx.set gq
  have S1:=S.hx x1
  have w0k:=w w0 (.head _)
  refine⟨⟨_,S1.o⟩,flm_ok X S1 w0k λ{i j k H2} e2 B=>gF_set (t:=⟨i,j,k⟩) ?_⟩
  have hq2:=e2 _ _ (aG hq (.list (q.reverse.map Wd.v)))
  have hm2:=e2 _ _ (aF (m':=.list (q.reverse.map Wd.v)) hm qm)
  have x2:=x1.trans e2
  have wsz1:1<=wsz w0:=Nat.le_add_left _ _
  refine kch gI_nf ?_
  by_cases k0:k=0
  ·subst k0
   refine go.nx ⟨mu q,?_,.mk rfl x2 hq2 hm2 (λv hv=>w v (.tail _ hv)) (λr' h=>r r' (.zero B h)) (Nat.le_refl _) ?_⟩
   ·have:mu (w0 :: q)=wsz w0+mu q:=rfl
    exact A185 n1 wsz1 this
   ·have:mu (w0 :: q)=wsz w0+mu q:=rfl
    exact A186 n2 this
  ·have kp:0<k:=by have:=B.n.k0;exact A187 k0 this
   rw [show (k != 0)=true from bne_iff_ne.mpr k0]
   have ms:=mu_sub (w:=w0) B kp q
   refine b5 (aP (aA2 (r:=c.m) (v:=T3.v ⟨i,j,k⟩) ⋯ ⋯ hm2 (by rw[List.length_map];exact A188 n2) ?_))
   refine gH_i (K:=K) (aF hq2 qm.symm) ql3 λ{H'} h1 e=>go.nx ⟨_,Nat.lt_of_lt_of_le ms n1,.mk (m:=m++[⟨i,j,k⟩]) rfl (e.hx (x2.set gm) gq) h1 ?_ (wI w0k B λv hv=>w v (.tail _ hv)) (λr' h=>r r' (.pos B kp h)) (Nat.le_refl _) ?_⟩
   ·rw[List.map_append]
    exact e _ _ qm (aG hm2 _)
   ·show(m++[_]).length+mu (iH w0 i j k (gO w0 i j q))<=1000
    rw [List.length_append,List.length_singleton];exact A189 n2 ms
end
section
variable {C:Cx}{H:MH}{K Q:SK}{lo:Lo}{a b:List Int}
def nL(c:GC)(o1 o2 o3 o4 o5 o6 o7 o8:Option V)(t:T3)(na:Nat)(u1 u2 u3:Option V):Lo:=
 look [("self",some (.ref c.s)),("la",some (.int c.la)),("lb",some (.int c.lb)),("queue",some (.ref c.q)),("matching_blocks",some (.ref c.m)),("alo",o1),("ahi",o2),("blo",o3),("bhi",o4),("i",o5),("j",o6),("k",o7),("x",o8),
  ("i1",some (.int t.i)),("j1",some (.int t.j)),("k1",some (.int t.k)),("non_adjacent",some (.ref na)),("i2",u1),("j2",u2),("k2",u3)]
def nT:AF:=dD 3 (asC (aN "i2") (asC (aN "j2") (asC (aN "k2") asN)))
def nS:SF:=aA (d5 ["i1","j1","k1"] (bY (esC (eN "i2") (esC (eN "j2") (esC (eN "k2") esN))))) (sK .next)
def nP:SF:=aA (aT (cV (eN "non_adjacent") (bY (esC (eN "i1") (esC (eN "j1") (esC (eN "k1") esN)))))) (sK .next)
def nE:SF:=aA (sIf (tE (eN "k1")) nP (sK .next)) nS
def nB:SF:=aA (sIf (aU (tE (aB (bE id) (aB aH (eN "i1") (eN "k1")) (eN "i2"))) (aU (tE (aB (bE id) (aB aH (eN "j1") (eN "k1")) (eN "j2"))) (tK true))) (aA (sAug "k1" yS (eN "k2")) (sK .next)) nE) (sK .next)
section
variable {c:GC}{o1 o2 o3 o4 o5 o6 o7 o8 u1 u2 u3:Option V}{t x:T3}{na:Nat}
def nX(c:GC)(o1 o2 o3 o4 o5 o6 o7 o8:Option V)(t:T3)(na:Nat)(x:T3):Lo:=nL c o1 o2 o3 o4 o5 o6 o7 o8 t na (some (.int x.i)) (some (.int x.j)) (some (.int x.k))
theorem nT_i(q:nB (nX c o1 o2 o3 o4 o5 o6 o7 o8 t na x) H K):nT x.v (nL c o1 o2 o3 o4 o5 o6 o7 o8 t na u1 u2 u3) H λlo1 H1=>nB lo1 H1 K:=by
 refine kch (B:=(3=3/\nB (upd (upd (upd (nL c o1 o2 o3 o4 o5 o6 o7 o8 t na u1 u2 u3) "i2" (.int x.i)) "j2" (.int x.j)) "k2" (.int x.k)) H K)) ⋯ ⟨rfl,?_⟩
 unfold nL
 rw [aD,aD,aD]
 exact q
theorem nB_nf:nB (nX c o1 o2 o3 o4 o5 o6 o7 o8 t na x) H K=(bif decide (t.i+t.k=x.i) then bif decide (t.j+t.k=x.j) then K .next (upd (nX c o1 o2 o3 o4 o5 o6 o7 o8 t na x) "k1" (.int (t.k+x.k))) H
  else nE (nX c o1 o2 o3 o4 o5 o6 o7 o8 t na x) H (bK (sK .next) K) else nE (nX c o1 o2 o3 o4 o5 o6 o7 o8 t na x) H (bK (sK .next) K)):=by rfl'
theorem nE_nf:nE (nX c o1 o2 o3 o4 o5 o6 o7 o8 t na x) H K=(bif t.k != 0 then nP (nX c o1 o2 o3 o4 o5 o6 o7 o8 t na x) H (bK nS K) else nS (nX c o1 o2 o3 o4 o5 o6 o7 o8 t na x) H K):=by rfl'
theorem nP_i{vs:List V}(h:H[na]? =some (.list vs))(hl:vs.length<1000000)(k:K .next (nL c o1 o2 o3 o4 o5 o6 o7 o8 t na u1 u2 u3) (H.set na (.list (vs++[t.t])))):nP (nL c o1 o2 o3 o4 o5 o6 o7 o8 t na u1 u2 u3) H K:=by
 unfold nP
 exact aP (iM (K:=bK (sK .next) K) ⋯ (λH Q q=>kch (B:=(3<100/\Q t.t H)) ⋯ ⟨by decide,q⟩) h hl k)
theorem nS_i(q:K .next (nX c o1 o2 o3 o4 o5 o6 o7 o8 x na x) H):nS (nX c o1 o2 o3 o4 o5 o6 o7 o8 t na x) H K:=by
 refine kch (B:=(3<100/\3=3/\K .next (upd (upd (upd (nX c o1 o2 o3 o4 o5 o6 o7 o8 t na x) "k1" (.int x.k)) "j1" (.int x.j)) "i1" (.int x.i)) H)) ⋯ ⟨by decide,rfl,?_⟩
 unfold nX nL
 rw [aD,aD,aD]
 exact q
theorem nK_i{k:Int}(q:K .next (nX c o1 o2 o3 o4 o5 o6 o7 o8 ⟨t.i,t.j,k⟩ na x) H):K .next (upd (nX c o1 o2 o3 o4 o5 o6 o7 o8 t na x) "k1" (.int k)) H:=by
 unfold nX nL
 rw [aD]
 exact q
end
inductive NI(c:GC)(na:Nat)(G:MH)(all:List T3)(rest:List V)(lo:Lo)(H:MH):Prop
 |mk {o1 o2 o3 o4 o5 o6 o7 o8 u1 u2 u3:Option V}{t:T3}{acc l:List T3} (el:lo=nL c o1 o2 o3 o4 o5 o6 o7 o8 t na u1 u2 u3) (er:rest=l.map T3.v) (hx:Hx G H) (hn:H[na]? =some (.list (acc.map T3.t)))
   (e:acc++nad t l=all) (n:acc.length+l.length<=1000):NI c na G all rest lo H
theorem n_step{c:GC}{na:Nat}{G:MH}{all:List T3}{v:V}{rest:List V}(gn:G[na]? =none)(I:NI c na G all (v :: rest) lo H)(go:GoK (NI c na G all rest) Q K):nT v lo H λlo1 H1=>nB lo1 H1 K:=by
 cases I with
 | @mk o1 o2 o3 o4 o5 o6 o7 o8 u1 u2 u3 t acc l el er hx hn e n=>
 refine cJ (List.map_eq_cons_iff.mp er.symm) λx l' e1 e2 e3=>?_
 subst e1 e2 e3 el
 rw [List.length_cons]at n
 refine nT_i (kch nB_nf ?_)
 rw [wX]at e
 have other: ¬(t.i+t.k=x.i/\t.j+t.k=x.j)->nE (nX c o1 o2 o3 o4 o5 o6 o7 o8 t na x) H (bK (sK .next) K):=λz=>by
  rw [if_neg z]at e
  refine kch nE_nf ?_
  by_cases q:t.k=0
  ·rw[if_pos q]at e
   rw [show (t.k != 0)=false from by rw[q];rfl]
   exact bN (nS_i (K:=bK (sK .next) K) (go.nx (.mk rfl rfl hx hn e (A190 n))))
  ·rw[if_neg q]at e
   rw [show (t.k != 0)=true from bne_iff_ne.mpr q]
   refine b5 (nP_i (K:=bK nS (bK (sK .next) K)) hn (by rw[List.length_map];exact A191 n) (nS_i (K:=bK (sK .next) K) (go.nx (.mk (acc:=acc++[t]) rfl rfl (hx.set gn) ?_ ?_ ?_))))
   ·rw[List.map_append];exact aG hn _
   ·rw[List.append_assoc];exact e
   ·rw[List.length_append,List.length_singleton];exact A192 n
 by_cases q1:t.i+t.k=x.i
 ·by_cases q2:t.j+t.k=x.j
  ·rw[if_pos ⟨q1,q2⟩]at e
   rw [decide_eq_true q1,decide_eq_true q2]
   exact nK_i (K:=K) (go.nx (.mk rfl rfl hx hn e (A190 n)))
  ·rw[decide_eq_true q1,decide_eq_false q2]
   exact other λz=>q2 z.2
 ·rw[decide_eq_false q1]
  exact other λz=>q1 z.1
end
section
variable {C:Cx}{H:MH}{a b:List Int}
theorem aFi{P:Option (V×(Nat×Nat))->MH->Prop}{hm:oG C 2}{r p:Nat}{vs:List V}(hl:lst H (.ref r)=some vs)(e:vs[p]? =none)(h:P none H):(tL C 2 hm).nx (r,p) H P:=
 Lf.mk hl (by show(match vs[p]? with |none=>P none H |some v=>_);rw[e];exact h)
theorem aFh{P:Option (V×(Nat×Nat))->MH->Prop}{hm:oG C 2}{r p:Nat}{vs:List V}{t:T3}(hl:lst H (.ref r)=some vs)(e:vs[p]? =some t.t)(h:P (some (t.v,(r,p+1))) H):(tL C 2 hm).nx (r,p) H P:=
 Lf.mk hl (by show(match vs[p]? with |none=>P none H |some v=>Lf (t3 v) λq=>P (some (.mat q.1 q.2.1 q.2.2,(r,p+1))) H);rw[e];exact h)
theorem w3{hm:oG C 2}{G:MH}{na ai:Nat}{l:List T3}{P:MH->Prop}(hl:G[na]? =some (.list (l.map T3.t)))(ga:G[ai]? =none)(ll:l.length<1000000)(k:∀ {H'},Hx G H'->H'[ai]? =some (.list (l.map T3.v))->P H'):
  ∀ (rest done:List T3){H:MH},done++rest=l->Hx G H->H[ai]? =some (.list (done.map T3.v))->dQ (tL C 2 hm) ai (rest.length+1) (na,done.length) H P
 | [],done,H,e,hx,h=>by
  rw [List.append_nil]at e
  subst e
  exact aFi (aQ (hx _ _ hl)) (List.getElem?_eq_none (by rw[List.length_map];exact Nat.le_refl _)) (k hx h)
 |t :: rest,done,H,e,hx,h=>by
  refine aFh (t:=t) (aQ (hx _ _ hl)) ?_ (Lf.mk (dK h) ⟨?_,?_⟩)
  ·rw[List.getElem?_map,<-e,List.getElem?_append_right (Nat.le_refl _),Nat.sub_self];rfl
  ·rw[List.length_map]
   rw [<-e,List.length_append]at ll
   exact Nat.lt_of_le_of_lt (Nat.le_add_right _ _) ll
  ·have:=w3 (hm:=hm) hl ga ll k rest (done++[t]) (H:=H.set ai (.list (done.map T3.v++[t.v]))) (by rw[List.append_assoc];exact e) (hx.set ga) (by rw[List.map_append];exact aG h _)
   rw [List.length_append]at this
   exact this
theorem len_i{r:Nat}{l:List Int}{Q:EK}(h:LI H r l)(hl:l.length<1000000)(q:Q (.int l.length) H):cI [.ref r] H Q:=by
 refine Lp.mk (v:=.int l.length) (H:=H) ?_ q
 show(lst H (.ref r)).bind _=_
 rw [h]
 show(if (l.map V.int).length<1000000 then _ else _)=_
 rw [List.length_map,if_pos hl]
theorem w8(x:T3):∀ l:List T3,ins dE x.v (l.map T3.v)=(ins T3.i x l).map T3.v
 | []=>rfl
 |y :: r=>by
  show(if x.i<y.i then x.v :: y.v :: r.map T3.v else y.v :: ins dE x.v (r.map T3.v))=(if x.i<y.i then x :: y :: r else y :: ins T3.i x r).map T3.v
  rw [w8 x r]
  split<;>rfl
theorem qE:∀ l:List T3,isort dE (l.map T3.v)=(isort T3.i l).map T3.v
 | []=>rfl
 |x :: r=>by
  show ins dE x.v (isort dE (r.map T3.v))=(ins T3.i x (isort T3.i r)).map T3.v
  rw [qE r,w8]
def Blocks(a b:List Int)(bl:List T3):Prop:=∃ r,Run a b [⟨0,a.length,0,b.length⟩] [] r/\bl=nad ⟨0,0,0⟩ (isort T3.i r)++[⟨a.length,b.length,0⟩]
theorem fG_0{s:Nat}:loB ["self"] [.ref s] lo0=look (fG (some (.ref s)) none none none none none none none none none none none none):=by
 rw [<-eL (fG none none none none none none none none none none none none none) ⋯]
 show upd _ "self" (.ref s)=_
 rw [aD];kernel_rfl
def gR6(X:XX C):SF:=aA (cE X) (aA (cD X) (aA (cC X) (aA (bV X) (aA (bT X) (aA (aV X) (aA (bS X) (aA (bR X) (sK .next))))))))
def gR2(X:XX C):SF:=aA (cF X) (aA (bC X) (aA (bA X) (aA (aZ X) (gR6 X))))
theorem aFv(X:XX C){s:Nat}{Q:EK}:bM X [.ref s] H Q=(1=1/\At s "matching_blocks" H λv=>Lp (oIs not v .none H) λv H1=>Lf (tr v H1) λb=>bif b then At s "matching_blocks" H1 λv=>Q v H1 else gR2 X (loB ["self"] [.ref s] lo0) H1 (m6 Q)):=by rfl'
theorem g_2(X:XX C){s:Nat}{K:SK}:gR2 X (look (fG (some (.ref s)) none none none none none none none none none none none none)) H K=(At s "a" H λva=>cI [va] H λn H1=>At s "b" H1 λvb=>cI [vb] H1 λm H2=>2<100/\2=2/\
  aA (bC X) (aA (bA X) (aA (aZ X) (gR6 X))) (upd (upd (look (fG (some (.ref s)) none none none none none none none none none none none none)) "lb" m) "la" n) H2 K):=by rfl'
theorem g_34(X:XX C){s:Nat}{la lb:Int}{K:SK}:aA (bC X) (aA (bA X) (aA (aZ X) (gR6 X))) (look (fG (some (.ref s)) (some (.int la)) (some (.int lb)) none none none none none none none none none none)) H K=
  (4<100/\∃ n,runW (tE (eN "queue")) (gB X) n (upd (upd (look (fG (some (.ref s)) (some (.int la)) (some (.int lb)) none none none none none none none none none none)) "queue" (.ref H.length)) "matching_blocks" (.ref (H++[MO.list [Wd.v ⟨0,la,0,lb⟩]]).length))
   ((H++[.list [Wd.v ⟨0,la,0,lb⟩]])++[.list []]) (bK (gR6 X) K)):=by rfl'
theorem aEv{x:Str}{lo:Lo}{P P':Bool->MH->Prop}(h:tE (eN x) lo H P)(k:∀ c H',P c H'->P' c H'):tE (eN x) lo H P':=Lf.elim h λv e h=>Lf.mk e (Lf.elim h λc e h=>Lf.mk e (k _ _ h))
end
section
variable {C:Cx}{H:MH}{a b:List Int}
def gR12(X:XX C):SF:=aA (bS X) (aA (bR X) (sK .next))
def y6(X:XX C):SF:=aA (aV X) (gR12 X)
def gR10(X:XX C):SF:=aA (bT X) (y6 X)
def gR9(X:XX C):SF:=aA (bV X) (gR10 X)
section
variable {c:GC}{o1 o2 o3 o4 o5 o6 o7 o8 u1 u2 u3:Option V}{t x:T3}{na:Nat}{K:SK}
theorem g_6(X:XX C):gR6 X (gL c o1 o2 o3 o4 o5 o6 o7 o8) H K=(Lf (H[c.m]?.bind MO.own) λvs=>okSort vs/\gR9 X (upd (upd (upd (upd (gL c o1 o2 o3 o4 o5 o6 o7 o8) "i1" (.int 0)) "j1" (.int 0)) "k1" (.int 0)) "non_adjacent" (.ref (H.set c.m (.list (isort dE vs))).length)) (H.set c.m (.list (isort dE vs))++[.list []]) K):=by rfl'
theorem g_6n:upd (upd (upd (upd (gL c o1 o2 o3 o4 o5 o6 o7 o8) "i1" (.int 0)) "j1" (.int 0)) "k1" (.int 0)) "non_adjacent" (.ref na)=nL c o1 o2 o3 o4 o5 o6 o7 o8 ⟨0,0,0⟩ na none none none:=by
 unfold gL nL
 rw [aD,aD,aD,aD];kernel_rfl
theorem g_9(X:XX C):gR9 X (nL c o1 o2 o3 o4 o5 o6 o7 o8 t na u1 u2 u3) H K=((∃ vs,lst H (.ref c.m)=some vs)/\∃ n,cY (b9 C) nT nB n (c.m,0) (nL c o1 o2 o3 o4 o5 o6 o7 o8 t na u1 u2 u3) H (bK (gR10 X) K)):=by rfl'
theorem g_10(X:XX C):gR10 X (nL c o1 o2 o3 o4 o5 o6 o7 o8 t na u1 u2 u3) H K=(bif t.k != 0 then nP (nL c o1 o2 o3 o4 o5 o6 o7 o8 t na u1 u2 u3) H (bK (y6 X) K) else y6 X (nL c o1 o2 o3 o4 o5 o6 o7 o8 t na u1 u2 u3) H K):=by rfl'
theorem g_12(X:XX C){Q:EK}:gR12 X (nL c o1 o2 o3 o4 o5 o6 o7 o8 t na u1 u2 u3) H (m6 Q)=((∃ vs,lst H (.ref na)=some vs)/\∃ n,dQ (tL C 2 X.makeM) H.length n (na,0) (H++[.list []]) λH2=>St c.s "matching_blocks" (.ref H.length) H2 λH3=>At c.s "matching_blocks" H3 λv=>Q v H3):=by rfl'
theorem g_11(X:XX C){vs:List V}(h:H[na]? =some (.list vs))(hl:vs.length<1000000)(k:gR12 X (nL c o1 o2 o3 o4 o5 o6 o7 o8 t na u1 u2 u3) (H.set na (.list (vs++[T3.t ⟨c.la,c.lb,0⟩]))) K):y6 X (nL c o1 o2 o3 o4 o5 o6 o7 o8 t na u1 u2 u3) H K:=by
 unfold y6 aV
 exact aP (iM (v:=T3.t ⟨c.la,c.lb,0⟩) (K:=bK (gR12 X) K) ⋯ (λH Q q=>kch (B:=(3<100/\Q (T3.t ⟨c.la,c.lb,0⟩) H)) ⋯ ⟨by decide,q⟩) h hl k)
theorem g_1011(X:XX C){acc all:List T3}(h:H[na]? =some (.list (acc.map T3.t)))(hl:acc.length<999999)(e:acc++nad t []=all)(k:∀ {H'},Ex H H' na->H'[na]? =some (.list ((all++[T3.mk c.la c.lb 0]).map T3.t))->gR12 X (nL c o1 o2 o3 o4 o5 o6 o7 o8 t na u1 u2 u3) H' K):
  gR10 X (nL c o1 o2 o3 o4 o5 o6 o7 o8 t na u1 u2 u3) H K:=by
 refine kch (g_10 X) ?_
 rw [wW]at e
 subst e
 by_cases q:t.k=0
 ·rw[if_pos q,List.append_nil]at k
  rw [show (t.k != 0)=false from by rw[q];rfl]
  refine bN (g_11 X h (by rw[List.length_map];exact Nat.lt_trans hl (by decide)) (k .set ?_))
  rw [List.map_append];exact aG h _
 ·rw[if_neg q]at k
  rw [show (t.k != 0)=true from bne_iff_ne.mpr q]
  have h1:=aG h (.list (acc.map T3.t++[t.t]))
  refine b5 (nP_i (K:=bK (y6 X) K) h (by rw[List.length_map];exact Nat.lt_trans hl (by decide)) (g_11 X h1 (by rw[List.length_append,List.length_map];exact Nat.succ_lt_succ hl) (k (Ex.set.trans .set) ?_)))
  rw [List.map_append,List.map_append];exact aG h1 _
end
theorem gmb_ok(X:XX C){s ra rb rd rj n:Nat}{fs:Str->Option V}{f:Int->Option V}{Q:EK}(S:SM H s ra rb rd rj n fs f a b)(hm:fs "matching_blocks" =some .none)(al:a.length<200)(ok:∀ r,Run a b [⟨0,a.length,0,b.length⟩] [] r->okSort (r.map T3.v))
  (k:∀ {H' r bl},Ex H H' s->H[r]? =none->r≠s->H'[s]? =some (.inst (fput fs "matching_blocks" (.ref r)))->H'[r]? =some (.list (bl.map T3.v))->Blocks a b bl->Q (.ref r) H'):bM X [.ref s] H Q:=by
 refine kch (aFv X) ⟨rfl,At.mk S.o hm (Lp.mk (v:=.bool false) (H:=H) rfl (Lf.mk (p:=false) rfl (bN ?_)))⟩
 rw [fG_0]
 refine kch (g_2 X) (At.mk S.o S.fa (len_i S.ia S.al (At.mk S.o S.fb (len_i S.ib S.bl ⟨by decide,rfl,?_⟩))))
 rw [aD,aD]
 refine kch (g_34 X) ⟨by decide,2000,?_⟩
 rw [aD,aD]
 have x0:Hx H ((H++[MO.list [Wd.v ⟨0,a.length,0,b.length⟩]])++[MO.list []]):=(Hx.app _ _).trans (.app _ _)
 have el:(H++[MO.list [Wd.v ⟨0,a.length,0,b.length⟩]]).length=H.length+1:=List.length_append
 have gm:H[(H++[MO.list [Wd.v ⟨0,a.length,0,b.length⟩]]).length]? =none:=by rw[el];exact List.getElem?_eq_none (Nat.le_succ _)
 have qm:H.length≠(H++[MO.list [Wd.v ⟨0,a.length,0,b.length⟩]]).length:=by rw[el];exact(Nat.succ_ne_self _).symm
 refine while_ (QI a b ⟨s,a.length,b.length,H.length,(H++[MO.list [Wd.v ⟨0,a.length,0,b.length⟩]]).length⟩ H) (λI=>q_step X (c:=⟨s,a.length,b.length,H.length,(H++[MO.list [Wd.v ⟨0,a.length,0,b.length⟩]]).length⟩) S (aK H) gm qm I ?_) aEv 2000 1000 (by decide)
  (.mk (q:=[⟨0,a.length,0,b.length⟩]) (m:=[]) rfl x0 (Hx.app _ _ _ _ (bW _ _)) (bW _ _) (λv hv=>?_) (λr h=>h) ?_ ?_)
 ·intro lo H1 I
  cases I with
  | @mk q m o1 o2 o3 o4 o5 o6 o7 o8 el hx hq hm w r n1 n2=>
  subst el
  have q0:q= []:=List.eq_nil_of_length_eq_zero (Nat.le_zero.mp (Nat.le_trans (vF q) n1))
  subst q0
  have run:=r m .nil
  have ml:m.length<=1000:=n2
  refine kch (g_6 X) (Lf.mk (dK hm) ⟨ok m run,?_⟩)
  rw [g_6n,qE]
  have h2:=aG hm (.list ((isort T3.i m).map T3.v))
  have x2:Hx H _:=hx.set (m:=.list ((isort T3.i m).map T3.v)) gm
  revert h2 x2
  generalize H1.set _ (.list ((isort T3.i m).map T3.v))=H2
  intro h2 x2
  have sl:(isort T3.i m).length<=1000:=by rw[(cA T3.i m).length_eq];exact ml
  refine kch (g_9 X) ⟨⟨_,aQ (Hx.app _ _ _ _ h2)⟩,_,gU (NI ⟨s,a.length,b.length,H.length,_⟩ H2.length H2 (nad ⟨0,0,0⟩ (isort T3.i m))) (λI=>?_) (λI=>?_) (λI go=>n_step (aK H2) I go) ((isort T3.i m).map T3.v) 0 rfl
   (.mk (acc:=[]) rfl rfl (.app _ _) (bW _ _) rfl (by rw[List.length_nil,Nat.zero_add];exact sl))⟩
  ·cases I with
   |mk el er hx=>exact aQ (hx _ _ h2)
  ·cases I with
   | @mk p1 p2 p3 p4 p5 p6 p7 p8 u1 u2 u3 t acc l el er hx hn e n=>
   subst el
   cases List.map_eq_nil_iff.mp er.symm
   refine g_1011 X hn (by rw[List.length_nil]at n;exact A193 n) e λ{H6} x6 h6=>kch (g_12 X) ⟨⟨_,aQ h6⟩,_,w3 h6 (aK H6) ?_ (λ{H7} x7 h7=>?_) _ [] (List.nil_append _) (.app _ _) (bW _ _)⟩
   ·have:(nad t []).length<=1:=by
     rw [wW];split
     ·exact Nat.zero_le 1
     ·exact Nat.le_refl 1
    have e2:(nad ⟨0,0,0⟩ (isort T3.i m)).length=acc.length+(nad t []).length:=by rw[<-e,List.length_append]
    rw [List.length_append,List.length_singleton]
    exact A194 n this e2
   ·have e7:Hx H H7:=(x2.trans (x6.hx hx (aK H2))).trans x7
    have s7:=e7 _ _ S.o
    have sne:H6.length≠s:=λz=>by
     have:=(x2.trans (x6.hx hx (aK H2))) _ _ S.o
     rw [<-z,aK]at this;cases this
    refine St.mk s7 (At.mk (v:=.ref H6.length) (aG s7 _) ⋯ (k (λj m n e=>aF (e7 _ _ e) n) ((x2.trans (x6.hx hx (aK H2))).fresh) sne (aG s7 _) (aF h7 sne.symm) ⟨m,run,rfl⟩))
 ·cases List.mem_singleton.mp hv
  exact⟨Int.le_refl _,Int.natCast_nonneg _,Int.le_refl _,Int.le_refl _,Int.natCast_nonneg _,Int.le_refl _⟩
 ·show 2*((a.length:Int)-0).toNat+1+0<=1000
  exact Yj1 al
 ·show 0+(2*((a.length:Int)-0).toNat+1+0)<=1000
  exact Yj0 al
end
section
variable {C:Cx}{H:MH}{K Q:SK}{lo:Lo}{a b:List Int}
def Tg.s:Tg->Str | .rep=> "replace" | .del=> "delete" | .ins=> "insert" | .eq=> "equal"
def Op.v(o:Op):V:=.tup [.str o.tag.s,.int o.i1,.int o.i2,.int o.j1,.int o.j2]
def oL(s ans:Nat)(i j:Int)(u1 u2 u3 u4:Option V):Lo:=look [("self",some (.ref s)),("i",some (.int i)),("j",some (.int j)),("answer",some (.ref ans)),("ai",u1),("bj",u2),("size",u3),("tag",u4)]
def oX(s ans:Nat)(i j:Int)(t:T3)(u4:Option V):Lo:=oL s ans i j (some (.int t.i)) (some (.int t.j)) (some (.int t.k)) u4
def oT:AF:=dD 3 (asC (aN "ai") (asC (aN "bj") (asC (aN "size") asN)))
def oP1:SF:=aA (aT (cV (eN "answer") (bY (esC (eN "tag") (esC (eN "i") (esC (eN "ai") (esC (eN "j") (esC (eN "bj") esN)))))))) (sK .next)
def oP2:SF:=aA (aT (cV (eN "answer") (bY (esC (eK (.str "equal")) (esC (eN "ai") (esC (eN "i") (esC (eN "bj") (esC (eN "j") esN)))))))) (sK .next)
def oR3:SF:=aA (sIf (tE (eN "size")) oP2 (sK .next)) (sK .next)
def oR2:SF:=aA (d5 ["i","j"] (bY (esC (aB aH (eN "ai") (eN "size")) (esC (aB aH (eN "bj") (eN "size")) esN)))) oR3
def oR:SF:=aA (sIf (tE (eN "tag")) oP1 (sK .next)) oR2
def oBR(R:SF):SF:=aA (bP "tag" (eK (.str ""))) (aA (sIf (aU (tE (aB (bQ λx y=>decide (x<y)) (eN "i") (eN "ai"))) (aU (tE (aB (bQ λx y=>decide (x<y)) (eN "j") (eN "bj"))) (tK true))) (aA (bP "tag" (eK (.str "replace"))) (sK .next)) (aA (sIf (tE (aB (bQ λx y=>decide (x<y)) (eN "i") (eN "ai"))) (aA (bP "tag" (eK (.str "delete"))) (sK .next)) (aA (sIf (tE (aB (bQ λx y=>decide (x<y)) (eN "j") (eN "bj"))) (aA (bP "tag" (eK (.str "insert"))) (sK .next)) (sK .next)) (sK .next))) (sK .next))) R)
def oB:SF:=oBR oR
section
variable {s ans:Nat}{i j:Int}{u1 u2 u3 u4:Option V}{t:T3}
theorem oT_i(q:oB (oX s ans i j t u4) H K):oT t.v (oL s ans i j u1 u2 u3 u4) H λlo1 H1=>oB lo1 H1 K:=by
 refine kch (B:=(3=3/\oB (upd (upd (upd (oL s ans i j u1 u2 u3 u4) "ai" (.int t.i)) "bj" (.int t.j)) "size" (.int t.k)) H K)) ⋯ ⟨rfl,?_⟩
 unfold oL
 rw [aD,aD,aD]
 exact q
theorem aBf{x y:Str}(q:oR (oX s ans i j t (some (.str y))) H K):oR (upd (upd (oX s ans i j t u4) "tag" (.str x)) "tag" (.str y)) H K:=by
 unfold oX oL
 rw [aD,aD]
 exact q
theorem o_tag0{x:Str}(q:oR (oX s ans i j t (some (.str x))) H K):oR (upd (oX s ans i j t u4) "tag" (.str x)) H K:=by
 unfold oX oL
 rw [aD]
 exact q
theorem oB_nf(R:SF):oBR R (oX s ans i j t u4) H K=(bif decide (i<t.i) then bif decide (j<t.j) then R (upd (upd (oX s ans i j t u4) "tag" (.str "")) "tag" (.str "replace")) H K
   else(bif decide (i<t.i) then R (upd (upd (oX s ans i j t u4) "tag" (.str "")) "tag" (.str "delete")) H K else bif decide (j<t.j) then R (upd (upd (oX s ans i j t u4) "tag" (.str "")) "tag" (.str "insert")) H K else R (upd (oX s ans i j t u4) "tag" (.str "")) H K)
  else(bif decide (i<t.i) then R (upd (upd (oX s ans i j t u4) "tag" (.str "")) "tag" (.str "delete")) H K else bif decide (j<t.j) then R (upd (upd (oX s ans i j t u4) "tag" (.str "")) "tag" (.str "insert")) H K else R (upd (oX s ans i j t u4) "tag" (.str "")) H K)):=by rfl'
theorem t_rep:Str.ofString "replace" =Tg.s .rep:=rfl
theorem t_del:Str.ofString "delete" =Tg.s .del:=rfl
theorem t_ins:Str.ofString "insert" =Tg.s .ins:=rfl
theorem oR_0:oR (oX s ans i j t (some (.str ""))) H K=oR2 (oX s ans i j t (some (.str ""))) H K:=by rfl'
theorem oR_1(g:Tg):oR (oX s ans i j t (some (.str g.s))) H K=oP1 (oX s ans i j t (some (.str g.s))) H (bK oR2 K):=by cases g<;>kernel_rfl
theorem oP1_i{x:Str}{vs:List V}(h:H[ans]? =some (.list vs))(hl:vs.length<1000000)(k:K .next (oX s ans i j t (some (.str x))) (H.set ans (.list (vs++[.tup [.str x,.int i,.int t.i,.int j,.int t.j]])))):oP1 (oX s ans i j t (some (.str x))) H K:=by
 unfold oP1
 exact aP (iM (v:=.tup [.str x,.int i,.int t.i,.int j,.int t.j]) (K:=bK (sK .next) K) ⋯ (λH Q q=>kch (B:=(5<100/\Q (.tup [.str x,.int i,.int t.i,.int j,.int t.j]) H)) ⋯ ⟨by decide,q⟩) h hl k)
theorem oR2_i(q:oR3 (oX s ans (t.i+t.k) (t.j+t.k) t u4) H K):oR2 (oX s ans i j t u4) H K:=by
 refine kch (B:=(2<100/\2=2/\oR3 (upd (upd (oX s ans i j t u4) "j" (.int (t.j+t.k))) "i" (.int (t.i+t.k))) H K)) ⋯ ⟨by decide,rfl,?_⟩
 unfold oX oL
 rw [aD,aD]
 exact q
theorem oR3_nf:oR3 (oX s ans i j t u4) H K=(bif t.k != 0 then oP2 (oX s ans i j t u4) H (bK (sK .next) K) else K .next (oX s ans i j t u4) H):=by rfl'
theorem oP2_i{vs:List V}(h:H[ans]? =some (.list vs))(hl:vs.length<1000000)(k:K .next (oX s ans i j t u4) (H.set ans (.list (vs++[Op.v ⟨.eq,t.i,i,t.j,j⟩])))):oP2 (oX s ans i j t u4) H K:=by
 unfold oP2
 exact aP (iM (v:=Op.v ⟨.eq,t.i,i,t.j,j⟩) (K:=bK (sK .next) K) ⋯ (λH Q q=>kch (B:=(5<100/\Q (Op.v ⟨.eq,t.i,i,t.j,j⟩) H)) ⋯ ⟨by decide,q⟩) h hl k)
theorem oR2_k{acc:List Op}(h:H[ans]? =some (.list (acc.map Op.v)))(hl:acc.length<1000000)(k:∀ {H'},Ex H H' ans->H'[ans]? =some (.list ((acc++if t.k=0 then [] else [Op.mk .eq t.i (t.i+t.k) t.j (t.j+t.k)]).map Op.v))->K .next (oX s ans (t.i+t.k) (t.j+t.k) t u4) H'):
  oR2 (oX s ans i j t u4) H K:=by
 refine oR2_i (kch oR3_nf ?_)
 by_cases q:t.k=0
 ·rw[if_pos q,List.append_nil]at k
  rw [show (t.k != 0)=false from by rw[q];rfl]
  exact bN (k (λ_ _ _ e=>e) h)
 ·rw[if_neg q,List.map_append]at k
  rw [show (t.k != 0)=true from bne_iff_ne.mpr q]
  exact b5 (oP2_i (K:=bK (sK .next) K) h (by rw[List.length_map];exact hl) (k .set (aG h _)))
theorem oR_k(g:Tg){acc:List Op}(h:H[ans]? =some (.list (acc.map Op.v)))(hl:acc.length<999999)(k:∀ {H'},Ex H H' ans->H'[ans]? =some (.list (((acc++[Op.mk g i t.i j t.j])++if t.k=0 then [] else [Op.mk .eq t.i (t.i+t.k) t.j (t.j+t.k)]).map Op.v))->K .next (oX s ans (t.i+t.k) (t.j+t.k) t (some (.str g.s))) H'):
  oR (oX s ans i j t (some (.str g.s))) H K:=by
 refine kch (oR_1 g) (oP1_i (K:=bK oR2 K) h (by rw[List.length_map];exact Nat.lt_trans hl (by decide)) (oR2_k (K:=K) (acc:=acc++[Op.mk g i t.i j t.j]) ?_ ?_ λe h'=>k (Ex.set.trans e) h'))
 ·rw[List.map_append];exact aG h _
 ·rw[List.length_append];exact Nat.succ_lt_succ hl
theorem oB_k{acc:List Op}(h:H[ans]? =some (.list (acc.map Op.v)))(hl:acc.length<999999)(k:∀ {H' u},Ex H H' ans->H'[ans]? =some (.list ((acc++(gap i j t.i t.j++if t.k=0 then [] else [Op.mk .eq t.i (t.i+t.k) t.j (t.j+t.k)])).map Op.v))->K .next (oX s ans (t.i+t.k) (t.j+t.k) t u) H'):
  oB (oX s ans i j t u4) H K:=by
 refine kch (oB_nf oR) ?_
 unfold gap at k
 by_cases q1:i<t.i
 ·by_cases q2:j<t.j
  ·rw[if_pos q1,if_pos q2,<-List.append_assoc]at k
   rw [decide_eq_true q1,decide_eq_true q2]
   rw [t_rep]
   exact b5 (b5 (aBf (oR_k .rep h hl k)))
  ·rw[if_pos q1,if_neg q2,<-List.append_assoc]at k
   rw [decide_eq_true q1,decide_eq_false q2]
   rw [t_del]
   exact b5 (bN (b5 (aBf (oR_k .del h hl k))))
 ·by_cases q2:j<t.j
  ·rw[if_neg q1,if_pos q2,<-List.append_assoc]at k
   rw [decide_eq_false q1,decide_eq_true q2]
   rw [t_ins]
   exact bN (bN (b5 (aBf (oR_k .ins h hl k))))
  ·rw[if_neg q1,if_neg q2,List.nil_append]at k
   rw [decide_eq_false q1,decide_eq_false q2]
   exact bN (bN (bN (o_tag0 (kch oR_0 (oR2_k h (Nat.lt_trans hl (by decide)) k)))))
end
inductive OI(s ans:Nat)(G:MH)(all:List Op)(rest:List V)(lo:Lo)(H:MH):Prop
 |mk {u1 u2 u3 u4:Option V}{i j:Int}{acc:List Op}{l:List T3} (el:lo=oL s ans i j u1 u2 u3 u4) (er:rest=l.map T3.v) (hx:Ex G H ans) (hn:H[ans]? =some (.list (acc.map Op.v)))
   (e:acc++ops i j l=all) (n:acc.length+2*l.length<=100000):OI s ans G all rest lo H
theorem o_step{s ans:Nat}{G:MH}{all:List Op}{v:V}{rest:List V}(I:OI s ans G all (v :: rest) lo H)(go:GoK (OI s ans G all rest) Q K):oT v lo H λlo1 H1=>oB lo1 H1 K:=by
 cases I with
 | @mk u1 u2 u3 u4 i j acc l el er hx hn e n=>
 refine cJ (List.map_eq_cons_iff.mp er.symm) λx l' e1 e2 e3=>?_
 subst e1 e2 e3 el
 rw [List.length_cons]at n
 rw [wS]at e
 refine oT_i (oB_k hn (A197 n) λ{H' u} e' h'=>go.nx (.mk rfl rfl (hx.trans e') h' ?_ ?_))
 ·rw[List.append_assoc,List.append_assoc];exact e
 ·have g1:(gap i j x.i x.j).length<=1:=by
   unfold gap
   split<;>split<;>first |exact Nat.le_refl 1 |exact Nat.zero_le 1
  have g2:(if x.k=0 then [] else [(⟨.eq,x.i,x.i+x.k,x.j,x.j+x.k⟩:Op)]).length<=1:=by
   split
   ·exact Nat.zero_le 1
   ·exact Nat.le_refl 1
  rw [List.length_append,List.length_append]
  exact A198 n g1 g2
end
section
variable {C:Cx}{H:MH}{a b:List Int}
theorem aBi{s r:Nat}{m m':MO}(h:H[s]? =some m)(h':H[r]? =some m')(n:m≠m'):s≠r:=λz=>by
 subst z
 exact n (Option.some.inj (h.symm.trans h'))
theorem Ex.li{H':MH}{s r:Nat}{fs:Str->Option V}{l:List Int}(e:Ex H H' s)(h:H[s]? =some (.inst fs))(q:LI H r l):LI H' r l:=by
 refine xEA (Option.bind_eq_some_iff.mp q) λi hi q=>?_
 refine xEA (Option.bind_eq_some_iff.mp q) λm hm q=>?_
 refine Option.bind_eq_some_iff.mpr ⟨i,hi,Option.bind_eq_some_iff.mpr ⟨m,e _ _ (aBi h hm λz=>?_) hm,q⟩⟩
 subst z
 cases q
theorem SM.ex{H':MH}{s ra rb rd rj n:Nat}{fs fs':Str->Option V}{f:Int->Option V}(S:SM H s ra rb rd rj n fs f a b)(e:Ex H H' s)(o:H'[s]? =some (.inst fs'))(ea:fs' "a" =fs "a")(eb:fs' "b" =fs "b")(ed:fs' "b2j" =fs "b2j")(ej:fs' "bjunk" =fs "bjunk"):
  SM H' s ra rb rd rj n fs' f a b:=
 ⟨o,ea.trans S.fa,eb.trans S.fb,ed.trans S.fd,ej.trans S.fj,e.li S.o S.ia,e.li S.o S.ib,e _ _ (aBi S.o S.d nofun) S.d,e _ _ (aBi S.o S.j nofun) S.j,λv=>(S.bj v).imp_right fun⟨r,js,h1,h2,h3⟩=>⟨r,js,h1,e.li S.o h2,h3⟩,S.al,S.bl⟩
def oN(s i j ans:Option V):Nv:=[("self",s),("i",i),("j",j),("answer",ans),("ai",none),("bj",none),("size",none),("tag",none)]
theorem oN_0{s:Nat}:loB ["self"] [.ref s] lo0=look (oN (some (.ref s)) none none none):=by
 rw [<-eL (oN none none none none) ⋯]
 show upd _ "self" (.ref s)=_
 rw [aD];kernel_rfl
def oR5(X:XX C):SF:=aA (d7 X) (sK .next)
def oR4(X:XX C):SF:=aA (d8 X) (oR5 X)
def oRA(X:XX C)(R:SF):SF:=aA (eA X) (aA (d9 X) R)
theorem wT(X:XX C){s:Nat}{Q:EK}:cB X [.ref s] H Q=(1=1/\At s "opcodes" H λv=>Lp (oIs not v .none H) λv H1=>Lf (tr v H1) λb=>bif b then At s "opcodes" H1 λv=>Q v H1 else oRA X (oR4 X) (loB ["self"] [.ref s] lo0) H1 (m6 Q)):=by rfl'
theorem o_23(X:XX C)(R:SF){s:Nat}{K:SK}:oRA X R (look (oN (some (.ref s)) none none none)) H K=(St s "opcodes" (.ref H.length) (H++[.list []]) λH2=>R (upd (upd (upd (look (oN (some (.ref s)) none none none)) "i" (.int 0)) "j" (.int 0)) "answer" (.ref H.length)) H2 K):=by rfl'
theorem o_4(X:XX C){s ans:Nat}{K:SK}:oR4 X (oL s ans 0 0 none none none none) H K=((∃ ff,H[s]? =some (.inst ff))/\bM X [.ref s] H λv H2=>Lf v.rf λi=>(∃ vs,lst H2 (.ref i)=some vs)/\∃ n,cY (b9 C) oT oB n (i,0) (oL s ans 0 0 none none none none) H2 (bK (oR5 X) K)):=by rfl'
theorem o_5(X:XX C){s ans:Nat}{i j:Int}{u1 u2 u3 u4:Option V}{Q:EK}:oR5 X (oL s ans i j u1 u2 u3 u4) H (m6 Q)=Q (.ref ans) H:=by rfl'
def fsO(fs:Str->Option V)(ans r:Nat):Str->Option V:=fput (fput fs "opcodes" (.ref ans)) "matching_blocks" (.ref r)
theorem go_ok(X:XX C){s ra rb rd rj n:Nat}{fs:Str->Option V}{f:Int->Option V}{Q:EK}(S:SM H s ra rb rd rj n fs f a b)(hm:fs "matching_blocks" =some .none)(ho:fs "opcodes" =some .none)(al:a.length<200)(ok:∀ r,Run a b [⟨0,a.length,0,b.length⟩] [] r->okSort (r.map T3.v))
  (len:∀ bl,Blocks a b bl->bl.length<=1000)
  (k:∀ {H' r bl},Ex H H' s->H.length≠s->H'[s]? =some (.inst (fsO fs H.length r))->H'[H.length]? =some (.list ((ops 0 0 bl).map Op.v))->Blocks a b bl->Q (.ref H.length) H'):cB X [.ref s] H Q:=by
 refine kch (wT X) ⟨rfl,At.mk S.o ho (Lp.mk (v:=.bool false) (H:=H) rfl (Lf.mk (p:=false) rfl (bN ?_)))⟩
 rw [oN_0]
 have x1:=Hx.app H [MO.list []]
 have ns:H.length≠s:=aR S.o
 refine kch (o_23 X (oR4 X)) (St.mk (x1 _ _ S.o) ?_)
 rw [aD,aD,aD]
 have s2:=aG (x1 _ _ S.o) (.inst (fput fs "opcodes" (.ref H.length)))
 have a2:((H++[MO.list []]).set s (.inst (fput fs "opcodes" (.ref H.length))))[H.length]? =some (.list []):=aF (bW _ _) ns.symm
 have e2:Ex H ((H++[MO.list []]).set s (.inst (fput fs "opcodes" (.ref H.length)))) s:=λj m n e=>aF (x1 _ _ e) n
 have S2:=S.ex e2 s2 ⋯ ⋯ ⋯ ⋯
 refine kch (o_4 X) ⟨⟨_,s2⟩,gmb_ok X S2 (kch (B:=fs "matching_blocks" =some .none) ⋯ hm) al ok λ{H3 r bl} e3 hr rs s3 h3 B=>Lf.mk (p:=r) rfl ⟨⟨_,aQ h3⟩,_,gU (OI s H.length H3 (ops 0 0 bl)) (λI=>?_) (λI=>?_) (λI go=>o_step I go) (bl.map T3.v) 0 rfl
  (.mk (acc:=[]) rfl rfl (λ_ _ _ e=>e) (e3 _ _ ns.symm a2) rfl (by have:=len bl B;rw[List.length_nil];exact A200 this))⟩⟩
 ·cases I with
  |mk el er hx=>exact aQ (hx _ _ (λz=>by rw[<-z,a2]at hr;cases hr) h3)
 ·cases I with
  | @mk u1 u2 u3 u4 i j acc l el er hx hn e n=>
  subst el
  cases List.map_eq_nil_iff.mp er.symm
  rw [ops_n,List.append_nil]at e
  subst e
  exact kch (o_5 X) (k (λj m q h=>hx _ _ (λz=>by rw[<-z,aK]at h;cases h) (e3 _ _ q (e2 _ _ q h))) ns (hx _ _ ns s3) hn B)
end
section
variable {C:Cx}{H:MH}{a b:List Int}
theorem Run.okSort{r:List T3}(h:Run a b [⟨0,a.length,0,b.length⟩] [] r)(rl:r.length<64):okSort (r.map T3.v):=by
 refine⟨λv hv=>?_,List.pairwise_map.mpr h.sorted.1,by rw[List.length_map];exact rl⟩
 refine xEA (List.mem_map.mp hv) λt _ e=>?_
 exact e▸rfl
theorem Blocks.len{l:List T3}(h:Blocks a b l)(al:a.length<200):l.length<=1000:=by
 refine xEA h λr h1 h2=>?_
 have:=rH (isort T3.i r) ⟨0,0,0⟩
 rw [(cA T3.i r).length_eq]at this
 have:=h1.len
 rw [h2,List.length_append,List.length_singleton]
 omega
def Ops(a b:List Int)(l:List Op):Prop:=∃ bl,Blocks a b bl/\l=ops 0 0 bl
theorem vD(X:XX C){s ra rb rd rj n:Nat}{fs:Str->Option V}{f:Int->Option V}{Q:EK}(S:SM H s ra rb rd rj n fs f a b)(hm:fs "matching_blocks" =some .none)(ho:fs "opcodes" =some .none)(al:a.length<200)(rl:∀ r,Run a b [⟨0,a.length,0,b.length⟩] [] r->r.length<64)
  (k:∀ {H' r l},Ex H H' s->H.length≠s->H'[s]? =some (.inst (fsO fs H.length r))->H'[H.length]? =some (.list (l.map Op.v))->Ops a b l->Q (.ref H.length) H'):cB X [.ref s] H Q:=
 go_ok X S hm ho al (λr h=>h.okSort (rl r h)) (λbl h=>h.len al) λe1 e2 e3 e4 B=>k e1 e2 e3 e4 ⟨_,B,rfl⟩
end
section
variable {C:Cx}{H:MH}{K Q:SK}{a b:List Int}
def Tg.isEq:Tg->Bool | .eq=>true |_=>false
def Op.hd(o:Op)(n:Int):Op:=⟨o.tag,o.i1,min o.i2 (o.i1+n),o.j1,min o.j2 (o.j1+n)⟩
def Op.tl(o:Op)(n:Int):Op:=⟨o.tag,max o.i1 (o.i2-n),o.i2,max o.j1 (o.j2-n),o.j2⟩
def pQ(n:Int)(o:Op):Bool:=o.tag.isEq && decide (o.i2-o.i1>n+n)
def jF(cur:List Op):Bool:=match cur with | []=>false | [o]=> !o.tag.isEq |_=>true
def grps(n:Int)(cur:List Op):List Op->List (List Op)
 | []=>bif jF cur then [cur] else []
 |o :: l=>bif pQ n o then(cur++[o.hd n]) :: grps n [o.tl n] l else grps n (cur++[o]) l
theorem aCs(n:Int)(cur:List Op):grps n cur []=bif jF cur then [cur] else []:=rfl
theorem iQ(n:Int)(cur:List Op)(o:Op)(l:List Op):grps n cur (o :: l)=bif pQ n o then(cur++[o.hd n]) :: grps n [o.tl n] l else grps n (cur++[o]) l:=rfl
def nZ(n:Int):List Op->List Op
 | []=>[]
 |o :: l=>(bif o.tag.isEq then o.tl n else o) :: l
def eF(n:Int):List Op->List Op
 | []=>[]
 | [o]=>[bif o.tag.isEq then o.hd n else o]
 |o :: l=>o :: eF n l
def fX:List Op->List Op
 | []=>[⟨.eq,0,1,0,1⟩]
 |l=>l
def groups(n:Int)(l:List Op):List (List Op):=grps n [] (eF n (nZ n (fX l)))
def kL(s:Nat)(n:Int)(cd:Nat)(gr:Nat)(u1 u2 u3 u4 u5:Option V):Lo:=
 look [("self",some (.ref s)),("n",some (.int n)),("codes",some (.ref cd)),("nn",some (.int (n+n))),("group",some (.ref gr)),("tag",u1),("i1",u2),("i2",u3),("j1",u4),("j2",u5)]
def kX(s:Nat)(n:Int)(cd gr:Nat)(o:Op):Lo:=kL s n cd gr (some (.str o.tag.s)) (some (.int o.i1)) (some (.int o.i2)) (some (.int o.j1)) (some (.int o.j2))
section
variable {s cd gr:Nat}{n:Int}{u1 u2 u3 u4 u5:Option V}{o:Op}
theorem gtgt_i(X:XX C){R:Lo->MH->Prop}(q:R (kX s n cd gr o) H):aCx X o.v (kL s n cd gr u1 u2 u3 u4 u5) H R:=by
 refine kch (B:=(5=5/\R (upd (upd (upd (upd (upd (kL s n cd gr u1 u2 u3 u4 u5) "tag" (.str o.tag.s)) "i1" (.int o.i1)) "i2" (.int o.i2)) "j1" (.int o.j1)) "j2" (.int o.j2)) H)) ⋯ ⟨rfl,?_⟩
 unfold kL
 rw [aD,aD,aD,aD,aD]
 exact q
theorem sA(H:MH)(g:Tg):eqv H (.str g.s) (.str "equal")=some g.isEq:=by cases g<;>kernel_rfl
theorem gfc_i(X:XX C){P:Bool->MH->Prop}(q:P (pQ n o) H):g_fc X (kX s n cd gr o) H P:=by
 refine kch (B:=(Lp (bE id (.str o.tag.s) (.str "equal") H) λv H1=>Lf (tr v H1) λt=>bif t then(bif decide (o.i2-o.i1>n+n) then P true H1 else P false H1) else P false H1)) ⋯
  (Lp.mk (v:=.bool o.tag.isEq) (H:=H) (by unfold bE;rw[sA];rfl) (Lf.mk (p:=o.tag.isEq) rfl ?_))
 unfold pQ at q
 cases e:o.tag.isEq with
 |false=>rw [e]at q;exact q
 |true=>
  rw [e,Bool.true_and]at q
  cases e2:decide (o.i2-o.i1>n+n) with
  |false=>rw [e2]at q;exact q
  |true=>rw [e2]at q;exact q
theorem gf1_i(X:XX C){vs:List V}(h:H[gr]? =some (.list vs))(hl:vs.length<1000000)(k:K .next (kX s n cd gr o) (H.set gr (.list (vs++[(o.hd n).v])))):g_f1 X (kX s n cd gr o) H K:=
 iM (v:=(o.hd n).v) (K:=K) ⋯ (λH Q q=>kch (B:=(5<100/\Q (o.hd n).v H)) ⋯ ⟨by decide,q⟩) h hl k
theorem gf3_i(X:XX C){vs:List V}(h:H[gr]? =some (.list vs))(hl:vs.length<1000000)(k:K .next (kX s n cd gr o) (H.set gr (.list (vs++[o.v])))):g_f3 X (kX s n cd gr o) H K:=
 iM (v:=o.v) (K:=K) ⋯ (λH Q q=>kch (B:=(5<100/\Q o.v H)) ⋯ ⟨by decide,q⟩) h hl k
theorem gf2_i(X:XX C)(k:K .next (kX s n cd H.length (o.tl n)) (H++[.list []])):g_f2 X (kX s n cd gr o) H K:=by
 refine kch (B:=(2<100/\2=2/\K .next (upd (upd (upd (kX s n cd gr o) "group" (.ref H.length)) "j1" (.int (max o.j1 (o.j2-n)))) "i1" (.int (max o.i1 (o.i2-n)))) (H++[.list []]))) ⋯ ⟨by decide,rfl,?_⟩
 unfold kX kL
 rw [aD,aD,aD]
 exact k
end
end
section
variable {C:Cx}{H:MH}{a b:List Int}
section
variable {s cd gr:Nat}{n:Int}{u1 u2 u3 u4 u5:Option V}
theorem aFu(X:XX C){P:Bool->MH->Prop}:xD X (kL s n cd gr u1 u2 u3 u4 u5) H P=(Lf (tr (.ref gr) H) λt=>bif t then
  Lp ((lst H (.ref gr)).bind λxs=>if xs.length<1000000 then some (.int xs.length,H) else none) λm H1=>Lp (bE id m (.int 1) H1) λv H2=>Lf (tr v H2) λt=>bif t then
   (Lp (aM (.ref gr) (.int 0) H2) λv H3=>Lp (aM v (.int 0) H3) λv H4=>Lp (bE id v (.str "equal") H4) λv H5=>Lf (tr v H5) λt=>bif t then(bif !true then P true H5 else P false H5) else(bif !false then P true H5 else P false H5))
   else(bif !false then P true H2 else P false H2)
  else P false H):=by rfl'
theorem gfc2_i(X:XX C){P:Bool->MH->Prop}{cur:List Op}(h:H[gr]? =some (.list (cur.map Op.v)))(hl:cur.length<1000000)(q:P (jF cur) H):xD X (kL s n cd gr u1 u2 u3 u4 u5) H P:=by
 have hl':(cur.map Op.v).length<1000000:=by rw[List.length_map];exact hl
 refine kch (aFu X) (Lf.mk (qP h hl') ?_)
 have len:((lst H (.ref gr)).bind λxs=>if xs.length<1000000 then some (V.int xs.length,H) else none)=some (.int (cur.map Op.v).length,H):=by
  rw [aQ h]
  exact if_pos hl'
 match cur,h,len,q with
 | [],h,len,q=>exact q
 | [o],h,len,q=>
  refine b5 (Lp.mk len (Lp.mk (v:=.bool true) (H:=H) ⋯ (Lf.mk (p:=true) rfl (b5 (Lp.mk (v:=o.v) (H:=H) ?_ (Lp.mk (v:=.str o.tag.s) (H:=H) rfl (Lp.mk (v:=.bool o.tag.isEq) (H:=H) ?_ (Lf.mk (p:=o.tag.isEq) rfl ?_))))))))
  ·show((lst H (.ref gr)).bind (at_ 0)).map _=_
   rw [aQ h];rfl
  ·unfold bE;rw[sA];rfl
  ·have q:P (!o.tag.isEq) H:=q
   cases e:o.tag.isEq with
   |false=>rw [e]at q;exact q
   |true=>rw [e]at q;exact q
 |o :: o2 :: l,h,len,q=>
  refine b5 (Lp.mk len (Lp.mk (v:=.bool false) (H:=H) ?_ (Lf.mk (p:=false) rfl (bN (b5 q)))))
  have e:(((o :: o2 :: l).map Op.v).length:Int)≠1:=by rw[List.length_map,List.length_cons,List.length_cons];exact A204
  unfold bE
  rw [aF1,decide_eq_false e];rfl
end
def Ex2(H H':MH)(i i':Nat):Prop:=∀ (j:Nat) (m:MO),i≠j->i'≠j->H[j]? =some m->H'[j]? =some m
theorem Ex2.trans{H H1 H2:MH}{i i':Nat}(h:Ex2 H H1 i i')(h':Ex2 H1 H2 i i'):Ex2 H H2 i i':=λj m n n' e=>h' j m n n' (h j m n n' e)
theorem Ex2.set{H:MH}{i i':Nat}{m m':MO}:Ex2 H ((H.set i m).set i' m') i i':=λj x n n' e=>aF (aF e n) n'
theorem Ex2.set1{H:MH}{i i':Nat}{m:MO}:Ex2 H (H.set i m) i i':=λj x n n' e=>aF e n
theorem iv_of{i:Nat}{p:Nat×Nat}(h:H[i]? =some (.itr (some p))):H[i]?.bind MO.iv=some p:=by rw[h];rfl
structure OutK(s:Nat)(n:Int)(cd it gr:Nat)(all:List Op)(p0:Nat)(H:MH)(gs:List (List Op))(Q:k7->MH->Prop):Prop where
 yl:∀ {H' o p g},Ex2 H H' it gr->H'[it]? =some (.itr (some (cd,p)))->H'[gr]? =some (.list (g.map Op.v))->gs=g :: grps n [o.tl n] (all.drop p)->p0<p->p<=all.length->Q (.yl it (kX s n cd gr o) (.ref gr)) H'
 yr:∀ {H' lo g},Ex2 H H' it gr->H'[gr]? =some (.list (g.map Op.v))->gs= [g]->Q (.yr lo (.ref gr)) H'
 dn:∀ {H'},Ex2 H H' it gr->gs= []->Q .done H'
theorem rN(X:XX C){s cd it gr:Nat}{n:Int}{all:List Op}{Q:k7->MH->Prop}{p0:Nat}(ci:it≠cd)(gi:it≠gr)(cg:gr≠cd):∀ (rest:List Op){cur:List Op}{p:Nat}{H:MH}{u1 u2 u3 u4 u5:Option V},
  p0<=p->all.drop p=rest->H[cd]? =some (.list (all.map Op.v))->H[it]? =some (.itr (some (cd,p)))->H[gr]? =some (.list (cur.map Op.v))->cur.length+rest.length<=1000->OutK s n cd it gr all p0 H (grps n cur rest) Q->
  (gfn X).loopN (rest.length+1) it (kL s n cd gr u1 u2 u3 u4 u5) H Q
 | [],cur,p,H,u1,u2,u3,u4,u5,h0,hd,hc,hi,hg,hl,K=>by
  refine Lf.mk (iv_of hi) (Lf.mk (aQ hc) ?_)
  show(match (all.map Op.v)[p]? with |some v=>_ |none=>(gfn X).tail _ (H.set it (.itr none)) Q)
  rw [List.getElem?_eq_none (by rw[List.length_map];exact List.drop_eq_nil_iff.mp hd)]
  have hg':=aF (m':=.itr none) hg gi
  refine gfc2_i X hg' (by rw[List.length_nil]at hl;exact A205 hl) ?_
  cases e:jF cur with
  |false=>exact bN (K.dn .set1 (by rw[aCs,e];rfl))
  |true=>exact b5 (kch (B:=Q (.yr (kL s n cd gr u1 u2 u3 u4 u5) (.ref gr)) (H.set it (.itr none))) ⋯ (K.yr .set1 hg' (by rw[aCs,e];rfl)))
 |o :: rest,cur,p,H,u1,u2,u3,u4,u5,h0,hd,hc,hi,hg,hl,K=>by
  have hp:all[p]? =some o:=by rw[<-List.head?_drop,hd];rfl
  have hpl:p+1<=all.length:=(List.getElem?_eq_some_iff.mp hp).1
  have hd':all.drop (p+1)=rest:=by rw[<-List.drop_drop,hd];rfl
  rw [List.length_cons]at hl
  have cl:(cur.map Op.v).length<1000000:=by rw[List.length_map];exact A191 hl
  refine Lf.mk (iv_of hi) (Lf.mk (aQ hc) ?_)
  show(match (all.map Op.v)[p]? with |some v=>_ |none=>_)
  rw [List.getElem?_map,hp]
  have hg':=aF (m':=.itr (some (cd,p+1))) hg gi
  have hi':=aG hi (.itr (some (cd,p+1)))
  refine gtgt_i X (gfc_i X ?_)
  cases e:pQ n o with
  |true=>
   refine b5 (gf1_i X hg' cl (kch (B:=Q (.yl it (kX s n cd gr o) (.ref gr)) ((H.set it (.itr (some (cd,p+1)))).set gr (.list (cur.map Op.v++[(o.hd n).v])))) ⋯ (K.yl (g:=cur++[o.hd n]) .set (aF hi' gi.symm) ?_ ?_ (Nat.lt_succ_of_le h0) hpl)))
   ·rw[List.map_append];exact aG hg' _
   ·rw[iQ,e,hd'];rfl
  |false=>
   refine bN (gf3_i X hg' cl ?_)
   refine rN X ci gi cg rest (cur:=cur++[o]) (p:=p+1) (Nat.le_succ_of_le h0) hd' (aF (aF hc ci) cg) (aF hi' gi.symm) ?_ ?_ ?_
   ·rw[List.map_append];exact aG hg' _
   ·rw[List.length_append,List.length_singleton];exact A192 hl
   ·have eg:grps n (cur++[o]) rest=grps n cur (o :: rest):=by rw[iQ,e];rfl
    rw [eg]
    exact⟨λe1=>K.yl (Ex2.set.trans e1),λe1=>K.yr (Ex2.set.trans e1),λe1=>K.dn (Ex2.set.trans e1)⟩
end
section
variable {C:Cx}{H:MH}{a b:List Int}
theorem xB{i:Nat}{g:Gn}(h:H[i]? =some (.gen g)):H[i]?.bind MO.gn=some g:=by rw[h];rfl
inductive GsA(H:MH)(it gi ai:Nat):List Nat->List (List Op)->Prop
 |nil:GsA H it gi ai [] []
 |cons {r:Nat}{g:List Op}{rs:List Nat}{gs:List (List Op)} (h:H[r]? =some (.list (g.map Op.v))) (n1:it≠r) (n2:gi≠r) (n3:ai≠r) (t:GsA H it gi ai rs gs):GsA H it gi ai (r :: rs) (g :: gs)
theorem GsA.to{H':MH}{it gi ai:Nat}{rs:List Nat}{gs:List (List Op)}(h:GsA H it gi ai rs gs)(k:∀ (r:Nat) (m:MO),it≠r->gi≠r->ai≠r->H[r]? =some m->H'[r]? =some m):GsA H' it gi ai rs gs:=by
 induction h with
 |nil=>exact .nil
 |cons h n1 n2 n3 _ ih=>exact .cons (k _ _ n1 n2 n3 h) n1 n2 n3 ih
theorem GsA.snoc{it gi ai r:Nat}{g:List Op}{rs:List Nat}{gs:List (List Op)}(h:GsA H it gi ai rs gs)(h1:H[r]? =some (.list (g.map Op.v)))(n1:it≠r)(n2:gi≠r)(n3:ai≠r):GsA H it gi ai (rs++[r]) (gs++[g]):=by
 induction h with
 |nil=>exact .cons h1 n1 n2 n3 .nil
 |cons h m1 m2 m3 _ ih=>exact .cons h m1 m2 m3 ih
def Hp(B:Nat->Option MO)(H:MH):Prop:=∀ (i:Nat) (m:MO),B i=some m->H[i]? =some m
section
variable {B:Nat->Option MO}{H1:MH}
theorem Hp.hx(h:Hp B H)(x:Hx H H1):Hp B H1:=λi m e=>x _ _ (h i m e)
theorem Hp.set{i:Nat}{m:MO}(h:Hp B H)(n:B i=none):Hp B (H.set i m):=λj x e=>aF (h j x e) λq=>aI (n.symm.trans (q▸e))
theorem Hp.fresh(h:Hp B H):B H.length=none:=by
 cases e:B H.length with
 |none=>rfl
 |some m=>exact aI ((aK H).symm.trans (h _ _ e))
end
structure GW(B:Nat->Option MO)(s:Nat)(n:Int)(cd it gi ai gr:Nat)(all:List Op)(total:List (List Op))(o:Op)(p:Nat)(rs:List Nat)(H:MH):Prop where
 hx:Hp B H
 g:H[gi]? =some (.gen (.loop it (kX s n cd gr o)))
 c:H[cd]? =some (.list (all.map Op.v))
 i:H[it]? =some (.itr (some (cd,p)))
 a:H[ai]? =some (.list (rs.map V.ref))
 l:rs.length<=p
 pl:p<=all.length
 e:∃ gs,GsA H it gi ai rs gs/\gs++grps n [o.tl n] (all.drop p)=total
structure GO(B:Nat->Option MO)(cd it gi ai:Nat)(all:List Op):Prop where
 bi:B it=none
 bg:B gi=none
 ba:B ai=none
 ic:it≠cd
 ig:it≠gi
 ia:it≠ai
 gc:gi≠cd
 ga:gi≠ai
 ac:ai≠cd
 al:all.length<=900
theorem Ex2.hx{G:Nat->Option MO}{H H':MH}{i i':Nat}(h:Ex2 H H' i i')(x:Hp G H)(hi:G i=none)(hi':G i'=none):Hp G H':=λj m e=>
 h j m (λz=>by rw[z,e]at hi;cases hi) (λz=>by rw[z,e]at hi';cases hi') (x j m e)
def exK(X:XX C)(ai gi N:Nat)(P:MH->Prop):Option V->MH->Prop:=λo H'=>match o with
 |none=>P H'
 |some v=>Lf (H'[ai]?.bind MO.own) λvs=>vs.length<1000000/\dQ (nR X.gc 6 λL=>X.gv L) ai N gi (H'.set ai (.list (vs++[v]))) P
theorem aC7(X:XX C){ai gi N:Nat}{P:MH->Prop}(h:(gfn X).nx gi H (exK X ai gi N P)):dQ (nR X.gc 6 λL=>X.gv L) ai (N+1) gi H P:=by
 refine kch (congrArg ((gfn X).nx gi H) (?_:_=exK X ai gi N P)) h
 funext o H'
 cases o<;>rfl
theorem uC(X:XX C){ai gi N:Nat}{P:MH->Prop}{lo:Lo}(h:H[gi]? =some (.gen (.last lo)))(q:P (H.set gi (.gen .fin))):dQ (nR X.gc 6 λL=>X.gv L) ai (N+1) gi H P:=
 aC7 X (Lf.mk (xB h) q)
theorem xC(X:XX C){B:Nat->Option MO}{s cd it gi ai:Nat}{n:Int}{all:List Op}{total:List (List Op)}{P:MH->Prop}(O:GO B cd it gi ai all)(k:∀ {H' rs},Hp B H'->H'[ai]? =some (.list (rs.map V.ref))->GsA H' it gi ai rs total->P H'):
  ∀ (N:Nat){gr p:Nat}{o:Op}{rs:List Nat}{H:MH},all.length-p<N->GW B s n cd it gi ai gr all total o p rs H->dQ (nR X.gc 6 λL=>X.gv L) ai (N+1) gi H P
 |0,_,_,_,_,_,hN,_=>absurd hN (Nat.not_lt_zero _)
 |N+1,gr,p,o,rs,H,hN,W=>by
  refine aC7 X (Lf.mk (xB W.g) ?_)
  show g_f2 X (kX s n cd gr o) (H.set gi (.gen .run)) _
  refine gf2_i X ?_
  have rn:=aG W.g (.gen .run)
  have keep:∀ (r:Nat) (m:MO),gi≠r->H[r]? =some m->(H.set gi (.gen .run))[r]? =some m:=λr m q e=>aF e q
  have x1:Hp B (H.set gi (.gen .run)):=W.hx.set O.bg
  have c1:=keep _ _ O.gc W.c
  have i1:=keep _ _ O.ig.symm W.i
  have a1:=keep _ _ O.ga W.a
  have gkeep:=λr m (q:gi≠r) e=>keep r m q e
  refine xEA W.e λgs hgs etot=>?_
  have gs1:GsA (H.set gi (.gen .run)) it gi ai rs gs:=hgs.to λr m _ q _ e=>keep r m q e
  have rl:=W.l
  have pl:=W.pl
  have al:=O.al
  revert rn x1 c1 i1 a1 gs1
  generalize H.set gi (.gen .run)=H1
  intro rn x1 c1 i1 a1 gs1
  show g_f3 X (kX s n cd H1.length (o.tl n)) (H1++[.list []]) _
  refine gf3_i X (vs:=[]) (bW _ _) (by decide) ⟨_,rN X (p0:=p) O.ic (aR i1).symm (aR c1) (all.drop p) (cur:=[o.tl n]) (Nat.le_refl _) rfl (aF (Hx.app _ _ _ _ c1) (aR c1)) (aF (Hx.app _ _ _ _ i1) (aR i1)) (aG (bW _ _) _) ?_ ?_⟩
  ·rw[List.length_drop,List.length_singleton];exact A206 al
  have k3:∀ (r:Nat) (m:MO),H1[r]? =some m->((H1++[MO.list []]).set H1.length (.list ([]++[(o.tl n).v])))[r]? =some m:=λr m e=>aF (Hx.app _ _ _ _ e) (aR e)
  have x3:Hp B ((H1++[MO.list []]).set H1.length (.list ([]++[(o.tl n).v]))):=λr m e=>k3 r m (x1 r m e)
  have fr:B H1.length=none:=x1.fresh
  refine⟨λ{H' o' p' g} e hi hg et h0 hpl=>?_,λ{H' lo g} e hg et=>?_,λ{H'} e et=>?_⟩
  ·have a':=e _ _ O.ia (aR a1) (k3 _ _ a1)
   refine⟨e _ _ O.ig (aR rn) (k3 _ _ rn),Lf.mk (dK (aF a' O.ga)) ⟨by rw[List.length_map];exact A207 rl al h0 hpl,xC (s:=s) (n:=n) X O k N (p:=p') (o:=o') (gr:=H1.length) (rs:=rs++[H1.length]) (A208 hN h0 hpl) ?_⟩⟩
   have r':=e _ _ O.ig (aR rn) (k3 _ _ rn)
   refine⟨((e.hx x3 O.bi fr).set O.bg).set O.ba,aF (aG r' _) O.ga.symm,aF (aF (e _ _ O.ic (aR c1) (k3 _ _ c1)) O.gc) O.ac,aF (aF hi O.ig.symm) O.ia.symm,?_,?_,hpl,gs++[g],?_,?_⟩
   ·rw[List.map_append];exact aG (aF a' O.ga) _
   ·rw[List.length_append,List.length_singleton];exact A209 rl h0
   ·exact GsA.snoc (gs1.to λr m n1 n2 n3 q=>aF (aF (e _ _ n1 (aR q) (k3 _ _ q)) n2) n3) (aF (aF hg (aR rn).symm) (aR a1).symm) (aR i1).symm (aR rn).symm (aR a1).symm
   ·rw[List.append_assoc,<-etot,et];rfl
  ·have a':=e _ _ O.ia (aR a1) (k3 _ _ a1)
   have r':=e _ _ O.ig (aR rn) (k3 _ _ rn)
   refine⟨r',Lf.mk (dK (aF a' O.ga)) ⟨by rw[List.length_map];exact A210 rl pl al,?_⟩⟩
   refine uC X (aF (aG r' _) O.ga.symm) (k (rs:=rs++[H1.length]) ((((e.hx x3 O.bi fr).set O.bg).set O.ba).set O.bg) ?_ ?_)
   ·rw[List.map_append];exact aF (aG (aF a' O.ga) _) O.ga
   ·rw[<-etot,et]
    exact GsA.snoc (gs1.to λr m n1 n2 n3 q=>aF (aF (aF (e _ _ n1 (aR q) (k3 _ _ q)) n2) n3) n2) (aF (aF (aF hg (aR rn).symm) (aR a1).symm) (aR rn).symm) (aR i1).symm (aR rn).symm (aR a1).symm
  ·have a':=e _ _ O.ia (aR a1) (k3 _ _ a1)
   refine⟨e _ _ O.ig (aR rn) (k3 _ _ rn),k (rs:=rs) ((e.hx x3 O.bi fr).set O.bg) (aF a' O.ga) ?_⟩
   rw [<-etot,et,List.append_nil]
   exact gs1.to λr m n1 n2 n3 q=>aF (e _ _ n1 (aR q) (k3 _ _ q)) n2
end
section
variable {C:Cx}{H:MH}{a b:List Int}
def kP(s:Nat)(n:Int)(cd nn gr u1 u2 u3 u4 u5:Option V):Lo:=
 look [("self",some (.ref s)),("n",some (.int n)),("codes",cd),("nn",nn),("group",gr),("tag",u1),("i1",u2),("i2",u3),("j1",u4),("j2",u5)]
theorem kP_0{s:Nat}{n:Int}:loB ["self","n"] [.ref s,.int n] lo0=kP s n none none none none none none none none:=by
 rw [<-eL [("self",none),("n",none),("codes",none),("nn",none),("group",none),("tag",none),("i1",none),("i2",none),("j1",none),("j2",none)] ⋯]
 show upd (upd (look _) "self" (.ref s)) "n" (.int n)=_
 rw [aD,aD];kernel_rfl
def pT:AF:=dD 5 (asC (aN "tag") (asC (aN "i1") (asC (aN "i2") (asC (aN "j1") (asC (aN "j2") asN)))))
section
variable {s cd:Nat}{n:Int}{c1 u1 u2 u3 u4 u5:Option V}{o:Op}{K:SK}
theorem gp_1(X:XX C)(R:SF):aA (rX X) (aA (rW X) R) (kP s n none none none u1 u2 u3 u4 u5) H K=((∃ ff,H[s]? =some (.inst ff))/\cB X [.ref s] H λv H1=>R (upd (kP s n none none none u1 u2 u3 u4 u5) "codes" v) H1 K):=by rfl'
theorem gp_2(X:XX C)(R:SF):aA (kB X) R (kP s n (some (.ref cd)) none none u1 u2 u3 u4 u5) H K=(Lf (tr (.ref cd) H) λt=>bif !t then(5<100/\R (upd (kP s n (some (.ref cd)) none none u1 u2 u3 u4 u5) "codes" (.ref H.length)) (H++[.list [Op.v ⟨.eq,0,1,0,1⟩]]) K) else R (kP s n (some (.ref cd)) none none u1 u2 u3 u4 u5) H K):=by rfl'
def pA(R:SF):SF:=aA (cX (bY (esC (eN "tag") (esC (aO v0 (esC (eN "i1") (esC (aB cK (eN "i2") (eN "n")) esN))) (esC (eN "i2") (esC (aO v0 (esC (eN "j1") (esC (aB cK (eN "j2") (eN "n")) esN))) (esC (eN "j2") esN)))))) (pS (eN "codes") (eK (.int 0)))) R
def pZ(R:SF):SF:=aA (cX (bY (esC (eN "tag") (esC (eN "i1") (esC (aO vZ (esC (eN "i2") (esC (aB aH (eN "i1") (eN "n")) esN))) (esC (eN "j1") (esC (aO vZ (esC (eN "j2") (esC (aB aH (eN "j1") (eN "n")) esN))) esN)))))) (pS (eN "codes") (dR (eK (.int 1))))) R
theorem gp_3(X:XX C)(R:SF):aA (kA X) R (kP s n (some (.ref cd)) none none u1 u2 u3 u4 u5) H K=(Lp (aM (.ref cd) (.int 0) H) λv H1=>Lp (aM v (.int 0) H1) λw H2=>Lp (bE id w (.str "equal") H2) λe H3=>Lf (tr e H3) λt=>
  bif t then(Lp (aM (.ref cd) (.int 0) H3) λv H4=>pT v (kP s n (some (.ref cd)) none none u1 u2 u3 u4 u5) H4 λlo1 H5=>pA (sK .next) lo1 H5 (bK R K)) else R (kP s n (some (.ref cd)) none none u1 u2 u3 u4 u5) H3 K):=by rfl'
theorem gp_4(X:XX C)(R:SF):aA (j9 X) R (kP s n (some (.ref cd)) none none u1 u2 u3 u4 u5) H K=(Lp (aM (.ref cd) (.int (-1)) H) λv H1=>Lp (aM v (.int 0) H1) λw H2=>Lp (bE id w (.str "equal") H2) λe H3=>Lf (tr e H3) λt=>
  bif t then(Lp (aM (.ref cd) (.int (-1)) H3) λv H4=>pT v (kP s n (some (.ref cd)) none none u1 u2 u3 u4 u5) H4 λlo1 H5=>pZ (sK .next) lo1 H5 (bK R K)) else R (kP s n (some (.ref cd)) none none u1 u2 u3 u4 u5) H3 K):=by rfl'
def kPX(s:Nat)(n:Int)(cd:Nat)(o:Op):Lo:=kP s n (some (.ref cd)) none none (some (.str o.tag.s)) (some (.int o.i1)) (some (.int o.i2)) (some (.int o.j1)) (some (.int o.j2))
theorem pT_i{R:Lo->MH->Prop}(q:R (kPX s n cd o) H):pT o.v (kP s n (some (.ref cd)) none none u1 u2 u3 u4 u5) H R:=by
 refine kch (B:=(5=5/\R (upd (upd (upd (upd (upd (kP s n (some (.ref cd)) none none u1 u2 u3 u4 u5) "tag" (.str o.tag.s)) "i1" (.int o.i1)) "i2" (.int o.i2)) "j1" (.int o.j1)) "j2" (.int o.j2)) H)) ⋯ ⟨rfl,?_⟩
 unfold kP
 rw [aD,aD,aD,aD,aD]
 exact q
theorem pA_nf(R:SF):pA R (kPX s n cd o) H K=(5<100/\Lf (yR (.ref cd) (.int 0) (o.tl n).v H) λH'=>R (kPX s n cd o) H' K):=by rfl'
theorem pZ_nf(R:SF):pZ R (kPX s n cd o) H K=(5<100/\Lf (yR (.ref cd) (.int (-1)) (o.hd n).v H) λH'=>R (kPX s n cd o) H' K):=by rfl'
theorem gp_56(X:XX C):aA (mK X) (aA (mJ X) (sK .next)) (kP s n (some (.ref cd)) none none u1 u2 u3 u4 u5) H K=K .next (upd (upd (kP s n (some (.ref cd)) none none u1 u2 u3 u4 u5) "nn" (.int (n+n))) "group" (.ref H.length)) (H++[.list []]):=by rfl'
theorem gp_56n{gr:Nat}:upd (upd (kP s n (some (.ref cd)) none none u1 u2 u3 u4 u5) "nn" (.int (n+n))) "group" (.ref gr)=kL s n cd gr u1 u2 u3 u4 u5:=by
 unfold kP kL
 rw [aD,aD];kernel_rfl
end
theorem mZ(n:Nat):seqIndex? (-1) (n+1)=some n:=by
 unfold seqIndex?
 rw [if_pos (by decide:(-1:Int)<0)]
 have e: -1+((n+1:Nat):Int)=n:=A211
 rw [e]
 exact if_pos (by rw[decide_eq_true (Int.natCast_nonneg n),decide_eq_true (by exact A212:(n:Int)<((n+1:Nat):Int))];rfl)
theorem seq_0(n:Nat):seqIndex? 0 (n+1)=some 0:=eD (Int.le_refl 0) A213
theorem lK{cd j:Nat}{i:Int}{vs:List V}{v:V}(h:H[cd]? =some (.list vs))(b: -1000000<i/\i<1000000)(e:seqIndex? i vs.length=some j)(hv:vs[j]? =some v):aM (.ref cd) (.int i) H=some (v,H):=by
 show((lst H (.ref cd)).bind (at_ i)).map _=_
 rw [aQ h]
 show(at_ i vs).map _=_
 unfold at_
 rw [if_pos b,e]
 show(vs[j]?).map _=_
 rw [hv];rfl
theorem uW{cd j:Nat}{i:Int}{vs:List V}{v:V}(h:H[cd]? =some (.list vs))(b: -1000000<i/\i<1000000)(e:seqIndex? i vs.length=some j):yR (.ref cd) (.int i) v H=some (H.set cd (.list (vs.set j v))):=by
 show H[cd]?.bind (setO H cd i v)=_
 rw [h]
 show(if-1000000<i/\i<1000000 then(seqIndex? i vs.length).map λj=>H.set cd (.list (vs.set j v)) else none)=_
 rw [if_pos b,e];rfl
theorem uT{o:Op}{Q:EK}(q:Q (.str o.tag.s) H):Lp (aM o.v (.int 0) H) Q:=Lp.mk (v:=.str o.tag.s) (H:=H) rfl q
theorem w7{g:Tg}{Q:Bool->MH->Prop}(q:Q g.isEq H):Lp (bE id (.str g.s) (.str "equal") H) λe H3=>Lf (tr e H3) λt=>Q t H3:=
 Lp.mk (v:=.bool g.isEq) (H:=H) (by unfold bE;rw[sA];rfl) (Lf.mk (p:=g.isEq) rfl q)
section
variable {s cd:Nat}{n:Int}{u1 u2 u3 u4 u5:Option V}{o:Op}{K:SK}{R:SF}
theorem qH(l:List Op):nZ n (o :: l)=(bif o.tag.isEq then o.tl n else o) :: l:=rfl
theorem gp3_i(X:XX C){l:List Op}(h:H[cd]? =some (.list ((o :: l).map Op.v)))(k:∀ {H' u1 u2 u3 u4 u5},Ex H H' cd->H'[cd]? =some (.list ((nZ n (o :: l)).map Op.v))->R (kP s n (some (.ref cd)) none none u1 u2 u3 u4 u5) H' K):
  aA (kA X) R (kP s n (some (.ref cd)) none none u1 u2 u3 u4 u5) H K:=by
 have b0: -1000000<(0:Int)/\(0:Int)<1000000:=by decide
 have ix:=seq_0 (l.map Op.v).length
 have e1:=lK h b0 ix (v:=o.v) rfl
 refine kch (gp_3 X R) (Lp.mk e1 (uT (w7 (Q:=λt H3=>bif t then _ else _) ?_)))
 rw [qH]at k
 cases e:o.tag.isEq with
 |false=>rw [e]at k;exact bN (k (λ_ _ _ q=>q) h)
 |true=>
  rw [e]at k
  exact b5 (Lp.mk e1 (pT_i (kch (pA_nf (sK .next)) ⟨by decide,Lf.mk (uW h b0 ix) (k .set (aG h _))⟩)))
theorem lN:∀ l:List Op,eF n (l++[o])=l++[bif o.tag.isEq then o.hd n else o]
 | []=>rfl
 | [x]=>rfl
 |x :: y :: l=>by
  show x :: eF n (y :: l++[o])=_
  rw [lN (y :: l)];rfl
theorem gp4_i(X:XX C){l:List Op}(h:H[cd]? =some (.list ((l++[o]).map Op.v)))(k:∀ {H' u1 u2 u3 u4 u5},Ex H H' cd->H'[cd]? =some (.list ((eF n (l++[o])).map Op.v))->R (kP s n (some (.ref cd)) none none u1 u2 u3 u4 u5) H' K):
  aA (j9 X) R (kP s n (some (.ref cd)) none none u1 u2 u3 u4 u5) H K:=by
 have b0: -1000000<(-1:Int)/\(-1:Int)<1000000:=by decide
 rw [List.map_append]at h
 have ix:seqIndex? (-1) (l.map Op.v++[o].map Op.v).length=some (l.map Op.v).length:=by rw[List.length_append];exact mZ _
 have e1:=lK h b0 ix (v:=o.v) (by rw[List.getElem?_append_right (Nat.le_refl _),Nat.sub_self];rfl)
 refine kch (gp_4 X R) (Lp.mk e1 (uT (w7 (Q:=λt H3=>bif t then _ else _) ?_)))
 rw [lN]at k
 cases e:o.tag.isEq with
 |false=>rw [e,List.map_append]at k;exact bN (k (λ_ _ _ q=>q) h)
 |true=>
  rw [e,List.map_append]at k
  refine b5 (Lp.mk e1 (pT_i (kch (pZ_nf (sK .next)) ⟨by decide,Lf.mk (uW h b0 ix) (k .set ?_)⟩)))
  have:=aG h (.list ((l.map Op.v++[o].map Op.v).set (l.map Op.v).length (o.hd n).v))
  rw [List.set_append_right _ _ (Nat.le_refl _),Nat.sub_self]at this ⊢
  exact this
end
end
section
variable {C:Cx}{H:MH}{a b:List Int}
section
variable {s cd:Nat}{n:Int}{u1 u2 u3 u4 u5:Option V}{K:SK}{R:SF}
theorem gp2_i(X:XX C){l:List Op}(h:H[cd]? =some (.list (l.map Op.v)))(hl:l.length<1000000)(k:∀ {H' cd'},Hx H H'->H'[cd']? =some (.list ((fX l).map Op.v))->(l≠ []/\cd'=cd)∨(l= []/\cd'=H.length)->R (kP s n (some (.ref cd')) none none u1 u2 u3 u4 u5) H' K):
  aA (kB X) R (kP s n (some (.ref cd)) none none u1 u2 u3 u4 u5) H K:=by
 refine kch (gp_2 X R) (Lf.mk (qP h (by rw[List.length_map];exact hl)) ?_)
 cases l with
 |nil=>
  refine b5 ⟨by decide,?_⟩
  unfold kP at k ⊢
  rw [aD]
  exact k (.app _ _) (bW _ _) (.inr ⟨rfl,rfl⟩)
 |cons o l=>exact bN (k (.refl _) h (.inl ⟨nofun,rfl⟩))
end
def gR3(X:XX C):SF:=aA (kA X) (aA (j9 X) (aA (mK X) (aA (mJ X) (sK .next))))
theorem lZ(l:List Op):∃ o l',fX l=o :: l':=by
 cases l with
 |nil=>exact⟨_,_,rfl⟩
 |cons o l=>exact⟨o,l,rfl⟩
theorem vW(l:List Op):(fX l).length<=l.length+1:=by
 cases l with
 |nil=>exact Nat.le_refl 1
 |cons o l=>exact Nat.le_succ _
theorem aC3(n:Int)(l:List Op):∃ L o,nZ n (fX l)=L++[o]:=by
 refine xEE (lZ l) λo l' e=>?_
 rw [e,qH]
 rcases List.eq_nil_or_concat ((bif o.tag.isEq then o.tl n else o) :: l') with h |⟨L,x,h⟩
 ·cases h
 ·exact⟨L,x,by rw[h,List.concat_eq_append]⟩
theorem gp34_i(X:XX C){s cd:Nat}{n:Int}{u1 u2 u3 u4 u5:Option V}{K:SK}{l:List Op}(h:H[cd]? =some (.list ((fX l).map Op.v)))
  (k:∀ {H' u1 u2 u3 u4 u5},Ex H H' cd->H'[cd]? =some (.list ((eF n (nZ n (fX l))).map Op.v))->K .next (kL s n cd H'.length u1 u2 u3 u4 u5) (H'++[.list []])):gR3 X (kP s n (some (.ref cd)) none none u1 u2 u3 u4 u5) H K:=by
 refine xEE (lZ l) λo l' e=>?_
 refine xEE (aC3 n l) λL x e2=>?_
 rw [e]at h
 refine gp3_i X h λ{H1 u1 u2 u3 u4 u5} x1 h1=>?_
 rw [<-e,e2]at h1
 refine gp4_i X h1 λ{H2 u1 u2 u3 u4 u5} x2 h2=>kch (gp_56 X) ?_
 rw [gp_56n]
 rw [<-e2]at h2
 exact k (x1.trans x2) h2
end
section
variable {C:Cx}{H:MH}{a b:List Int}
theorem tW(n:Int)(l:List Op):(nZ n l).length=l.length:=by cases l<;>rfl
theorem nY(n:Int):∀ l:List Op,(eF n l).length=l.length
 | []=>rfl
 | [x]=>rfl
 |x :: y :: l=>by
  show(x :: eF n (y :: l)).length=_
  rw [List.length_cons,nY n (y :: l)];rfl
def jP(n:Int):List Op->List Op
 | []=>[]
 |o :: l=>eF n (nZ n (o :: l))
theorem tV(n:Int):∀ l:List Op,(jP n l).length=l.length
 | []=>rfl
 |o :: l=>by
  show(eF n (nZ n (o :: l))).length=_
  rw [nY,tW]
structure Rdy(X:XX C)(B H:MH)(s:Nat)(W:List Op):Prop where
 bs:B[s]? =none
 hx:Hx B H
 o:∃ ff,H[s]? =some (.inst ff)
 op:∀ {H1:MH}{Q:EK},Hx H H1->(∀ {H2 fs oc},Ex H1 H2 s->H2[s]? =some (.inst fs)->fs "opcodes" =some (.ref oc)->H2[oc]? =some (.list (W.map Op.v))->B[oc]? =none->(∀ g,H[g]? =none->(∃ m,H1[g]? =some m)->g≠oc)->Q (.ref oc) H2)->cB X [.ref s] H1 Q
theorem Hx.no{B:MH}{r:Nat}(x:Hx B H)(h:H[r]? =none):B[r]? =none:=by
 cases c:B[r]? with
 |none=>rfl
 |some m=>exact aI (h.symm.trans (x _ _ c))
section
variable {B:MH}{s:Nat}{W:List Op}
theorem Rdy.kept(X:XX C){fs:Str->Option V}{oc:Nat}(bs:B[s]? =none)(hx:Hx B H)(ho:H[s]? =some (.inst fs))(hf:fs "opcodes" =some (.ref oc))(hc:H[oc]? =some (.list (W.map Op.v)))(bc:B[oc]? =none):Rdy X B H s W:=
 ⟨bs,hx,⟨_,ho⟩,λ{H1 Q} x1 k=>kch (wT X) ⟨rfl,At.mk (x1 _ _ ho) hf (Lp.mk (v:=.bool true) (H:=H1) rfl (Lf.mk (p:=true) rfl (b5 (At.mk (x1 _ _ ho) hf (k (λ_ _ _ e=>e) (x1 _ _ ho) hf (x1 _ _ hc) bc λg hg _ q=>aI (hg.symm.trans (q▸hc)))))))⟩⟩
theorem Rdy.new(X:XX C){ra rb rd rj m:Nat}{fs:Str->Option V}{f:Int->Option V}(S:SM H s ra rb rd rj m fs f a b)(hm:fs "matching_blocks" =some .none)(ho:fs "opcodes" =some .none)(al:a.length<200)(rl:∀ r,Run a b [⟨0,a.length,0,b.length⟩] [] r->r.length<64)(hx:Hx B H)(bs:B[s]? =none)(hW:∀ l,Ops a b l->l=W):Rdy X B H s W:=
 ⟨bs,hx,⟨_,S.o⟩,λ{H1 Q} x1 k=>vD X (S.hx x1) hm ho al rl λ{H2 r l} e1 e2 e3 e4 O=>by
  rw [hW l O]at e4
  exact k e1 e3 ⋯ e4 (hx.no (x1.no (aK H1))) λg _ h q=>h.elim λm h=>aI ((aK H1).symm.trans (q▸h))⟩
def pP(H:MH)(i j:Nat):Nat->Option MO:=λr=>if r=i∨r=j then none else H[r]?
theorem but2_i{i j:Nat}:pP H i j i=none:=if_pos (.inl rfl)
theorem but2_j{i j:Nat}:pP H i j j=none:=if_pos (.inr rfl)
theorem aGa{i j:Nat}:Hp (pP H i j) H:=λr m e=>by
 unfold pP at e
 split at e
 ·exact aI e
 ·exact e
theorem Hp.b2{H':MH}{i j r:Nat}{m:MO}(h:Hp (pP H i j) H')(e:H[r]? =some m)(n1:i≠r)(n2:j≠r):H'[r]? =some m:=
 h _ _ ((if_neg λq=>q.elim (λq=>n1 q.symm) λq=>n2 q.symm).trans e)
theorem vN(X:XX C){n:Int}{P:MH->Prop}(D:Rdy X B H s W)(ll:W.length<=200)
  (k:∀ {H' rs it},Rdy X B H' s (jP n W)->H'[(H++[MO.gen (.fresh (loB ["self","n"] [.ref s,.int n] lo0))]).length]? =some (.list (rs.map V.ref))->GsA H' it H.length (H++[MO.gen (.fresh (loB ["self","n"] [.ref s,.int n] lo0))]).length rs (groups n W)->P H'):
  dQ (nR X.gc 6 λL=>X.gv L) (H++[MO.gen (.fresh (loB ["self","n"] [.ref s,.int n] lo0))]).length 2001 H.length ((H++[MO.gen (.fresh (loB ["self","n"] [.ref s,.int n] lo0))])++[.list []]) P:=by
 refine aC7 X (Lf.mk (xB (Hx.app _ _ _ _ (bW H (.gen (.fresh (loB ["self","n"] [.ref s,.int n] lo0)))))) ?_)
 show aCy X (loB ["self","n"] [.ref s,.int n] lo0) _ _
 rw [kP_0]
 have el:(H++[MO.gen (.fresh (kP s n none none none none none none none none))]).length=H.length+1:=List.length_append
 have ga:H.length≠(H++[MO.gen (.fresh (kP s n none none none none none none none none))]).length:=by rw[el];exact(Nat.succ_ne_self _).symm
 have ha:H[(H++[MO.gen (.fresh (kP s n none none none none none none none none))]).length]? =none:=((Hx.app H [MO.gen (.fresh (kP s n none none none none none none none none))])).fresh
 rw [kP_0]at k
 have xr:Hx H (((H++[MO.gen (.fresh (kP s n none none none none none none none none))])++[MO.list []]).set H.length (.gen .run)):=((Hx.app _ _).trans (.app _ _)).set (aK H)
 have rr:(((H++[MO.gen (.fresh (kP s n none none none none none none none none))])++[MO.list []]).set H.length (.gen .run))[H.length]? =some (.gen .run):=aG (Hx.app _ _ _ _ (bW _ _)) _
 have ra:(((H++[MO.gen (.fresh (kP s n none none none none none none none none))])++[MO.list []]).set H.length (.gen .run))[(H++[MO.gen (.fresh (kP s n none none none none none none none none))]).length]? =some (.list []):=aF (bW _ _) ga
 refine xE D.o λff so=>?_
 have gs:H.length≠s:=aR so
 have as:(H++[MO.gen (.fresh (kP s n none none none none none none none none))]).length≠s:=aR (Hx.app _ _ _ _ so)
 have hg:=aK H
 revert ga ha xr rr ra as k hg gs
 generalize (H++[MO.gen (.fresh (kP s n none none none none none none none none))]).length=ai
 generalize ((H++[MO.gen (.fresh (kP s n none none none none none none none none))])++[MO.list []]).set H.length (.gen .run)=Hr
 generalize H.length=gi
 intro k ga ha xr rr ra gs as hg
 have bg:=D.hx.no hg
 have ba:=D.hx.no ha
 refine kch (gp_1 X _) ⟨⟨_,xr _ _ so⟩,D.op xr λ{H2 fs oc} e2 s2 hf h2 bo ng=>?_⟩
 have x2:Hx B H2:=e2.hx (D.hx.trans xr) D.bs
 have r2:=e2 _ _ gs.symm rr
 have a2:=e2 _ _ as.symm ra
 have go:=ng gi hg ⟨_,rr⟩
 have ao:=ng ai ha ⟨_,ra⟩
 unfold kP
 rw [aD]
 show aA (kB X) (gR3 X) (kP s n (some (.ref oc)) none none none none none none none) H2 _
 refine gp2_i X h2 (A310 ll) λ{H3 cd} x3 h3 hcd=>gp34_i X h3 λ{H4 u1 u2 u3 u4 u5} e4 h4=>?_
 have so':cd≠s:=λq=>by
  subst q
  exact absurd (h3.symm.trans (x3 _ _ s2)) nofun
 have fin:gi≠cd/\ai≠cd/\B[cd]? =none/\H4[oc]? =some (.list ((jP n W).map Op.v)):=by
  rcases hcd with ⟨ne,rfl⟩ |⟨e,rfl⟩
  ·refine⟨go,ao,bo,?_⟩
   cases W with
   |nil=>exact absurd rfl ne
   |cons o l=>exact h4
  ·refine⟨(aR r2).symm,(aR a2).symm,x2.fresh,?_⟩
   subst e
   exact e4 _ _ (aR h2) (x3 _ _ h2)
 clear hcd
 refine xAA fin λgc ac fin=>?_
 refine xA fin λbc oc4=>?_
 have x4:Hx B H4:=e4.hx (x2.trans x3) bc
 have r4:=e4 _ _ gc.symm (x3 _ _ r2)
 have a4:=e4 _ _ ac.symm (x3 _ _ a2)
 have s4:=e4 _ _ so' (x3 _ _ s2)
 have K:∀ {H' rs it},Hp (pP H4 gi ai) H'->H'[ai]? =some (.list (rs.map V.ref))->GsA H' it gi ai rs (groups n W)->P H':=λ{H' rs it} h h1 h2=>
  k (.kept X D.bs (λr m e=>h.b2 (x4 _ _ e) (λq=>aI (bg.symm.trans (q▸e))) λq=>aI (ba.symm.trans (q▸e))) (h.b2 s4 gs as) hf (h.b2 oc4 go ao) bo) h1 h2
 have b4:Hp (pP H4 gi ai) H4:=aGa
 have bg':pP H4 gi ai gi=none:=but2_i
 have ba':pP H4 gi ai ai=none:=but2_j
 revert K b4 bg' ba'
 generalize pP H4 gi ai=B'
 clear k
 intro k b4 bg ba
 have alen:(eF n (nZ n (fX W))).length<=201:=by rw[nY,tW];exact Nat.le_trans (vW W) (Nat.succ_le_succ ll)
 have c5:=Hx.app H4 [MO.list []] _ _ h4
 have g5:=bW H4 (.list [])
 have r5:=Hx.app H4 [MO.list []] _ _ r4
 have a5:=Hx.app H4 [MO.list []] _ _ a4
 have x5:Hp B' (H4++[MO.list []]):=b4.hx (.app _ _)
 have gb:=b4.fresh
 have cg:=aR h4
 have rg:=aR r4
 have ag:=aR a4
 refine kch (B:=((∃ vs,lst (H4++[MO.list []]) (.ref cd)=some vs)/\(gfn X).loop (H4++[MO.list []]).length (kL s n cd H4.length u1 u2 u3 u4 u5) ((H4++[MO.list []])++[.itr (some (cd,0))]) (GFn.finK gi (exK X ai gi 2000 P)))) ⋯ ⟨⟨_,aQ c5⟩,?_⟩
 revert c5 g5 r5 a5 x5 gb cg rg ag
 generalize H4.length=gr
 generalize H4++[MO.list []]=H5
 intro c5 g5 r5 a5 x5 gb cg rg ag
 have O':GO B' cd H5.length gi ai (eF n (nZ n (fX W))):=⟨x5.fresh,bg,ba,aR c5,aR r5,aR a5,gc,ga,ac,Nat.le_trans alen (by decide)⟩
 have k6:Hx H5 (H5++[MO.itr (some (cd,0))]):=.app _ _
 have x6:Hp B' (H5++[MO.itr (some (cd,0))]):=x5.hx k6
 refine⟨_,rN X (p0:=0) O'.ic (aR g5) cg (eF n (nZ n (fX W))) (cur:=[]) (Nat.le_refl _) rfl (k6 _ _ c5) (bW _ _) (k6 _ _ g5) (by rw[List.length_nil];exact A311 alen) ⟨λ{H' o' p' g} e hi hg et h0 hpl=>?_,λ{H' lo g} e hg et=>?_,λ{H'} e et=>?_⟩⟩
 ·have a':=e _ _ O'.ia ag (k6 _ _ a5)
  have r':=e _ _ O'.ig rg (k6 _ _ r5)
  refine⟨r',Lf.mk (dK (aF a' ga)) ⟨by decide,xC (s:=s) (n:=n) X O' (total:=groups n W) (λq1 q2 q3=>k q1 q2 q3) 1999 (p:=p') (o:=o') (gr:=gr) (rs:=[gr]) (A312 alen) ?_⟩⟩
  refine⟨((e.hx x6 O'.bi gb).set bg).set ba,aF (aG r' _) ga.symm,aF (aF (e _ _ O'.ic cg (k6 _ _ c5)) gc) ac,aF (aF hi O'.ig.symm) O'.ia.symm,aG (aF a' ga) _,h0,hpl,[g],?_,et.symm⟩
  exact .cons (aF (aF hg rg.symm) ag.symm) (aR g5) rg.symm ag.symm .nil
 ·have a':=e _ _ O'.ia ag (k6 _ _ a5)
  have r':=e _ _ O'.ig rg (k6 _ _ r5)
  refine⟨r',Lf.mk (dK (aF a' ga)) ⟨by decide,uC X (aF (aG r' _) ga.symm) (k (rs:=[gr]) (it:=H5.length) ((((e.hx x6 O'.bi gb).set bg).set ba).set bg) (aF (aG (aF a' ga) _) ga) ?_)⟩⟩
  rw [show groups n W= [g] from et]
  exact .cons (aF (aF (aF hg rg.symm) ag.symm) rg.symm) (aR g5) rg.symm ag.symm .nil
 ·have a':=e _ _ O'.ia ag (k6 _ _ a5)
  have r':=e _ _ O'.ig rg (k6 _ _ r5)
  refine⟨r',k (rs:=[]) (it:=H5.length) ((e.hx x6 O'.bi gb).set bg) (aF a' ga) ?_⟩
  rw [show groups n W= [] from et]
  exact .nil
theorem at_rdy(X:XX C){n:Int}{Q:EK}(D:Rdy X B H s W)(ll:W.length<=200)
  (k:∀ {H' r rs it gi},Rdy X B H' s (jP n W)->H'[r]? =some (.list (rs.map V.ref))->GsA H' it gi r rs (groups n W)->Q (.ref r) H'):
  lP (nR X.gc 6 λL=>X.gv L) (λi=>i) [.ref H.length] (H++[MO.gen (.fresh (loB ["self","n"] [.ref s,.int n] lo0))]) Q:=by
 have g:=xB (bW H (.gen (.fresh (loB ["self","n"] [.ref s,.int n] lo0))))
 have e:isG (H++[MO.gen (.fresh (loB ["self","n"] [.ref s,.int n] lo0))]) [.ref H.length]=some H.length:=by
  show((H++[MO.gen (.fresh (loB ["self","n"] [.ref s,.int n] lo0))])[H.length]?.bind MO.gn).map _=_
  rw [g];rfl
 have go:=vN X (n:=n) (P:=λH'=>Q (.ref (H++[MO.gen (.fresh (loB ["self","n"] [.ref s,.int n] lo0))]).length) H') D ll λq1 q2 q3=>k q1 q2 q3
 unfold lP
 rw [e]
 exact⟨_,go⟩
end
end
section
variable {a b:List Int}{n:Int}
def eqO(i j k:Int):Op:=⟨.eq,i,i+k,j,j+k⟩
def chO(g:Tg)(i j i' j':Int):Op:=⟨g,i,i',j,j'⟩
inductive Gk(n:Int)(a b:List Int):List Op->Int->Int->List Op->List (List Op)->Prop
 |e0 {cur:List Op}:Gk n a b cur a.length b.length [] [cur]
 |e1 {cur:List Op}{i j k:Int} (p:0<k) (m:Mt a b i j k) (ei:i+k=a.length) (ej:j+k=b.length):Gk n a b cur i j [eqO i j k] [cur++[(eqO i j k).hd n]]
 |join {cur:List Op}{i j k i' j':Int}{g:Tg}{rest:List Op}{gs:List (List Op)} (p:0<k) (hk:k<=n+n) (m:Mt a b i j k) (hg:g.isEq=false) (hi:i+k<=i') (hj:j+k<=j')
   (h:Gk n a b (cur++[eqO i j k,chO g (i+k) (j+k) i' j']) i' j' rest gs):Gk n a b cur i j (eqO i j k :: chO g (i+k) (j+k) i' j' :: rest) gs
 |cut {cur:List Op}{i j k i' j':Int}{g:Tg}{rest:List Op}{gs:List (List Op)} (p:0<k) (hk:n+n<k) (m:Mt a b i j k) (hg:g.isEq=false) (hi:i+k<=i') (hj:j+k<=j')
   (h:Gk n a b [(eqO i j k).tl n,chO g (i+k) (j+k) i' j'] i' j' rest gs):Gk n a b cur i j (eqO i j k :: chO g (i+k) (j+k) i' j' :: rest) ((cur++[(eqO i j k).hd n]) :: gs)
theorem aFk{g:Tg}(h:g≠ .eq):g.isEq=false:=by
 cases g with
 |eq=>exact absurd rfl h
 |_=>rfl
theorem mL{o:Op}(h:o.tag.isEq=false):∀ l:List Op,eF n (o :: l)=o :: eF n l
 | []=>by
  show [bif o.tag.isEq then o.hd n else o]= [o]
  rw [h];rfl
 |x :: l=>rfl
theorem j8{o:Op}(h:o.tag.isEq=false)(cur l:List Op):grps n cur (o :: l)=grps n (cur++[o]) l:=by
 have:pQ n o=false:=by unfold pQ;rw[h];rfl
 rw [iQ,this];rfl
theorem aFq(cur:List Op)(x y:Op)(l:List Op):jF (cur++(x :: y :: l))=true:=by
 cases cur with
 |nil=>rfl
 |cons z t=>cases t<;>rfl
theorem vJ{cur:List Op}(h:jF cur=true)(x:Op):jF (cur++[x])=true:=by
 cases cur with
 |nil=>cases h
 |cons z t=>cases t<;>rfl
theorem big_eq{i j k:Int}:pQ n (eqO i j k)=decide (n+n<k):=by
 show decide (i+k-i>n+n)=_
 rw [show i+k-i=k from A214]
theorem v6{o:Op}(n0:0<=n):pQ n (o.hd n)=false:=by
 have: ¬(min o.i2 (o.i1+n)-o.i1>n+n):=by
  have:=Int.min_le_right o.i2 (o.i1+n)
  exact A215 n0
 show(o.tag.isEq && decide (min o.i2 (o.i1+n)-o.i1>n+n))=false
 rw [decide_eq_false this,Bool.and_false]
theorem Cod.end{f:Option Bool}{i j:Int}{l:List Op}(h:Cod a b f i j l)(e:l= []):i=a.length/\j=b.length:=by
 cases h with
 |nil=>exact⟨rfl,rfl⟩
 |eq=>cases e
 |ch=>cases e
inductive CoI(a b:List Int)(f:Option Bool)(i j:Int):Op->List Op->Prop
 |eq {k:Int}{l:List Op} (hf:f≠some true) (p:0<k) (m:Mt a b i j k) (h:Cod a b (some true) (i+k) (j+k) l):CoI a b f i j (eqO i j k) l
 |ch {i' j':Int}{g:Tg}{l:List Op} (hf:f≠some false) (hg:g.isEq=false) (hi:i<=i') (hj:j<=j') (h:Cod a b (some false) i' j' l):CoI a b f i j (chO g i j i' j') l
theorem Cod.inv{f:Option Bool}{i j:Int}{o:Op}{l:List Op}(h:Cod a b f i j (o :: l)):CoI a b f i j o l:=by
 generalize e:o :: l=L at h
 cases h with
 |nil=>cases e
 |eq hf p m h=>cases e;exact .eq hf p m h
 |ch hf hg hi hj lt h=>cases e;exact .ch hf (aFk hg) hi hj h
theorem Gk.of(n0:0<=n):∀ {rest:List Op}{cur:List Op}{i j:Int},Cod a b (some false) i j rest->jF cur=true->Gk n a b cur i j rest (grps n cur (eF n rest))
 | [],cur,i,j,h,hc=>by
  refine xA (h.end rfl) λz186 z187=>?_;subst z186;subst z187
  show Gk n a b cur _ _ [] (bif jF cur then [cur] else [])
  rw [hc];exact .e0
 | [o],cur,i,j,h,hc=>by
  cases h.inv with
  |ch hf=>exact absurd rfl hf
  | @eq k _ hf p m h=>
   show Gk n a b cur i j [eqO i j k] (grps n cur [(eqO i j k).hd n])
   rw [iQ,v6 n0]
   show Gk n a b cur i j [eqO i j k] (bif jF (cur++[(eqO i j k).hd n]) then [cur++[(eqO i j k).hd n]] else [])
   rw [vJ hc]
   exact .e1 p m (h.end rfl).1 (h.end rfl).2
 |o :: c :: rest,cur,i,j,h,hc=>by
  cases h.inv with
  |ch hf=>exact absurd rfl hf
  | @eq k _ hf p m h=>
   cases h.inv with
   |eq hf=>exact absurd rfl hf
   | @ch i' j' g _ hf hg hi hj h=>
   show Gk n a b cur i j (eqO i j k :: chO g (i+k) (j+k) i' j' :: rest) (grps n cur (eqO i j k :: eF n (chO g (i+k) (j+k) i' j' :: rest)))
   rw [iQ,big_eq,mL (o:=chO g (i+k) (j+k) i' j') hg,j8 (o:=chO g (i+k) (j+k) i' j') hg,j8 (o:=chO g (i+k) (j+k) i' j') hg]
   by_cases q:n+n<k
   ·rw[decide_eq_true q]
    exact .cut p q m hg hi hj (Gk.of n0 h rfl)
   ·rw[decide_eq_false q]
    refine .join p (Int.not_lt.mp q) m hg hi hj ?_
    rw [cond_false,List.append_assoc]
    exact Gk.of n0 h (aFq _ _ _ _)
inductive Gp(n:Int)(a b:List Int):List Op->List (List Op)->Prop
 |no {l:List Op} (h:l= []∨∃ k,l= [eqO 0 0 k]) (e:a=b):Gp n a b l []
 |ch {g:Tg}{i j:Int}{rest:List Op}{gs:List (List Op)} (hg:g.isEq=false) (hi:0<=i) (hj:0<=j) (h:Gk n a b [chO g 0 0 i j] i j rest gs):Gp n a b (chO g 0 0 i j :: rest) gs
 |eq {g:Tg}{k i j:Int}{rest:List Op}{gs:List (List Op)} (p:0<k) (m:Mt a b 0 0 k) (hg:g.isEq=false) (hi:k<=i) (hj:k<=j) (h:Gk n a b [(eqO 0 0 k).tl n,chO g k k i j] i j rest gs):Gp n a b (eqO 0 0 k :: chO g k k i j :: rest) gs
theorem len0{l:List Int}{z:Int}(h:z=0)(e:z=l.length):l= []:=List.eq_nil_of_length_eq_zero (A216 h e)
theorem mt_all{k:Int}(m:Mt a b 0 0 k)(ea:k=a.length)(eb:k=b.length):a=b:=by
 refine List.ext_getElem (A217 ea eb) λt h1 h2=>?_
 have:=m t (Int.natCast_nonneg t) (A218 eb h2)
 unfold av at this
 rw [Int.zero_add,Int.toNat_natCast,List.getD_eq_getElem?_getD,List.getD_eq_getElem?_getD,List.getElem?_eq_getElem h1,List.getElem?_eq_getElem h2]at this
 exact this
theorem big_tl{o:Op}(n0:0<=n):pQ n (o.tl n)=false:=by
 have: ¬(o.i2-max o.i1 (o.i2-n)>n+n):=by
  have:=Int.le_max_right o.i1 (o.i2-n)
  exact A219 n0
 show(o.tag.isEq && decide (o.i2-max o.i1 (o.i2-n)>n+n))=false
 rw [decide_eq_false this,Bool.and_false]
theorem Gp.of(n0:0<=n):∀ {l:List Op},Cod a b none 0 0 l->Gp n a b l (groups n l)
 | [],h=>by
  have e:groups n []= []:=by
   show grps n [] [((eqO 0 0 1).tl n).hd n]= []
   rw [iQ,v6 n0];rfl
  rw [e]
  refine xA (h.end rfl) λh1 h2=>?_
  exact .no (.inl rfl) ((len0 rfl h1).trans (len0 rfl h2).symm)
 | [o],h=>by
  cases h.inv with
  | @ch i' j' g _ hf hg hi hj h=>
   have e:groups n [chO g 0 0 i' j']=grps n [chO g 0 0 i' j'] (eF n []):=by
    show grps n [] (eF n ((bif g.isEq then _ else chO g 0 0 i' j') :: []))=_
    rw [hg,cond_false,mL (o:=chO g 0 0 i' j') hg,j8 (o:=chO g 0 0 i' j') hg];rfl
   rw [e]
   exact .ch hg hi hj (Gk.of n0 h (by show(!g.isEq)=true;rw[hg];rfl))
  | @eq k _ hf p m h=>
   have e:groups n [eqO 0 0 k]= []:=by
    show grps n [] [((eqO 0 0 k).tl n).hd n]= []
    rw [iQ,v6 n0];rfl
   rw [e]
   refine xA (h.end rfl) λh1 h2=>?_
   rw [Int.zero_add]at h1 h2
   exact .no (.inr ⟨k,rfl⟩) (mt_all m h1 h2)
 |o :: c :: rest,h=>by
  cases h.inv with
  | @ch i' j' g _ hf hg hi hj h=>
   have e:groups n (chO g 0 0 i' j' :: c :: rest)=grps n [chO g 0 0 i' j'] (eF n (c :: rest)):=by
    show grps n [] (eF n ((bif g.isEq then _ else chO g 0 0 i' j') :: c :: rest))=_
    rw [hg,cond_false,mL (o:=chO g 0 0 i' j') hg,j8 (o:=chO g 0 0 i' j') hg];rfl
   rw [e]
   exact .ch hg hi hj (Gk.of n0 h (by show(!g.isEq)=true;rw[hg];rfl))
  | @eq k _ hf p m h=>
   rw [Int.zero_add]at h
   cases h.inv with
   |eq hf=>exact absurd rfl hf
   | @ch i' j' g _ hf hg hi hj h=>
   have e:groups n (eqO 0 0 k :: chO g k k i' j' :: rest)=grps n [(eqO 0 0 k).tl n,chO g k k i' j'] (eF n rest):=by
    show grps n [] ((eqO 0 0 k).tl n :: eF n (chO g k k i' j' :: rest))=_
    rw [iQ,big_tl n0,mL (o:=chO g k k i' j') hg,cond_false,j8 (o:=chO g k k i' j') hg];rfl
   rw [e]
   exact .eq p m hg hi hj (Gk.of n0 h rfl)
end
section
variable {C:Cx}{H B:MH}
inductive Its(K:ItK C)(B:MH):K.σ->List V->Prop
 |nil {it:K.σ} (h:∀ {H:MH}{P:Option (V×K.σ)->MH->Prop},Hx B H->P none H->K.nx it H P):Its K B it []
 |cons {it it':K.σ}{v:V}{vs:List V} (h:∀ {H:MH}{P:Option (V×K.σ)->MH->Prop},Hx B H->P (some (v,it')) H->K.nx it H P) (t:Its K B it' vs):Its K B it (v :: vs)
theorem nU{r:Nat}{vs:List V}(hl:lst B (.ref r)=some vs):∀ (rest:List V) (p:Nat),vs.drop p=rest->Its (b9 C) B (r,p) rest
 | [],p,hd=>.nil λ{H P} hx q=>Lf.mk (p:=none) (by
   show(lst H (.ref r)).map _=_
   rw [hx.lst hl,Option.map_some,List.getElem?_eq_none (List.drop_eq_nil_iff.mp hd)];rfl) q
 |v :: rest,p,hd=>.cons (λ{H P} hx q=>Lf.mk (p:=some (v,(r,p+1))) (by
   show(lst H (.ref r)).map _=_
   rw [hx.lst hl,Option.map_some,show vs[p]? =some v from by rw[<-List.head?_drop,hd];rfl];rfl) q)
  (nU hl rest (p+1) (by rw[<-List.drop_drop,hd];rfl))
theorem rQ:∀ (n:Nat) (x:Int),Its (fV C) B (x,n,1) (lV x 1 n)
 |0,x=>.nil λhx q=>q
 |n+1,x=>.cons (λhx q=>q) (rQ n (x+1))
structure Put(I:Lo->Prop)(B:MH)(ai:Nat)(out:List V)(F:Lo->MH->LK->Prop):Prop where
 p:∀ {lo:Lo}{H:MH}{acc:List V}{P:LK},I lo->Hx B H->H[ai]? =some (.list acc)->acc.length+out.length<1000000->
 (∀ {lo' H'},I lo'->Hx B H'->H'[ai]? =some (.list (acc++out))->P lo' H')->F lo H P
def jW(tgt:AF)(t:TF)(bf:Lo->MH->LK->Prop)(v:V):Lo->MH->LK->Prop:=λlo H P=>tgt v lo H λlo1 H1=>t lo1 H1 λb H2=>bif b then bf lo1 H2 P else P lo1 H2
theorem sZ{α:Type}{K:ItK C}{tgt:AF}{t:TF}{bf:BF}{ai:Nat}(f:α->V)(out:α->List V)(I:Lo->Prop):∀ (l:List α){it:K.σ},Its K B it (l.map f)->(∀ x∈l,Put I B ai (out x) (jW tgt t (bf ai) (f x)))->
  ∀ {lo:Lo}{H:MH}{acc:List V}{P:LK},I lo->Hx B H->H[ai]? =some (.list acc)->acc.length+(l.flatMap out).length<1000000->(∀ {lo' H'},I lo'->Hx B H'->H'[ai]? =some (.list (acc++l.flatMap out))->P lo' H')->q7 K tgt t (bf ai) (l.length+1) it lo H P
 | [],it,hi,hs,lo,H,acc,P,i,hx,ha,hl,k=>by
  cases hi with
  |nil h=>exact h hx (k i hx (by rw[List.flatMap_nil,List.append_nil];exact ha))
 |x :: l,it,hi,hs,lo,H,acc,P,i,hx,ha,hl,k=>by
  cases hi with
  |cons h ht=>
   rw [List.flatMap_cons,List.length_append]at hl
   refine h hx ((hs x List.mem_cons_self).p i hx ha (A248 hl) λ{lo' H'} i' hx' ha'=>?_)
   refine sZ f out I l ht (λy hy=>hs y (List.mem_cons_of_mem _ hy)) i' hx' ha' (by rw[List.length_append];exact A249 hl) λ{lo2 H2} i2 hx2 ha2=>k i2 hx2 ?_
   rw [List.flatMap_cons,<-List.append_assoc];exact ha2
theorem aF7{α:Type}{K:ItK C}{hid:List Str}{tgt:AF}{t:TF}{bf:BF}{lo:Lo}{Q:EK}{it:K.σ}(f:α->V)(out:α->List V)(I:Lo->Prop)(l:List α)
  (hi:Its K H it (l.map f)) (i0:I (hide hid lo)) (hl:(l.flatMap out).length<1000000) (hs:∀ x∈l,Put I H H.length (out x) (jW tgt t (bf H.length) (f x)))
  (k:∀ {H'},Hx H H'->H'[H.length]? =some (.list (l.flatMap out))->Q (.ref H.length) H'):∃ n,q7 K tgt t (bf H.length) n it (hide hid lo) (H++[.list []]) λ_ H2=>Q (.ref H.length) H2:=
 ⟨_,sZ f out I l hi hs i0 (.app _ _) (bW _ _) (by rw[List.length_nil,Nat.zero_add];exact hl) λ_ hx ha=>k hx ha⟩
theorem n9{α:Type}{K:ItK C}{hid:List Str}{fi:IF K}{tgt:AF}{t:TF}{bf:BF}{lo:Lo}{Q:EK}{it:K.σ}(f:α->V)(out:α->List V)(I:Lo->Prop)(l:List α)
  (hf:∀ {P:K.σ->MH->Prop},P it H->fi lo H P) (hi:Its K H it (l.map f)) (i0:I (hide hid lo)) (hl:(l.flatMap out).length<1000000) (hs:∀ x∈l,Put I H H.length (out x) (jW tgt t (bf H.length) (f x)))
  (k:∀ {H'},Hx H H'->H'[H.length]? =some (.list (l.flatMap out))->Q (.ref H.length) H'):eP K hid fi tgt t bf lo H Q:=
 hf (aF7 f out I l hi i0 hl hs k)
theorem iL_i{f:EF}{lo:Lo}{r:Nat}{vs:List V}{P:Nat×Nat->MH->Prop}(hf:∀ {Q:EK},Q (.ref r) H->f lo H Q)(hl:lst H (.ref r)=some vs)(q:P (r,0) H):iL f lo H P:=hf (Lf.mk (p:=r) rfl ⟨⟨_,hl⟩,q⟩)
theorem qK{α:Type}{hid:List Str}{x:Str}{tgt:AF}{t:TF}{bf:BF}{lo:Lo}{Q:EK}{r:Nat}(f:α->V)(out:α->List V)(I:Lo->Prop)(l:List α)(hn:lo x=some (.ref r))(h:lst H (.ref r)=some (l.map f))
  (i0:I (hide hid lo)) (hl:(l.flatMap out).length<1000000) (hs:∀ x∈l,Put I H H.length (out x) (jW tgt t (bf H.length) (f x)))
  (k:∀ {H'},Hx H H'->H'[H.length]? =some (.list (l.flatMap out))->Q (.ref H.length) H'):eP (b9 C) hid (iL (eN x)) tgt t bf lo H Q:=
 n9 f out I l (iL_i (λq=>b8 hn q) h) (nU h _ 0 rfl) i0 hl hs k
theorem put1{ai:Nat}{v:V}{lo:Lo}{I:Lo->Prop}{acc out:List V}{P:LK}(hb:B[ai]? =none)(hx:Hx B H)(ha:H[ai]? =some (.list acc))(hl:acc.length+out.length<1000000)(e:out= [v])(i:I lo)(k:∀ {lo' H'},I lo'->Hx B H'->H'[ai]? =some (.list (acc++out))->P lo' H'):
  Lf (H[ai]?.bind MO.own) λvs=>vs.length<1000000/\P lo (H.set ai (.list (vs++[v]))):=
 Lf.mk (dK ha) ⟨Nat.lt_of_le_of_lt (Nat.le_add_right _ _) hl,k i (hx.set hb) (by rw[e];exact aG ha _)⟩
theorem put0{ai:Nat}{lo:Lo}{I:Lo->Prop}{acc out:List V}{P:LK}(hx:Hx B H)(ha:H[ai]? =some (.list acc))(e:out= [])(i:I lo)(k:∀ {lo' H'},I lo'->Hx B H'->H'[ai]? =some (.list (acc++out))->P lo' H'):P lo H:=
 k i hx (by rw[e,List.append_nil];exact ha)
theorem sV{xs:List PyData}(h:PyData.canLayAll0 xs=true)(d:(PyData.list xs).depth<=64):PySem.SeqAt.shaped (.list xs)=true:=by
 unfold PySem.SeqAt.shaped
 rw [decide_eq_true d,Bool.and_true];exact h
theorem aDb{x y:V}{d:PyData}(h1:rd H eqD x=some d)(h2:rd H eqD y=some d)(s:PySem.SeqAt.shaped d=true):eqv H x y=some true:=by
 unfold eqv
 rw [h1,h2]
 show(if (PySem.SeqAt.shaped d && PySem.SeqAt.shaped d)=true then some (PyData.eqv d d) else none)=some true
 rw [s]
 refine congrArg some (PySem.SeqAt.eqv_refl d ?_)
 unfold PySem.SeqAt.shaped at s
 exact(Bool.and_eq_true_iff.mp s).1
end
section
variable {C:Cx}{H B:MH}
theorem rdMs{α:Type}{n:Nat}(f:α->V)(d:α->PyData):∀ l:List α,(∀ x∈l,rd H n (f x)=some (d x))->(l.map f).mapM (rd H n)=some (l.map d)
 | [],_=>rfl
 |x :: l,h=>by
  rw [List.map_cons,List.mapM_cons,h x List.mem_cons_self,rdMs f d l λy hy=>h y (List.mem_cons_of_mem _ hy)];rfl
theorem eZ{α:Type}{r n:Nat}(f:α->V)(d:α->PyData){l:List α}(hl:lst H (.ref r)=some (l.map f))(h:∀ x∈l,rd H n (f x)=some (d x)):rd H (n+1) (.ref r)=some (.list (l.map d)):=by
 show(lst H (.ref r)).bind (λvs=>(vs.mapM (rd H n)).map PyData.list)=_
 rw [hl]
 show((l.map f).mapM (rd H n)).map PyData.list=_
 rw [rdMs f d l h];rfl
theorem pY{α:Type}(d:α->PyData){m:Nat}:∀ l:List α,(∀ x∈l,(d x).canLay0=true/\(d x).depth<=m)->PyData.canLayAll0 (l.map d)=true/\PyData.depthAll (l.map d)<=m
 | [],_=>⟨rfl,Nat.zero_le _⟩
 |x :: l,h=>by
  have h1:=h x List.mem_cons_self
  have h2:=pY d l λy hy=>h y (List.mem_cons_of_mem _ hy)
  refine⟨?_,Nat.max_le.mpr ⟨h1.2,h2.2⟩⟩
  show((d x).canLay0 && PyData.canLayAll0 (l.map d))=true
  rw [h1.1,h2.1];rfl
theorem pX{α:Type}{d:α->PyData}{l:List α}(h:∀ x∈l,(d x).canLay0=true/\(d x).depth<=9):PySem.SeqAt.shaped (.list (l.map d))=true:=
 sV (pY d l h).1 (Nat.succ_le_of_lt (Nat.lt_of_le_of_lt (pY d l h).2 (by decide)))
theorem y8{α:Type}{r r':Nat}(f:α->V)(d:α->PyData){l:List α}(h1:lst H (.ref r)=some (l.map f))(h2:lst H (.ref r')=some [])(hd:∀ x∈l,rd H 7 (f x)=some (d x))(hs:∀ x∈l,(d x).canLay0=true/\(d x).depth<=9):eqv H (.ref r) (.ref r')=some l.isEmpty:=by
 unfold eqv
 have e1:rd H eqD (.ref r)=_:=eZ (n:=7) f d h1 hd
 have e2:rd H eqD (.ref r')=_:=eZ (n:=7) (l:=[]) f d h2 nofun
 rw [e1,e2]
 show(if (PySem.SeqAt.shaped (.list (l.map d)) && PySem.SeqAt.shaped (.list []))=true then some (PyData.eqv (.list (l.map d)) (.list [])) else none)=_
 rw [pX hs]
 show some (PyData.eqvAll (l.map d) [])=_
 cases l<;>rfl
def dI(x:Int):PyData:=.int x
theorem dI_rd(x:Int):rd H 7 (.int x)=some (dI x):=rfl
theorem dI_ok(x:Int):(dI x).canLay0=true/\(dI x).depth<=9:=⟨rfl,Nat.zero_le _⟩
def dO(o:Op):PyData:=.tuple [.str o.tag.s,.int o.i1,.int o.i2,.int o.j1,.int o.j2]
theorem dO_rd(o:Op):rd H 7 o.v=some (dO o):=rfl
theorem aDl(o:Op):rd H 6 o.v=some (dO o):=rfl
theorem dO_ok(o:Op):(dO o).canLay0=true/\(dO o).depth<=9:=⟨by
 obtain⟨t,_,_,_,_⟩:=o
 cases t<;>kernel_rfl,(by decide:1<=9)⟩
theorem wO{r r':Nat}{vs ws:List V}{Q:EK}(h:lst H (.ref r)=some vs)(h':lst H (.ref r')=some ws)(hl:vs.length+ws.length<1000000)(q:Q (.ref H.length) (H++[.list (vs++ws)])):Lp (aH (.ref r) (.ref r') H) Q:=by
 refine Lp.mk (v:=.ref H.length) (H:=H++[.list (vs++ws)]) ?_ q
 show(lst H (.ref r)).bind (λxs=>(lst H (.ref r')).bind λys=>mkL (xs++ys) H)=_
 rw [h,h']
 exact if_pos (by rw[List.length_append];exact hl)
theorem aBa{r r':Nat}{vs ws:List V}{Q:EK}(h:H[r]? =some (.list vs))(h':H[r']? =some (.list ws))(hl:vs.length+ws.length<1000000)(q:Q (.ref H.length) (H++[.list (vs++ws)])):Lp (aH (.ref r) (.ref r') H) Q:=wO (aQ h) (aQ h') hl q
theorem aBy{r:Nat}{vs:List V}{Q:EK}(h:lst H (.ref r)=some vs)(hl:vs.length<1000000)(q:Q (.int vs.length) H):cI [.ref r] H Q:=by
 refine Lp.mk (v:=.int vs.length) (H:=H) ?_ q
 show(lst H (.ref r)).bind _=_
 rw [h]
 exact if_pos hl
end
section
variable {a b c d e f g h i j k l:Int}{m n p q r s t u v w x y:Nat}
theorem Yb0:(m+(n+(1:Nat)))<=(p+(1:Nat))->n<=p:=Z.R 0x106aa4007da8007da40a00007 [] [m,n,p] ⋯ ⋯
theorem Yb1:(m+(n+(1:Nat)))<=(p+(1:Nat))->m<=p:=Z.R 0x106aa0007da8007da40a00007 [] [m,n,p] ⋯ ⋯
theorem Yb2: ¬((a<b)∨((a=b)/\((c<d)∨((c=d)/\(e<=f)))))->(b<a)∨((b=a)/\((d<c)∨((d=c)/\(f<=e)))):=Z.R 0x100004000104000000100000100104000004000004000004100000004100000004100000104000004100004004000004004000004004000104000004000004000004100000104000004100004100004100004100000104000004100004100004102cb42aab0c5a81f6b0021a8a4316807da40086a2db02aea0c5ac1f6a0021a9a0316907da00086107 [a,b,c,d,e,f] [] ⋯ ⋯
theorem Yb3:(a<a)∨((a=a)/\((b<b)∨((b=b)/\(c<=c)))):=Z.R 0x4000100004000100102aa82a690c5a41f690021a8a0316807da00086 [a,b,c] [] ⋯ ⋯
theorem Yb4:((a<b)∨((a=b)/\((c<d)∨((c=d)/\(e<=f)))))->((g<a)∨((g=a)/\((d<h)∨((d=h)/\(f<=i)))))->(g<b)∨((g=b)/\((c<h)∨((c=h)/\(e<=i)))):=Z.R 0x40001000000040000001000001000000040000040000001000000040001000000040000001001000000001000000040040040000001000001001000000040000040040000001000040001000000040040000040000001000041000000040001040000001000041000000040041000000040041000000040040000040001000001000001000040000040000040001000040000001000040040000000040001001001000040000040040001000001001000040001000040001001000001000040001040001000041000040001040001001040001001040001000040000001040001000000041000040000001040040000001040040000001040001000041000040001040001000041001000041001000041000041040001041000041040041040041070b02bea0c5bc1f6a0021a9b8316907db80086c2d0afac316f07dac0086a2e0c5a01f6e002187b6c0aba8316b07da80086a680c5a41f68002187 [a,b,c,d,e,f,g,h,i] [] ⋯ ⋯
theorem Yb5:a<b->a<=b:=Z.R 0x41a680a907da00087 [a,b] [] ⋯ ⋯
theorem Yb6:a<b->(c+a)<(c+b):=Z.R 0x1069a8007da2a0000a907da00087 [a,b,c] [] ⋯ ⋯
theorem Yb7:(0:Int)<=a->b<=(b+a):=Z.R 0x41a290290a803d087 [a,b] [] ⋯ ⋯
theorem Yb8:a<b->(((0:Int)<=c)/\(((c+b)<=((m:Nat):Int))/\(((0:Int)<b)/\(d=e))))->(c+a)<((m:Nat):Int):=Z.R 0x1000001001a28101f68a80002b2b0e907d03d002168a04a6a00216a03d0851e907da00087 [a,b,c,d,e] [m] ⋯ ⋯
theorem Yb9:(0:Int)<=a->(((0:Int)<=b)/\(((b+c)<=((m:Nat):Int))/\(((0:Int)<c)/\(d=e))))->(0:Int)<=(b+a):=Z.R 0x1000000041a29000f42b2b0ea07d03d002168a04aa900216903d0851e803d087 [a,b,c,d,e] [m] ⋯ ⋯
theorem zG:(0:Int)<=a->(((Int.toNat a):Nat):Int)=a:=Z.R 0x41001001040001000a28a281040e803d087 [a] [] ⋯ ⋯
theorem Yb11:(0:Int)<=a->a<=b->(((Int.toNat a):Nat):Int)<=b:=Z.R 0x40041040040a68a281040a9a021e803d087 [a,b] [] ⋯ ⋯
theorem Yb12:((a+((m:Nat):Int))+(1:Int))=(a+(((m+(1:Nat)):Nat):Int)):=Z.R 0x106807da00128001f68a04a00003 [a] [m] ⋯ ⋯
theorem Yb13:(a+(((m+(1:Nat)):Nat):Int))=((a+((m:Nat):Int))+(1:Int)):=Z.R 0x1041f68a04a0002807da00128003 [a] [m] ⋯ ⋯
theorem Yb14:(((m+(1:Nat)):Nat):Int)<=a->(b+((m:Nat):Int))<(b+a):=Z.R 0x1068a4007da281290000a8a01f68004087 [a,b] [m] ⋯ ⋯
theorem Yb15:a<=(a+((m:Nat):Int)):=Z.R 0x68a04a00a02 [a] [m] ⋯ ⋯
theorem Yb16:(((0:Int)<=a)/\(((a+b)<=((m:Nat):Int))/\(((0:Int)<b)/\(c=d))))->(((n+(1:Nat)):Nat):Int)<=b->(a+((n:Nat):Int))<((m:Nat):Int):=Z.R 0x1040000040a28101f68a44a00002a6807da401021eba83a41f40f40085a28129a00085a00f42147 [a,b,c,d] [m,n] ⋯ ⋯
theorem Yb17:(((0:Int)<=a)/\(((a+b)<=((m:Nat):Int))/\(((0:Int)<b)/\(c=d))))->(0:Int)<=(a+((n:Nat):Int)):=Z.R 0x1000000068a44a0003d0aba83a41f40f40085a28129a00085a00f42147 [a,b,c,d] [m,n] ⋯ ⋯
theorem Yb18:(((m+(1:Nat)):Nat):Int)<=a->((m:Nat):Int)<=a:=Z.R 0x41a28a040a8a01f68004087 [a] [m] ⋯ ⋯
theorem Yb19:(a+((b+c)-a))=(b+c):=Z.R 0x106aa40a2aa40068003 [a,b,c] [] ⋯ ⋯
theorem Yb20:(a+b)<(c+d)->((a+b)-c)<d:=Z.R 0x106b07daa9a000400aba8007da68000087 [a,b,c,d] [] ⋯ ⋯
theorem Yb21:a<(b+c)->(0:Int)<=((b+c)-a):=Z.R 0x1068aa900103d0aaa4007da00087 [a,b,c] [] ⋯ ⋯
theorem Yb22:(a+b)<=c->(d+e)<(a+b)->(d+e)=c->False:=Z.R 0x40041a2ab2b0031e9a0007db2b000087aa9a00087 [a,b,c,d,e] [] ⋯ ⋯
theorem Yb23:(a+b)<=c->(0:Int)<b->a<c:=Z.R 0x1041a81f68002a41f40f40087aa9a00087 [a,b,c] [] ⋯ ⋯
theorem Yb24:(0:Int)<=a->a<b->(((Int.toNat a):Nat):Int)<b:=Z.R 0x40041040040a41f68a28104002a41f680021e803d087 [a,b] [] ⋯ ⋯
theorem Yb25:(a+(((Int.toNat (b-(1:Int))):Nat):Int))<((m:Nat):Int)->(a+b)<=((m:Nat):Int):=Z.R 0x1041041028a04a68002a28101f68a01f69044128000087 [a,b] [m] ⋯ ⋯
theorem Yb26:(0:Int)<a->(((Int.toNat (a-(1:Int))):Nat):Int)<a:=Z.R 0x100104002807da2807da01104002a01f40f40087 [a] [] ⋯ ⋯
theorem Yb27:a=((b+((m:Nat):Int))+(1:Int))->(b+(((m+(1:Nat)):Nat):Int))=a:=Z.R 0x1001041028a01f68004a400c1f68a04a400280c7 [a,b] [m] ⋯ ⋯
theorem Yb28:a=(b+((m:Nat):Int))->c=(b+(((m+(1:Nat)):Nat):Int))->d=(a+(1:Int))->d<c->e=((f+((m:Nat):Int))+(1:Int)):=Z.R 0x41000041000041000041001f68a04b4002c0ea07dac008707da00ac31e807da0012902a0c7a281290280c7 [a,b,c,d,e,f] [m] ⋯ ⋯
theorem Yb29:a<((m:Nat):Int)->a<=((m:Nat):Int):=Z.R 0x41a281280a8a0407da00087 [a] [m] ⋯ ⋯
theorem Yb30:(0:Int)<=a->(0:Int)<=((a+((m:Nat):Int))+(1:Int)):=Z.R 0x4107da2812800003d0a803d087 [a] [m] ⋯ ⋯
theorem Yb31:a=(b+((m:Nat):Int))->c=(b+(((m+(1:Nat)):Nat):Int))->d=(a+(1:Int))->c<d->e=((f+((m:Nat):Int))+(1:Int)):=Z.R 0x40041000040040041000041f68a04b4002c0eb07da8008707da00ac31e807da0012902a0c7a281290280c7 [a,b,c,d,e,f] [m] ⋯ ⋯
theorem Yb32:(a+((m:Nat):Int))<((n:Nat):Int)->((a+((m:Nat):Int))+(1:Int))<=((n:Nat):Int):=Z.R 0x1068a4407da281280000a8a4407da28128000087 [a] [m,n] ⋯ ⋯
theorem Yb33:(0:Int)<=a->(0:Int)<=(a+((m:Nat):Int)):=Z.R 0x1068a04a0003d0a803d087 [a] [m] ⋯ ⋯
theorem Yb34:(0:Int)<=(((m+(1:Nat)):Nat):Int):=Z.R 0x6807da00100f42 [] [m] ⋯ ⋯
theorem Yb35:(((m+(1:Nat)):Nat):Int)<a->((m:Nat):Int)<a:=Z.R 0x41a01f68a04002a01f6807da00100087 [a] [m] ⋯ ⋯
theorem Yb36:(a+b)<=((m:Nat):Int)->c<b->(a+c)<((m:Nat):Int):=Z.R 0x41068a0407daa80000a907da80087a28129a00087 [a,b,c] [m] ⋯ ⋯
theorem Yb37:(0:Int)<=a->(0:Int)<=b->(0:Int)<=(a+b):=Z.R 0x1041a68000f42a40f421e803d087 [a,b] [] ⋯ ⋯
theorem Yb38:a<=b->b<c->((c=(a+(1:Int)))/\(d=e))->a=b:=Z.R 0x1000001040040000000069a03b2b0c1f6802a0c51ea07da40087a68087 [a,b,c,d,e] [] ⋯ ⋯
theorem Yb39: ¬(a<b)->b<=a:=Z.R 0x41a290a8a41f68002107 [a,b] [] ⋯ ⋯
theorem Yb40:((m:Nat):Int)<(((m+(1:Nat)):Nat):Int):=Z.R 0x6807da00101f68a04002 [] [m] ⋯ ⋯
theorem Yb41:(0:Int)<=((m:Nat):Int):=Z.R 0x1a28100f42 [] [m] ⋯ ⋯
theorem Yb42:a<((m:Nat):Int)->a<(((m+(1:Nat)):Nat):Int):=Z.R 0x41a01f6800407da000a8a0407da00087 [a] [m] ⋯ ⋯
theorem Yb43:(m+(1:Nat))<=n->m<=n:=Z.R 0x41a6802907da00007 [] [m,n] ⋯ ⋯
theorem Yb44:(0:Int)<=a->a<(0:Int)->False:=Z.R 0x41a00f41f680021e803d087 [a] [] ⋯ ⋯
theorem Yb45:a<b->(a+((((Int.toNat ((b-a)-(1:Int)))+(1:Nat)):Nat):Int))=b:=Z.R 0x41001001040001000a6807da01f68a41044004a000e907da00087 [a,b] [] ⋯ ⋯
theorem Yb46:a<b->b<=((m:Nat):Int)->(a+((((Int.toNat ((b-a)-(1:Int)))+(1:Nat)):Nat):Int))<=((m:Nat):Int):=Z.R 0x40041040040a2812807da01f68a41044004a000a8a04a421e907da00087 [a,b] [m] ⋯ ⋯
theorem Yb47:a<b->b<c->a<c:=Z.R 0x1041a81f68002a81f690021e907da00087 [a,b,c] [] ⋯ ⋯
theorem Yb48:((a+(((m+(1:Nat)):Nat):Int))+(1:Int))=(a+((((m+(1:Nat))+(1:Nat)):Nat):Int)):=Z.R 0x106807d07da00004a0007da01f68004a00003 [a] [m] ⋯ ⋯
theorem Yb49:(a+((((m+(1:Nat))+(1:Nat)):Nat):Int))<=((n:Nat):Int)->(a+(((m+(1:Nat)):Nat):Int))<((n:Nat):Int):=Z.R 0x1068a4407da01f68004a00002a2912807d07da00004a00087 [a] [m,n] ⋯ ⋯
theorem Yb50:(0:Int)<=a->(0:Int)<=(a+(((m+(1:Nat)):Nat):Int)):=Z.R 0x41a01f68004a0003d0a803d087 [a] [m] ⋯ ⋯
theorem Yb51:(a+((((m+(1:Nat))+(1:Nat)):Nat):Int))<=((n:Nat):Int)->(a+(((m+(1:Nat)):Nat):Int))<=((n:Nat):Int):=Z.R 0x41a2912807da00128002a2912807d07da00004a00087 [a] [m,n] ⋯ ⋯
theorem Yb52:(a+((((0:Nat)+(1:Nat)):Nat):Int))<=((m:Nat):Int)->a<((m:Nat):Int):=Z.R 0x41a28101f68002a2812807d03d004a00087 [a] [m] ⋯ ⋯
theorem Yb53:a=(b+(1:Int))->b<a:=Z.R 0x4102807da40081f690280c7 [a,b] [] ⋯ ⋯
theorem Yb54:a<=b->c<=d->d<a->c<b:=Z.R 0x104106907da800a807dac0087aea087a68087 [a,b,c,d] [] ⋯ ⋯
theorem Yb55:a<=b->(b+c)<=(a+d)->¬(c<d)->c=d:=Z.R 0x41000040041aea0e8ac1f6a002107ae802aa40087a68087 [a,b,c,d] [] ⋯ ⋯
theorem Yb56:a=b->(((0:Int)<=c)/\(((c+d)<=((m:Nat):Int))/\(((0:Int)<d)/\(e=a))))->¬(e<=b)->False:=Z.R 0x40040000001a28a6c0841e8b03ac1f40f40085a2812ba80085a80f42147a680c7 [a,b,c,d,e] [m] ⋯ ⋯
theorem Yb57:a=b->(((0:Int)<=c)/\(((c+d)<=((m:Nat):Int))/\(((0:Int)<d)/\(e=f))))->¬(e<=b)->f<a->False:=Z.R 0x41001000000068a01f6d0021e8a6c0841edb03ac1f40f40085a2812ba80085a80f42147a680c7 [a,b,c,d,e,f] [m] ⋯ ⋯
theorem Yb58:(a+b)<=(c+d)->(((0:Int)<=e)/\(((e+f)<=((m:Nat):Int))/\(((0:Int)<f)/\(g=h))))->(((0:Int)<=c)/\(((c+d)<=((m:Nat):Int))/\(((0:Int)<d)/\(i=j))))->¬(b<f)->a<=((m:Nat):Int):=Z.R 0x1040000040000040001a281280a8b41f69002107c700eb07d03d002168a04aea00216a03d0851efb83b41f40f40085a2812db00085b00f42147aea029a00087 [a,b,c,d,e,f,g,h,i,j] [m] ⋯ ⋯
theorem Yb59:a<=b->(b+c)<=(a+d)->¬(c<d)->a=b:=Z.R 0x41040040001a680e8ac1f6a002107ae802aa40087a68087 [a,b,c,d] [] ⋯ ⋯
theorem Yb60:(0:Int)<a->b<=c->d=(e+(c-b))->(d+a)<=f->f<=e->False:=Z.R 0x1041001068b2d087b68ac0087a6a06c02b0c7aa9087a01f40f40087 [a,b,c,d,e,f] [] ⋯ ⋯
theorem Yb61:(0:Int)<a->(b+a)<=(c+d)->e=(f+(b-c))->g<=e->(f+d)<=g->False:=Z.R 0x1040041068babb40087b2e087aa906d02c0c7aea028a40087a01f40f40087 [a,b,c,d,e,f,g] [] ⋯ ⋯
theorem Yb62:(0:Int)<a->b<=c->(c+a)<=d->d<=b->False:=Z.R 0x1041068a6b087ae8a80087aa9087a01f40f40087 [a,b,c,d] [] ⋯ ⋯
theorem Yb63:(0:Int)<a->(b+a)<=(c+d)->e<=b->(c+d)<=e->False:=Z.R 0x1041068b2ba80087a6c087aea028a40087a01f40f40087 [a,b,c,d,e] [] ⋯ ⋯
theorem Yb64:(a+(b-a))=b:=Z.R 0x1069a29068003 [a,b] [] ⋯ ⋯
theorem Yb65:(0:Int)<a->(b+a)<=(c+d)->(b-c)<=d:=Z.R 0x4106baa9042aea028a40087a01f40f40087 [a,b,c,d] [] ⋯ ⋯
theorem Yb66:a<=b->(0:Int)<=(b-a):=Z.R 0x41a29040f42a68087 [a,b] [] ⋯ ⋯
theorem Yb67:a<b->(b+((m:Nat):Int))<=c->(a+(((m+(1:Nat)):Nat):Int))<=c:=Z.R 0x4106aa01f68004a000aaa281290021e907da00087 [a,b,c] [m] ⋯ ⋯
theorem Yb68:a<b->(b+((2:Int)*((m:Nat):Int)))<=(c+(1:Int))->(a+((2:Int)*((m:Nat):Int)))<=c:=Z.R 0x4106aa28102fa800207da80a28102fa90021e907da00087 [a,b,c] [m] ⋯ ⋯
theorem Yb69:a<b->(b+((2:Int)*((m:Nat):Int)))<=(c+(1:Int))->(a+((2:Int)*((m:Nat):Int)))<=(c+(1:Int)):=Z.R 0x104107da80a28102fa800207da80a28102fa90021e907da00087 [a,b,c] [m] ⋯ ⋯
theorem Yb70:a<b->(b+((2:Int)*((m:Nat):Int)))<=c->(a+((2:Int)*(((m+(1:Nat)):Nat):Int)))<=(c+(1:Int)):=Z.R 0x104107da80a01f680040bea000aaa28102fa90021e907da00087 [a,b,c] [m] ⋯ ⋯
theorem Yb71:a<b->b<=a->(c+((2:Int)*(((m+(1:Nat)):Nat):Int)))<=(a+(1:Int)):=Z.R 0x4107da00a01f680040bea800a8a421e907da00087 [a,b,c] [m] ⋯ ⋯
theorem Yb72:a<b->(a+((2:Int)*((((0:Nat)+(1:Nat)):Nat):Int)))<=(b+(1:Int)):=Z.R 0x1041f6902807d03d0040bea000a907da00087 [a,b] [] ⋯ ⋯
theorem Yb73:(a+(((0:Nat):Nat):Int))<=a:=Z.R 0x1a2803d128002 [a] [] ⋯ ⋯
theorem Yb74:(a+((2:Int)*(((0:Nat):Nat):Int)))<=a:=Z.R 0x1a2803d102fa8002 [a] [] ⋯ ⋯
theorem Yb75:(a+((2:Int)*(((0:Nat):Nat):Int)))<=(a+(1:Int)):=Z.R 0x41f6802803d102fa8002 [a] [] ⋯ ⋯
theorem Yb76:(0:Int)<a->¬(a=(0:Int)):=Z.R 0x41a00f680c4a01f40f40087 [a] [] ⋯ ⋯
theorem Yb77:(((0:Int)<=a)/\(((a+b)<=((m:Nat):Int))/\(((0:Int)<b)/\(c=d))))->a<(a+b):=Z.R 0x1000040029a0007da000aba83a41f40f40085a28129a00085a00f42147 [a,b,c,d] [m] ⋯ ⋯
theorem Yb78:(((a+b)=c)/\((d+b)=e))->(((0:Int)<=c)/\(((c+f)<=((m:Nat):Int))/\(((0:Int)<f)/\(e=g))))->(a+b)=((m:Nat):Int)->False:=Z.R 0x1000001040000001a28a04a680031eeb03b41f40f40085a2812da80085a80f42147b29ac00eaa68003147 [a,b,c,d,e,f,g] [m] ⋯ ⋯
theorem v8:a<b->(0:Int)<=a->(0:Int)<=b:=Z.R 0x1041a40f42a00f421e907da00087 [a,b] [] ⋯ ⋯
theorem Yb80:a<b->¬((b-a)=(0:Int)):=Z.R 0x106803da2904312907da00087 [a,b] [] ⋯ ⋯
theorem Yb81:a<b->(0:Int)<(b-a):=Z.R 0x41a29041f40f400a907da00087 [a,b] [] ⋯ ⋯
theorem Yb82:a<=b->c=(d+(((Int.toNat (b-a)):Nat):Int))->c=(d+(b-a)):=Z.R 0x1040040040040041040000040040028a41ac0a83a28a2904412b02a0c7a68087 [a,b,c,d] [] ⋯ ⋯
theorem Yb83:a<=b->(a+(((Int.toNat (b-a)):Nat):Int))=b:=Z.R 0x1040040041000040029a28a29044128003a68087 [a,b] [] ⋯ ⋯
theorem Yb84:a<=b->b<(a+(((Int.toNat (c-a)):Nat):Int))->b<c:=Z.R 0x4004104002a07da400a8a28a81104a0007da40087a68087 [a,b,c] [] ⋯ ⋯
theorem Yb85:a<=b->b<=((m:Nat):Int)->(a+(((Int.toNat (b-a)):Nat):Int))<=((m:Nat):Int):=Z.R 0x1001041001028a04a28a29044128002a28129087a68087 [a,b] [m] ⋯ ⋯
theorem Yb86:a=(b+((m:Nat):Int))->c=(a+(1:Int))->c=(b+(((m+(1:Nat)):Nat):Int)):=Z.R 0x104004004004006807da0012902a0c1f6802a0c7a281290280c7 [a,b,c] [m] ⋯ ⋯
theorem Yb87:(a+((m:Nat):Int))<(a+(((m+(1:Nat)):Nat):Int)):=Z.R 0x6807da00128001f68a04a00002 [a] [m] ⋯ ⋯
theorem Yb88:(a+(((m+(1:Nat)):Nat):Int))<=((n:Nat):Int)->(a+((m:Nat):Int))<((n:Nat):Int):=Z.R 0x1068a4407da281280000a8a44a01f68004a00087 [a] [m,n] ⋯ ⋯
theorem Yb89:a<(b+((m:Nat):Int))->a<(b+(((m+(1:Nat)):Nat):Int)):=Z.R 0x41a01f68004a4007da000a8a04a4007da00087 [a,b] [m] ⋯ ⋯
theorem Yb90:(a+(((m+(1:Nat)):Nat):Int))<=((n:Nat):Int)->(a+((m:Nat):Int))<=((n:Nat):Int):=Z.R 0x41a29128a04a000a8a44a01f68004a00087 [a] [m,n] ⋯ ⋯
theorem Yb91:a=(a+(((0:Nat):Nat):Int)):=Z.R 0x41a00f44a00a03 [a] [] ⋯ ⋯
theorem Yb92:(a+(((0:Nat):Nat):Int))=a:=Z.R 0x41a2803d128003 [a] [] ⋯ ⋯
theorem Yb93:a<b->b<=a->False:=Z.R 0x41a28a421e907da00087 [a,b] [] ⋯ ⋯
theorem Yb94:a<b->a<(c+(b-c)):=Z.R 0x106aa41a8007da000a907da00087 [a,b,c] [] ⋯ ⋯
theorem Yb95:a<=b->b<a->False:=Z.R 0x41a2807da40087a68087 [a,b] [] ⋯ ⋯
theorem Yb96:a<b->((b<=c)/\(((c+d)<=e)/\(((0:Int)<d)/\(f=g))))->a<=c:=Z.R 0x1000000041aa80aeb43ac1f40f40085b2ba80085aa90851e907da00087 [a,b,c,d,e,f,g] [] ⋯ ⋯
theorem Yb97:(a-((m:Nat):Int))=((a-(((m+(1:Nat)):Nat):Int))+(1:Int)):=Z.R 0x1041f6807da00128040a28128043 [a] [m] ⋯ ⋯
theorem Yb98:(a-(((0:Nat):Nat):Int))=a:=Z.R 0x41a2803d128043 [a] [] ⋯ ⋯
theorem Yb99:(a+(1:Int))=b->b<c->a<c:=Z.R 0x41001a81f68002a81f690021e907da000c7 [a,b,c] [] ⋯ ⋯
theorem xV:(a+(1:Int))=b->a<b:=Z.R 0x4006907da000a907da000c7 [a,b] [] ⋯ ⋯
theorem Yb101:(a+(1:Int))=b->a<=c->c<b->c=a:=Z.R 0x1001000041001028a83a41f6a0021eaa021e907da000c7 [a,b,c] [] ⋯ ⋯
theorem Yb102:a<b->b<=c->a<=c:=Z.R 0x1041aa80aaa421e907da00087 [a,b,c] [] ⋯ ⋯
theorem Yb103:a=b->¬(a<b):=Z.R 0x1040a2907da00084a680c7 [a,b] [] ⋯ ⋯
theorem Yb104:a=(0:Int)->¬((0:Int)<a):=Z.R 0x1001a2807d03d002100f680c7 [a] [] ⋯ ⋯
theorem Yb105:(a+(1:Int))<=b->a<=b:=Z.R 0x41a680a907da00087 [a,b] [] ⋯ ⋯
theorem xU:a<b->(a+(1:Int))<=b:=Z.R 0x106907da000a907da00087 [a,b] [] ⋯ ⋯
theorem Yb107:a<=b->a<=(b+(1:Int)):=Z.R 0x4107da40a02a68087 [a,b] [] ⋯ ⋯
theorem Yb108:a<=b->b<=c->a<=c:=Z.R 0x4106aa02aa9087a68087 [a,b,c] [] ⋯ ⋯
theorem Yb109: ¬(a=b)->¬((a-(1:Int))=(b-(1:Int))):=Z.R 0x100100106807da4107da010c4a29a03107 [a,b] [] ⋯ ⋯
theorem xT:(0:Int)<=a->(0:Int)<=(a+(1:Int)):=Z.R 0x4107da0003d0a803d087 [a] [] ⋯ ⋯
theorem aEd:(0:Int)<=a->a<=b->(0:Int)<=b:=Z.R 0x4106903d0a9a021e803d087 [a,b] [] ⋯ ⋯
theorem Yb112:a<=b->(Int.toNat ((b+(1:Int))-a))=((Int.toNat (b-a))+(1:Nat)):=Z.R 0x1040001040001040001041000041040001000001000001f68a29044028a01f69001101a68087 [a,b] [] ⋯ ⋯
theorem Yb113:(0:Int)<=a->(Int.toNat (a+(1:Int)))=((Int.toNat a)+(1:Nat)):=Z.R 0x4100004100004100004104000104100004000004000007da28100a01f6800406803d087 [a] [] ⋯ ⋯
theorem Yb114:a<=b->(a+(((Int.toNat (b-a)):Nat):Int))<=b:=Z.R 0x1001040029a28a29044128002a68087 [a,b] [] ⋯ ⋯
theorem Yb115:(a+(((m+(1:Nat)):Nat):Int))<=b->(a+((m:Nat):Int))<=b:=Z.R 0x41a68a04a000a9a01f68004a00087 [a,b] [m] ⋯ ⋯
theorem Yb116:(a+(((m+(1:Nat)):Nat):Int))<=b->(a+((m:Nat):Int))<b:=Z.R 0x106907da281280000a9a01f68004a00087 [a,b] [m] ⋯ ⋯
theorem Yb117:a<b->a<b:=Z.R 0x106907da000a907da00087 [a,b] [] ⋯ ⋯
theorem uN:(a-(1:Int))<a:=Z.R 0x6807d07da01002 [a] [] ⋯ ⋯
theorem uM:a<b->a<=(b-(1:Int)):=Z.R 0x1041f690680a907da00087 [a,b] [] ⋯ ⋯
theorem Yb120:a<b->c<a->c<b:=Z.R 0x1041a41f6a002a01f6a0021e907da00087 [a,b,c] [] ⋯ ⋯
theorem Yb121:a<=b->b<c->a<c:=Z.R 0x4106a07da000aa07da40087a68087 [a,b,c] [] ⋯ ⋯
theorem aEc:(0:Int)<=a->(b-b)<=a:=Z.R 0x41a29a410a803d087 [a,b] [] ⋯ ⋯
theorem aEb:(0:Int)<=a->(-a)<=(b-b):=Z.R 0x41a69068a050a803d087 [a,b] [] ⋯ ⋯
theorem Yb124:((a<b)∨((a=b)/\(a<a)))->a<b:=Z.R 0x1000041a41f68002a01f68002a680c5a41f68002187 [a,b] [] ⋯ ⋯
theorem Yb125:a<b->b<=((m:Nat):Int)->a=((m:Nat):Int)->False:=Z.R 0x40041a28a04a031e8a04a421e907da00087 [a,b] [m] ⋯ ⋯
theorem Yb126:(a+((b+c)-b))=(a+c):=Z.R 0x106aa00a6aa40068003 [a,b,c] [] ⋯ ⋯
theorem Yb127:a<(b-c)->(c+a)<b:=Z.R 0x106907da2a0000aaa4107da00087 [a,b,c] [] ⋯ ⋯
theorem Yb128:a<=((m:Nat):Int)->b<(a-c)->(c+b)<((m:Nat):Int):=Z.R 0x41068a0407da6a0000aaa0107da40087a28128087 [a,b,c] [m] ⋯ ⋯
theorem Yb129:a<(b-c)->d<(c+a)->d<b:=Z.R 0x1041a41f6b002a2a001f6b0021eaa4107da00087 [a,b,c,d] [] ⋯ ⋯
theorem Yb130:a<=((m:Nat):Int)->b<(a-c)->(c+b)<=((m:Nat):Int):=Z.R 0x1041a28129a800aaa0107da40087a28128087 [a,b,c] [m] ⋯ ⋯
theorem Yb131:a<b->a<((0:Int)+b):=Z.R 0x41a40f4007da000a907da00087 [a,b] [] ⋯ ⋯
theorem Yb132:(max (0:Int) (a-b))<=c->(0:Int)<=c:=Z.R 0x104104102a03d0aaa68040f42087 [a,b,c] [] ⋯ ⋯
theorem Yb133:(max (0:Int) (a-b))<=c->(a-c)<=b:=Z.R 0x41001041a6aa010aaa68040f42087 [a,b,c] [] ⋯ ⋯
theorem Yb134:(max (0:Int) (a-b))<=c->c<a->(-b)<=(a-c):=Z.R 0x108100108106aa01a29142a01f6a0021eaa68040f42087 [a,b,c] [] ⋯ ⋯
theorem Yb135:(0:Int)<a->(((max (0:Int) (a-b))=a)->((0:Int)<a)):=Z.R 0x40000040040001a01f40f400a8a68040f420c7a01f40f40087 [a,b] [] ⋯ ⋯
theorem Yb136:(0:Int)<=a->(0:Int)<b->(max (0:Int) (b-a))<=b:=Z.R 0x1000041001029a29040f420a907d03d0021e803d087 [a,b] [] ⋯ ⋯
theorem aEa:(0:Int)<=(max (0:Int) (a-b)):=Z.R 0x1041029a0103d080f42 [a,b] [] ⋯ ⋯
theorem Yb138:(0:Int)<=a->a<(max (0:Int) (b-c))->(((-c)<=(d-a))/\((d-a)<=c))->¬(d<b)->False:=Z.R 0x1040040000000040068a2907dac00841eaa2b042a2b068a850851eaa4103d081f680021e803d087 [a,b,c,d] [] ⋯ ⋯
theorem Yb139:a=(b+((max (0:Int) (c-d))-(0:Int)))->b=(0:Int)->(max (0:Int) (c-d))=a:=Z.R 0x1000040040040040040001040040040040040040041040040040040040040041000040040040040040028aea040f420c0f690c703daea040f420690280c7 [a,b,c,d] [] ⋯ ⋯
theorem Yb140:(0:Int)<=a->(0:Int)<=b->b<(max (0:Int) (c-a))->b<((0:Int)+c):=Z.R 0x104000100100102a03d001f69002a2a040f4207da40087a40f421e803d087 [a,b,c] [] ⋯ ⋯
theorem Yb141:(0:Int)<=a->b<=((m:Nat):Int)->(max (0:Int) (b-a))<=((m:Nat):Int):=Z.R 0x1001041000028a04a29040f420a8a04a421e803d087 [a,b] [m] ⋯ ⋯
theorem Yb142:(0:Int)<a->(0:Int)<=(a-(1:Int)):=Z.R 0x1041f68040f42a01f40f40087 [a] [] ⋯ ⋯
theorem Yb143:(((0:Int)<=a)/\(a<((m:Nat):Int)))->((0:Int)+b)=((m:Nat):Int)->a<((0:Int)+b):=Z.R 0x1040040a40f4007da000a8a04a40f400c7a28101f68002a00f42147 [a,b] [m] ⋯ ⋯
theorem Yb144:(((0:Int)<=a)/\(a<((m:Nat):Int)))->(0:Int)<=a:=Z.R 0x1001a00f42a28101f68002a00f42147 [a] [m] ⋯ ⋯
theorem Yb145:(((0:Int)<=a)/\(a<((m:Nat):Int)))->(0:Int)=((m:Nat):Int)->False:=Z.R 0x40041a28a0403d0c7a28101f68002a00f42147 [a] [m] ⋯ ⋯
theorem Yb146:(a+a)<b->((c+b)-a)<=d->d<(c+b)->c<=d:=Z.R 0x104206ba82a6a001f6b0021eba29a800421e907da28000087 [a,b,c,d] [] ⋯ ⋯
theorem Yb147:((a+b)-c)<=d->((a+b)-d)<=c:=Z.R 0x106aae9a00042aeaa68001087 [a,b,c,d] [] ⋯ ⋯
theorem Yb148:((a+b)-c)<=d->d<(a+b)->(-c)<=((a+b)-d):=Z.R 0x1081ae9a00068a850a9a0007dac0087aeaa68001087 [a,b,c,d] [] ⋯ ⋯
theorem Yb149:(a+a)<b->(0:Int)<=c->c<d->((((d+b)-a)=(d+b))->((0:Int)<(d+b))):=Z.R 0x40081041a6b001f40f400a9ac0a29ac00431eb07da80087a80f421e907da28000087 [a,b,c,d] [] ⋯ ⋯
theorem Yb150:(0:Int)<=a->((b+c)-a)<=(b+c):=Z.R 0x41aa9028aa90010a803d087 [a,b,c] [] ⋯ ⋯
theorem Yb151:(0:Int)<a->(b+b)<a->(0:Int)<=c->c<d->(0:Int)<=((d+a)-b):=Z.R 0x82081069a2b00103d0ab07da80087a80f421e807da69000087a01f40f40087 [a,b,c,d] [] ⋯ ⋯
theorem Yb152:(a+a)<b->¬((c+a)=((c+b)-a)):=Z.R 0x1001a28a6a001a2a00312907da28000087 [a,b,c] [] ⋯ ⋯
theorem Yb153:(a+b)<=c->(((-b)<=(d-c))/\((d-c)<=b))->¬(a<=d)->False:=Z.R 0x1001068a2ba02107a6aac10aaac1a29142147aa9a00087 [a,b,c,d] [] ⋯ ⋯
theorem Yb154:a<((b+c)-d)->(((-d)<=(e-a))/\((e-a)<=d))->¬(e<(b+c))->False:=Z.R 0x1040068a2aa4007db000841eba2c042a2c068ac50851ebaa900107da00087 [a,b,c,d,e] [] ⋯ ⋯
theorem Yb155:(a+a)<b->(c+a)<=((c+b)-a):=Z.R 0x41a29a80068a800a907da28000087 [a,b,c] [] ⋯ ⋯
theorem Yb156:(0:Int)<=a->(0:Int)<=b->b<c->(0:Int)<=(c+a):=Z.R 0x1041068a8003d0aa07da40087a40f421e803d087 [a,b,c] [] ⋯ ⋯
theorem Yb157:(a+a)<b->c<=d->d<(c+a)->d<(c+b):=Z.R 0x42041a6a001f6b002a2a001f6b0021eba821e907da28000087 [a,b,c,d] [] ⋯ ⋯
theorem Yb158:a<=b->b<(a+c)->((a-(1:Int))-b)<=c:=Z.R 0x410aaa41f680410aaa0007da40087a68087 [a,b,c] [] ⋯ ⋯
theorem Yb159:a<(b+c)->(-c)<=((b-(1:Int))-a):=Z.R 0x106807da41068a850aaa4007da00087 [a,b,c] [] ⋯ ⋯
theorem Yb160:(0:Int)<a->(b+b)<a->(c+a)=(d+((e+a)-((e+a)-b)))->(max c ((c+a)-b))=d:=Z.R 0x40040000040001000002000041002000041ae9a2a001a820e9a2c001a2c001ac0a2a0031e807da69000087a01f40f40087 [a,b,c,d,e] [] ⋯ ⋯
theorem Yb161:(0:Int)<a->(b+b)<a->(max c ((c+a)-b))=((c+a)-b):=Z.R 0x40000040000002041002041a68a80069a2a001a820e807da69000087a01f40f40087 [a,b,c] [] ⋯ ⋯
theorem Yb162:(a+b)<=((m:Nat):Int)->(a+b)<=((m:Nat):Int):=Z.R 0x1068a04a68002a28129a00087 [a,b] [m] ⋯ ⋯
theorem Yb163:(0:Int)<a->(b+b)<a->(min (c+a) (c+b))=(c+((d+b)-d)):=Z.R 0x2041002041040000040000ae9ac006a029a80a2a0030e807da69000087a01f40f40087 [a,b,c,d] [] ⋯ ⋯
theorem Yb164:(0:Int)<a->(b+b)<a->(min (c+a) (c+b))=(c+b):=Z.R 0x2041002041040000040000a6a029a80a2a0030e807da69000087a01f40f40087 [a,b,c] [] ⋯ ⋯
theorem Yb165:(0:Int)<a->(b+b)<a->(c+a)<=((m:Nat):Int)->(c+b)<=((m:Nat):Int):=Z.R 0x82041a28129a800a8a04a2a0021e807da69000087a01f40f40087 [a,b,c] [m] ⋯ ⋯
theorem aD9:(0:Int)<=a->a<b->(0:Int)<=b:=Z.R 0x1041a40f42a41f680021e803d087 [a,b] [] ⋯ ⋯
theorem Yb167:(0:Int)<a->b<c->b<=(c+a):=Z.R 0x1041a2a0290aa07da40087a01f40f40087 [a,b,c] [] ⋯ ⋯
theorem Yb168:(0:Int)<a->b<(b+a):=Z.R 0x41a29001f69002a01f40f40087 [a,b] [] ⋯ ⋯
theorem Yb169:a<=(b+b)->¬(c<(d+b))->((d+a)-c)<=b:=Z.R 0x1041a6aa2b0010a8a6b001f6a002107a69028087 [a,b,c,d] [] ⋯ ⋯
theorem Yb170:a<=(b+b)->c<(d+a)->¬(c<(d+b))->(-b)<=((d+a)-c):=Z.R 0x104206aa2b001a29142a29ac007da800841e8ac007da80087a69028087 [a,b,c,d] [] ⋯ ⋯
theorem Yb171:(0:Int)<a->b<=(b+a):=Z.R 0x1068a40a42a01f40f40087 [a,b] [] ⋯ ⋯
theorem Yb172:(a+b)=((m:Nat):Int)->(min (a+b) (a+c))<=d->d<((m:Nat):Int)->(((-c)<=(e-d))/\((e-d)<=c))->¬(a<=e)->False:=Z.R 0x1040040040040040000a28b280841eaaec042aec068a850851e8a0407dac0087aeaa00a68003087a28129a000c7 [a,b,c,d,e] [m] ⋯ ⋯
theorem Yb173:(a+b)=((m:Nat):Int)->(((0:Int)<=c)/\(c<((m:Nat):Int)))->c<(a+b):=Z.R 0x1040040a68001f6a002a28101f6a002a80f42147a28129a000c7 [a,b,c] [m] ⋯ ⋯
theorem Yb174:(a+b)=((m:Nat):Int)->(min (a+b) (a+c))<=((m:Nat):Int):=Z.R 0x1000041040068a04aa8029a000c2a28129a000c7 [a,b,c] [m] ⋯ ⋯
theorem Yb175:(0:Int)<=a->(b+c)=((m:Nat):Int)->(0:Int)<=d->d<b->(0:Int)<=(min (b+c) (b+a)):=Z.R 0x1000001000040041000068a40aa900303d0a907dac0087ac0f421e8a04aa90031e803d087 [a,b,c,d] [m] ⋯ ⋯
theorem Yb176:(0:Int)<a->(b+a)=((m:Nat):Int)->((min (b+a) (b+c))<((m:Nat):Int))∨(((min (b+a) (b+c))=((m:Nat):Int))/\(b<(min (b+a) (b+c)))):=Z.R 0x100000000104000100004100000100004000000100100004100004100000100100000000104004000104100000100004000000100100100000004000100102aa40a2900307da400a8a04aa9028a400c3168a0407daa9028a400c0086a28128a400c7a01f40f40087 [a,b,c] [m] ⋯ ⋯
theorem Yb177:a<(min (b+c) (b+d))->a<(b+c):=Z.R 0x104004106aa4007da000aba40aa900307da00087 [a,b,c,d] [] ⋯ ⋯
theorem Yb178:a<=b->b<(min (a+c) (a+d))->((a-(1:Int))-b)<=d:=Z.R 0x10410810400aba41f680410aba00aa800307da40087a68087 [a,b,c,d] [] ⋯ ⋯
theorem Yb179:a<(min (b+c) (b+d))->(-d)<=((b-(1:Int))-a):=Z.R 0x104104102807da41068ac50aba40aa900307da00087 [a,b,c,d] [] ⋯ ⋯
theorem Yb180:(0:Int)<=a->(0:Int)<b->c<=(min (c+b) (c+a)):=Z.R 0x40040040001a2a029a800ea0a907d03d0021e803d087 [a,b,c] [] ⋯ ⋯
theorem Yb181:(min (a+b) (a+c))=(a+((min (d+b) (d+c))-d)):=Z.R 0x100004000104004004104004004100004002baab029ac00c1a00aa8029a000c3 [a,b,c,d] [] ⋯ ⋯
theorem Yb182:a<=b->(min a b)=a:=Z.R 0x1000040001001041028a680c3a68087 [a,b] [] ⋯ ⋯
theorem Yb183:(0:Int)<=a->((b<=c)/\(d<=e))->((max b (c-a))<=c)/\((max d (e-a))<=e):=Z.R 0x40000041001000040000041000040b28b01ac20aaa2a06908216cac2aa90851e803d087 [a,b,c,d,e] [] ⋯ ⋯
theorem Yb184:(0:Int)<=a->(0:Int)<=b->(0:Int)<=(min a b):=Z.R 0x40001040040a680c0f42a40f421e803d087 [a,b] [] ⋯ ⋯
theorem Yb185:(min a ((max b (a-c))+c))=a:=Z.R 0x1000040001000040001000040001001041028aaaa01a420280c3 [a,b,c] [] ⋯ ⋯
theorem Yb186:(min (min a (b+c)) (b+d))=(min a (b+(min d c))):=Z.R 0x100000004000000104000004000100100000004000000104000004000004104000004000100100000004000000100100104000100100100004000104104100004000004100100004000100104000004000004100000004000000104000004000104100000004000000104100004000104100100004000102aac3a40a03ae902aa40a030c3 [a,b,c,d] [] ⋯ ⋯
theorem Yb187:(max (max a (b-c)) (b-d))=(max a (b-(min d c))):=Z.R 0x100000004000000100004104100000100004004004000100004104104000100004004004000100000104104000100000004000000100000104100000100000004000000100004004100000100004104004000100004004004004100004004100000100000004000000100000104100000100000004000002aac3a41a02ae906aa41a02083 [a,b,c,d] [] ⋯ ⋯
theorem Yb188:((m:Nat):Int)<=a->(((m+(1:Nat)):Nat):Int)<=(a+(1:Int)):=Z.R 0x1041f6802807da00102a28a04087 [a] [m] ⋯ ⋯
theorem Yb189:a<(a+(1:Int)):=Z.R 0x41f68001f68002 [a] [] ⋯ ⋯
theorem aD8:(((0:Int)<=a)/\((a<b)/\(b<=c)))->((0:Int)<=a)/\((a<b)/\(b<=(c+(1:Int)))):=Z.R 0x4100004004004000107da80a42a41f6800216803d085aa90a907da00085a00f42147 [a,b,c] [] ⋯ ⋯
theorem Yb191:(((m+(1:Nat)):Nat):Int)<=a->(((m+(1:Nat)):Nat):Int)<=(a+(1:Int)):=Z.R 0x4107da00a01f680040a8a01f68004087 [a] [m] ⋯ ⋯
theorem Yb192:a<b->a<(b+(1:Int)):=Z.R 0x4107da4007da000a907da00087 [a,b] [] ⋯ ⋯
theorem Yb193:((m:Nat):Int)<=a->((m:Nat):Int)<=(a+(1:Int)):=Z.R 0x4107da00a28102a28a04087 [a] [m] ⋯ ⋯
theorem Yb194:((m:Nat):Int)<=((n:Nat):Int)->m<=n:=Z.R 0x1069a00a29128a04087 [] [m,n] ⋯ ⋯
theorem Yb195:((0:Int)+(((Int.toNat ((m:Nat):Int)):Nat):Int))=((m:Nat):Int):=Z.R 0x41040040040a28128a28a0410403d003 [] [m] ⋯ ⋯
theorem Yb196:m<(1000:Nat)->a<((m:Nat):Int)->a<(1000:Int):=Z.R 0x10417e8f41f68002a28101f680021dfa3d07da00007 [a] [m] ⋯ ⋯
theorem Yb197:m<(1000:Nat)->((-(1000000:Int))<((m:Nat):Int))/\(((m:Nat):Int)<(1000000:Int)):=Z.R 0x410407b0ca0f41f68a04002a28101f687b0ca0f4500215fa3d07da00007 [] [m] ⋯ ⋯
theorem Yb198:a<(1000:Int)->(((0:Int)<=b)/\((b<c)/\(c<=a)))->(Int.toNat (c-b))<(1000000:Nat):=Z.R 0x4004000100100105ec3283d07da29a81100028a82a81f6900216903d0851dfa3d07da00087 [a,b,c] [] ⋯ ⋯
theorem Yb199:(a-(1:Int))=(b-(1:Int))->a=b:=Z.R 0x1040040069a0307da4107da010c7 [a,b] [] ⋯ ⋯
theorem Yb200:a<(1000:Int)->((m:Nat):Int)<=a->m<(1000000:Nat):=Z.R 0x4105ec3283d07da00028a281021dfa3d07da00087 [a] [m] ⋯ ⋯
theorem Yb201:((a-(1:Int))+(1:Int))=a:=Z.R 0x106807d07da01003 [a] [] ⋯ ⋯
theorem Yb202:a<((m:Nat):Int)->a<((m:Nat):Int):=Z.R 0x1068a0407da000a8a0407da00087 [a] [m] ⋯ ⋯
theorem Yb203:(0:Int)<=a->a<((m:Nat):Int)->m<(100000:Nat)->((-(1000000:Int))<a)/\(a<(1000000:Int)):=Z.R 0x410400400017b0ca0f41f68002a01f687b0ca0f4500214387583d07da00007a28101f680021e803d087 [a] [m] ⋯ ⋯
theorem Yb204:(0:Int)<=a->a<((m:Nat):Int)->(Int.toNat a)<m:=Z.R 0x40041040040a01f68a04000a28101f680021e803d087 [a] [m] ⋯ ⋯
theorem Yb205:(((m+(1:Nat)):Nat):Int)<=(a-b)->(((m+(1:Nat)):Nat):Int)<=((a+(1:Int))-b):=Z.R 0x41a41f68001a01f680040a9a01a01f68004087 [a,b] [m] ⋯ ⋯
theorem Yb206:((m:Nat):Int)<=(a-b)->b<=(a+(1:Int)):=Z.R 0x4107da00a42a68068a04087 [a,b] [m] ⋯ ⋯
theorem oE:m<(10000:Nat)->m<(100000:Nat):=Z.R 0x410e1d60f41f68000278c3d07da00007 [] [m] ⋯ ⋯
theorem Yb208:a<((m:Nat):Int)->b<a->(b+(1:Int))<((m:Nat):Int):=Z.R 0x41068a0407d07da40002a01f690021e8a0407da00087 [a,b] [m] ⋯ ⋯
theorem Yb209:(0:Int)<=a->((m:Nat):Int)<=(b-a)->(0:Int)<=(b+(1:Int)):=Z.R 0x104107da4003d0a8a41a281021e803d087 [a,b] [m] ⋯ ⋯
theorem Yb210:m<(10000:Nat)->(0:Int)<=a->b<((m:Nat):Int)->((n:Nat):Int)<=(c-a)->c<b->n<(1000000:Nat):=Z.R 0x104104105ec3283d07da4002907da80087a2a068a44087a28101f690021e803d087278c3d07da00007 [a,b,c] [m,n] ⋯ ⋯
theorem Yb211:a<((m:Nat):Int)->b<a->b<((m:Nat):Int):=Z.R 0x1041a28101f69002a01f690021e8a0407da00087 [a,b] [m] ⋯ ⋯
theorem Yb212:(0:Int)<=a->((m:Nat):Int)<=(b-a)->(0:Int)<=b:=Z.R 0x4106903d0a8a41a281021e803d087 [a,b] [m] ⋯ ⋯
theorem Yb213:((m:Nat):Int)<=(a-b)->(((m+(1:Nat)):Nat):Int)<=((a+(1:Int))-b):=Z.R 0x106907da0006807da00102a68068a04087 [a,b] [m] ⋯ ⋯
theorem Yb214:a<=b->¬(b<a):=Z.R 0x41a2807da40084a68087 [a,b] [] ⋯ ⋯
theorem Yb215: ¬(a<b)->(Int.toNat (b-a))=(0:Nat):=Z.R 0x1000040001040040040f68a29044068a41f68002107 [a,b] [] ⋯ ⋯
theorem Yb216:(a+(((m+(1:Nat)):Nat):Int))=((a+(1:Int))+((m:Nat):Int)):=Z.R 0x1068a0407da0002807da00128003 [a] [m] ⋯ ⋯
theorem Yb217:a<b->(Int.toNat (b-a))=((Int.toNat (b-(a+(1:Int))))+(1:Nat)):=Z.R 0x4100004100004100004104000104100004000004000007da01f68029044028a2904406907da00087 [a,b] [] ⋯ ⋯
theorem Yb218:(0:Int)<=a->b<=c->c=(((m:Nat):Int)-(1:Int))->m<(10000:Nat)->((n:Nat):Int)<=(b-a)->p<=(1:Nat)->(p+n)<(100000:Nat):=Z.R 0x104104004104387583d07da6a000001f6a007a29068a44087278c3d07da0000707da28101a831eaa421e803d087 [a,b,c] [m,n,p] ⋯ ⋯
theorem Yb219:a<=b->b=(((m:Nat):Int)-(1:Int))->a<((m:Nat):Int):=Z.R 0x1001068a0407da00081f68a040690c7a68087 [a,b] [m] ⋯ ⋯
theorem Yb220:(0:Int)<=a->b<=c->c=(((m:Nat):Int)-(1:Int))->m<(10000:Nat)->((n:Nat):Int)<=(b-a)->n<(100000:Nat):=Z.R 0x10410010410e1d60f41f69000a29068a44087278c3d07da0000707da28101a831eaa421e803d087 [a,b,c] [m,n] ⋯ ⋯
theorem Yb221:a<=b->b=(((m:Nat):Int)-(1:Int))->((n:Nat):Int)<=(a-c)->c<((m:Nat):Int):=Z.R 0x41001068a0407da800aaa01a291021c1f68a040690c7a68087 [a,b,c] [m,n] ⋯ ⋯
theorem Yb222:m<(100000:Nat)->(m+(1:Nat))<(1000000:Nat):=Z.R 0x417b0ca0f41f41f6800000387583d07da00007 [] [m] ⋯ ⋯
theorem Yb223:m<(100000:Nat)->((1:Nat)+m)<(1000000:Nat):=Z.R 0x417b0ca0f41f6807d00000387583d07da00007 [] [m] ⋯ ⋯
theorem Yb224:a=(((100:Int)+((m:Nat):Int))+(((Int.toNat (b-c)):Nat):Int))->(0:Int)<=a->a<(8:Int)->False:=Z.R 0x40040001001001a08f41f680021e803d087a28aa9044128a040e4f400280c7 [a,b,c] [m] ⋯ ⋯
theorem Yb225:a<=b->a=((m:Nat):Int)->b=(((m+(Int.toNat (b-a))):Nat):Int):=Z.R 0x1001001041001001001000040001028a28a41128004a43a281280c7a68087 [a,b] [m] ⋯ ⋯
theorem Yb226:a=(b+((m:Nat):Int))->b<=c->c<a->(Int.toNat (c-b))<m:=Z.R 0x100104004100100006807da29a8110002807da80087aa9087a281290280c7 [a,b,c] [m] ⋯ ⋯
theorem Yb227:m=n->a<((m:Nat):Int)->(Int.toNat a)<=n:=Z.R 0x40000041001001a68a04028a0407da00087a68047 [a] [m,n] ⋯ ⋯
theorem Yb228:a=(b+((m:Nat):Int))->(((1:Nat)<=m)/\(m<=(3:Nat)))->b<a:=Z.R 0x1001040a01f690020fda00a01f40147a281290280c7 [a,b] [m] ⋯ ⋯
theorem Yb229:m=n->(0:Int)<=a->a<((m:Nat):Int)->(Int.toNat a)<n:=Z.R 0x40041001040040001a41f68a04000a28101f680021e803d087a68047 [a] [m,n] ⋯ ⋯
theorem Yb230:(((m+(n+(0:Nat))):Nat):Int)=(((m:Nat):Int)+((n:Nat):Int)):=Z.R 0x41a29128a0402803da40a00103 [] [m,n] ⋯ ⋯
theorem Yb231:(((0:Int)<=a)/\(a<((m:Nat):Int)))->(((Int.toNat a):Nat):Int)=a:=Z.R 0x1040001000041000001000028a28a04103a28101f68002a00f42147 [a] [m] ⋯ ⋯
theorem Yb232:(((0:Int)<=a)/\(a<((m:Nat):Int)))->(Int.toNat a)<m:=Z.R 0x40041040040a01f68a04000a28101f68002a00f42147 [a] [m] ⋯ ⋯
theorem Yb233:m<n->((0:Int)<=((m:Nat):Int))/\(((m:Nat):Int)<((n:Nat):Int)):=Z.R 0x41040a29101f68a04002a28100f4216907da00007 [] [m,n] ⋯ ⋯
theorem Yb234:(((1:Nat)<=m)/\(m<=(3:Nat)))->n<=((3:Nat)*p)->(m+n)<=((3:Nat)*(p+(1:Nat))):=Z.R 0x4104007da800fea68000a83fa90070fda00a01f40147 [] [m,n,p] ⋯ ⋯
theorem Yb235:(0:Int)<=a->a<(3:Int)->((1:Nat)<=(Int.toNat ((1:Int)+a)))/\((Int.toNat ((1:Int)+a))<=(3:Nat)):=Z.R 0x10010400400010010400010fda2807d004028a01f40101f40143f41f680021e803d087 [a] [] ⋯ ⋯
theorem Yb236:m<=(72:Nat)->n=m->(n+(1:Nat))<(1000:Nat):=Z.R 0x100105fa3d07d07da40000a290470a8f68007 [] [m,n] ⋯ ⋯
theorem Yb237:m<=(72:Nat)->n<=((3:Nat)*m)->n<(1000:Nat):=Z.R 0x10437e8f41f69000a03fa90070a8f68007 [] [m,n] ⋯ ⋯
theorem Yb238:m<(1000:Nat)->m<(1000000:Nat):=Z.R 0x105ec3283d07da0001fa3d07da00007 [] [m] ⋯ ⋯
theorem Yb239:m<(1000:Nat)->(0:Int)<=a->a<(3:Int)->(m+(Int.toNat ((1:Int)+a)))<(1000000:Nat):=Z.R 0x4004004004005ec3283d07da2807d004a000000fd07da00087a00f421dfa3d07da00007 [a] [m] ⋯ ⋯
theorem Yb240:m<(1000:Nat)->m<(10000:Nat):=Z.R 0x41278c3d07da0001fa3d07da00007 [] [m] ⋯ ⋯
theorem Yb241:m<(1000:Nat)->(((1:Nat)<=n)/\(n<=(3:Nat)))->(m+n)<(100000:Nat):=Z.R 0x104004387583d07da68000003f6902907d0051dfa3d07da00007 [] [m,n] ⋯ ⋯
theorem Yb242:m<(1000:Nat)->(n+p)=m->n<(1000:Nat):=Z.R 0x100105fa3d07da40028aa90011dfa3d07da00007 [] [m,n,p] ⋯ ⋯
theorem Yb243:(0:Int)<=a->a<(3:Int)->(Int.toNat ((1:Int)+a))<(1000000:Nat):=Z.R 0x10010400407b0ca0f41f68a01f40100003f41f680021e803d087 [a] [] ⋯ ⋯
theorem Yb244:(0:Int)<=a->a<(3:Int)->((-(1000000:Int))<((1:Int)+a))/\(((1:Int)+a)<(1000000:Int)):=Z.R 0x410010017b0ca0f41f6807d0000a807d001f687b0ca0f45002143f41f680021e803d087 [a] [] ⋯ ⋯
theorem xS:m<=(72:Nat)->m<(100000:Nat):=Z.R 0x410e1d60f41f680000a8f68007 [] [m] ⋯ ⋯
theorem Yb246:m<=(72:Nat)->n<=m->n<(1000000:Nat):=Z.R 0x10417b0ca0f41f69000a290070a8f68007 [] [m,n] ⋯ ⋯
theorem Yb247:m<=(72:Nat)->m<(1000000:Nat):=Z.R 0x417b0ca0f41f680000a8f68007 [] [m] ⋯ ⋯
theorem Yb248:(1:Nat)<=(m+(9:Nat)):=Z.R 0x49f68001f40 [] [m] ⋯ ⋯
theorem Yb249:m<=(63:Nat)->(m+(9:Nat))<=(72:Nat):=Z.R 0x410a8f49f6800007ff68007 [] [m] ⋯ ⋯
theorem Yb250:m<=(63:Nat)->(m+(9:Nat))<(1000000:Nat):=Z.R 0x105ec3283d07d27da0000007ff68007 [] [m] ⋯ ⋯
theorem Yb251:m<=(63:Nat)->m<=(72:Nat):=Z.R 0x1042a3da0007ff68007 [] [m] ⋯ ⋯
theorem Yb252:m<=(63:Nat)->m<(100000:Nat):=Z.R 0x410e1d60f41f6800007ff68007 [] [m] ⋯ ⋯
theorem Yb253:(((m:Nat):Int)-(((m+(1:Nat)):Nat):Int))=(-(1:Int)):=Z.R 0x106807d16807da00128a04043 [] [m] ⋯ ⋯
theorem Yb254:(Int.toNat (((m:Nat):Int)-(-(1:Int))))=(m+(1:Nat)):=Z.R 0x1041001001001f68028a01f45a28101101 [] [m] ⋯ ⋯
theorem Yb255:m<=(72:Nat)->((m:Nat):Int)<(1000000:Int):=Z.R 0x417b0ca0f41f68a040020a8f68007 [] [m] ⋯ ⋯
theorem Yb256:(-(1000000:Int))<((m:Nat):Int):=Z.R 0x1a28101f687b0ca0f45002 [] [m] ⋯ ⋯
theorem Yb257:a<=(b+(-(1:Int)))->(min a b)=a:=Z.R 0x40001000001040041a29a030e807d169028087 [a,b] [] ⋯ ⋯
theorem Yb258:(0:Int)<=a->a<=(b+(-(1:Int)))->(0:Int)<=b:=Z.R 0x1041a40f42a01f45a40a021e803d087 [a,b] [] ⋯ ⋯
theorem Yb259:a<=(b+(-(1:Int)))->a<=b:=Z.R 0x41a680a807d169028087 [a,b] [] ⋯ ⋯
theorem Yb260:(-(1:Int))<a->(0:Int)<=a:=Z.R 0x41a00f42a01f6807d140087 [a] [] ⋯ ⋯
theorem Yb261:m<=(72:Nat)->((m:Nat):Int)=(((n:Nat):Int)-(1:Int))->n<(10000:Nat):=Z.R 0x41001278c3d07da40001f68a44068a040c70a8f68007 [] [m,n] ⋯ ⋯
theorem Yb262:m<=(72:Nat)->n<=m->n<(100000:Nat):=Z.R 0x10410e1d60f41f69000a290070a8f68007 [] [m,n] ⋯ ⋯
theorem Yb263:m<=(72:Nat)->m<(1000:Nat):=Z.R 0x417e8f41f680000a8f68007 [] [m] ⋯ ⋯
theorem Yb264:(a-(((m+(1:Nat)):Nat):Int))=b->((a+(-(1:Int)))-((m:Nat):Int))=b:=Z.R 0x1040040069a2812807d1680010e9a01f68004a010c7 [a,b] [m] ⋯ ⋯
theorem Yb265:(a-(((m+(1:Nat)):Nat):Int))=b->b<a:=Z.R 0x4102807da400a9a01f68004a010c7 [a,b] [m] ⋯ ⋯
theorem Yb266:(a-(((0:Nat):Nat):Int))=b->a=b:=Z.R 0x41001001a680e9a00f44a010c7 [a,b] [] ⋯ ⋯
theorem Yb267:m=n->p=n->((m:Nat):Int)=((((p+(1:Nat)):Nat):Int)-(1:Int)):=Z.R 0x1001040041000041f6807da80101a28103a6a047a68047 [] [m,n,p] ⋯ ⋯
theorem Yb268:m<=(72:Nat)->n=m->p<=n->p<(10000:Nat):=Z.R 0x41001049e30f41f6a000a6a007a290470a8f68007 [] [m,n,p] ⋯ ⋯
theorem Yb269:m<=(72:Nat)->n=m->n<=(72:Nat):=Z.R 0x1001042a3da40a290470a8f68007 [] [m,n] ⋯ ⋯
theorem Yb270:m<=(72:Nat)->n=m->((0:Int)+((p:Nat):Int))<=((n:Nat):Int)->p<=(200:Nat):=Z.R 0x10400411a8f6a028a44a2a100f40087a290470a8f68007 [] [m,n,p] ⋯ ⋯
theorem Yb271:m<=(72:Nat)->n=m->((0:Int)+((2:Int)*((p:Nat):Int)))<=(((n:Nat):Int)+(1:Int))->p<(64:Nat):=Z.R 0x20400410a0f41f6a00007da29100a2a102f80f40087a290470a8f68007 [] [m,n,p] ⋯ ⋯
theorem Yb272:m<=(72:Nat)->n=m->n<(200:Nat):=Z.R 0x400411a8f41f69000a290470a8f68007 [] [m,n] ⋯ ⋯
theorem Yb273:m<=(72:Nat)->n<=((3:Nat)*m)->n<(1000000:Nat):=Z.R 0x10437b0ca0f41f69000a03fa90070a8f68007 [] [m,n] ⋯ ⋯
theorem Yb274:m<=(72:Nat)->n=m->n<(1000000:Nat):=Z.R 0x400417b0ca0f41f69000a290470a8f68007 [] [m,n] ⋯ ⋯
end
section
theorem tl_tl(o:Op)(m n:Int):(o.tl m).tl n=o.tl (min n m):=by
 show Op.mk o.tag (max (max o.i1 (o.i2-m)) (o.i2-n)) o.i2 (max (max o.j1 (o.j2-m)) (o.j2-n)) o.j2=Op.mk o.tag (max o.i1 (o.i2-min n m)) o.i2 (max o.j1 (o.j2-min n m)) o.j2
 congr 1
 ·exact Yb187
 ·exact Yb187
theorem hd_hd(o:Op)(m n:Int):(o.hd m).hd n=o.hd (min n m):=by
 show Op.mk o.tag o.i1 (min (min o.i2 (o.i1+m)) (o.i1+n)) o.j1 (min (min o.j2 (o.j1+m)) (o.j1+n))=Op.mk o.tag o.i1 (min o.i2 (o.i1+min n m)) o.j1 (min o.j2 (o.j1+min n m))
 congr 1
 ·exact Yb186
 ·exact Yb186
theorem hd_tl(o:Op){m:Int}(m0:0<=m)(h:o.i1<=o.i2)(h':o.j1<=o.j2):(o.tl m).hd m=o.tl m:=by
 show Op.mk o.tag (max o.i1 (o.i2-m)) (min o.i2 (max o.i1 (o.i2-m)+m)) (max o.j1 (o.j2-m)) (min o.j2 (max o.j1 (o.j2-m)+m))=Op.mk o.tag (max o.i1 (o.i2-m)) o.i2 (max o.j1 (o.j2-m)) o.j2
 congr 1
 ·exact Yb185
 ·exact Yb185
def tlE(n:Int)(o:Op):Op:=bif o.tag.isEq then o.tl n else o
def hdE(n:Int)(o:Op):Op:=bif o.tag.isEq then o.hd n else o
theorem tlE_t(n:Int)(o:Op):(tlE n o).tag=o.tag:=by unfold tlE;cases o.tag.isEq<;>rfl
theorem z0(o:Op)(m n:Int):tlE n (tlE m o)=tlE (min n m) o:=by
 cases e:o.tag.isEq with
 |false=>unfold tlE;rw[e,cond_false,cond_false,e];rfl
 |true=>
  have:tlE m o=o.tl m:=by unfold tlE;rw[e];rfl
  rw [this]
  unfold tlE
  rw [show (o.tl m).tag.isEq=true from e,e,cond_true,cond_true,tl_tl]
theorem hdE_2(o:Op)(m n:Int):hdE n (hdE m o)=hdE (min n m) o:=by
 cases e:o.tag.isEq with
 |false=>unfold hdE;rw[e,cond_false,cond_false,e];rfl
 |true=>
  have:hdE m o=o.hd m:=by unfold hdE;rw[e];rfl
  rw [this]
  unfold hdE
  rw [show (o.hd m).tag.isEq=true from e,e,cond_true,cond_true,hd_hd]
theorem vM(o:Op){m:Int}(m0:0<=m)(h:o.i1<=o.i2)(h':o.j1<=o.j2):hdE m (tlE m o)=tlE m o:=by
 cases e:o.tag.isEq with
 |false=>unfold hdE;rw[tlE_t,e];rfl
 |true=>
  have:tlE m o=o.tl m:=by unfold tlE;rw[e];rfl
  rw [this]
  unfold hdE
  rw [show (o.tl m).tag.isEq=true from e,cond_true,hd_tl o m0 h h']
theorem vQ(n:Int)(o:Op):jP n [o]= [hdE n (tlE n o)]:=rfl
theorem vP(n:Int)(o:Op)(L:List Op)(z:Op):jP n (o :: (L++[z]))=tlE n o :: (L++[hdE n z]):=by
 show eF n ((tlE n o :: L)++[z])=_
 rw [lN];rfl
theorem aC4{n m:Int}(n0:0<=n)(m0:0<=m){l:List Op}(hs:∀ o,l= [o]->o.i1<=o.i2/\o.j1<=o.j2):jP n (jP m l)=jP (min n m) l:=by
 cases l with
 |nil=>rfl
 |cons o l=>
  rcases List.eq_nil_or_concat l with rfl |⟨L,z,rfl⟩
  ·have v:=hs o rfl
   rw [vQ,vQ,vQ,vM o m0 v.1 v.2,z0,vM o (show 0<=min n m by exact Yb184 n0 m0) v.1 v.2]
   have v2:(tlE m o).i1<=(tlE m o).i2/\(tlE m o).j1<=(tlE m o).j2:=by
    unfold tlE
    cases o.tag.isEq with
    |false=>exact v
    |true=>
     show max o.i1 (o.i2-m)<=o.i2/\max o.j1 (o.j2-m)<=o.j2
     exact Yb183 m0 v
   have:=vM (tlE m o) n0 v2.1 v2.2
   rw [z0]at this
   rw [this]
  ·rw[List.concat_eq_append,vP,vP,vP,z0,hdE_2]
theorem tO{n:Int}{l:List Op}(h:l≠ []):groups n l=grps n [] (jP n l):=by
 cases l with
 |nil=>exact absurd rfl h
 |cons o l=>rfl
theorem aCt{n m:Int}(n0:0<=n)(nm:n<=m){l:List Op}(hs:∀ o,l= [o]->o.i1<=o.i2/\o.j1<=o.j2):groups n (jP m l)=groups n l:=by
 cases l with
 |nil=>rfl
 |cons o l=>
  have:jP m (o :: l)≠ []:=λe=>by
   have:=congrArg List.length e
   rw [tV]at this
   cases this
  rw [tO this,tO (List.cons_ne_nil _ _),aC4 n0 (Int.le_trans n0 nm) hs,show min n m=n by exact Yb182 nm]
end
section
variable {a b c d e f g h i j k l:Int}{m n p q r s t u v w x y:Nat}
theorem Ya0:((a<=b)/\((c<=d)/\(((b+e)<=f)/\(((d+e)<=g)/\((0:Int)<e)))))->(b<=f)/\(d<=g):=Z.R 0x104100000104004002eac2b69085b01f40f400aeb2b00216db2900216ba82169a02147 [a,b,c,d,e,f,g] [] ⋯ ⋯
theorem Ya1:((a<=b)/\((c<=d)/\(((b+e)<=f)/\(((d+e)<=g)/\((0:Int)<e)))))->(a<=(b+e))/\(c<=(d+e)):=Z.R 0x104000100104000006cac0a82b29028085b01f40f400aeb2b00216db2900216ba82169a02147 [a,b,c,d,e,f,g] [] ⋯ ⋯
theorem Ya2:(0:Int)<a->(((b+a)<=c)/\(((d+a)<=e)/\(((c+f)<=g)/\(((e+f)<=h)/\((0:Int)<f)))))->b<c:=Z.R 0x1000000041a81f69002b41f40f400afb6c00216eb6a00216ca2b00216aa29002147a01f40f40087 [a,b,c,d,e,f,g,h] [] ⋯ ⋯
theorem Ya3:a<=b->c<=d->(0:Int)<e->(((b+e)<=f)/\(((d+e)<=g)/\(((f+h)<=i)/\(((g+h)<=j)/\((0:Int)<h)))))->(a<=f)/\((c<=g)/\(((f+h)<=i)/\(((g+h)<=j)/\((0:Int)<h)))):=Z.R 0x4100000000000100100000000004000100000000100000100104004000000104006f07d03d002c6fb80085c2fb40085baa085b68085bc1f40f400b1bee002170bed00216eb2b00216db29002147b01f40f40087aea087a68087 [a,b,c,d,e,f,g,h,i,j] [] ⋯ ⋯
theorem Ya4:a<=b->(0:Int)<c->(((d+c)<=e)/\((b+c)<=f))->a<=f:=Z.R 0x4100106da02b6aa400acaab002147a81f40f40087a68087 [a,b,c,d,e,f] [] ⋯ ⋯
theorem Ya5:a<=b->(0:Int)<c->(((b+c)<=d)/\((e+c)<=f))->a<=d:=Z.R 0x4004106ba02b6ab000abaa9002147a81f40f40087a68087 [a,b,c,d,e,f] [] ⋯ ⋯
end
section
section
variable {a b:List Int}
inductive Tree(a b:List Int):Wd->List T3->Prop
 |leaf {w:Wd} (h:∀ i j k,In a b w i j k->¬0<k):Tree a b w []
 |node {w:Wd}{i j k:Int}{x y:List T3} (B:Best a b w i j k) (p:0<k) (hx:Tree a b ⟨w.al,i,w.bl,j⟩ x) (hy:Tree a b ⟨i+k,w.ah,j+k,w.bh⟩ y):Tree a b w (x++⟨i,j,k⟩ :: y)
inductive Trs(a b:List Int):List Wd->List (List T3)->Prop
 |nil:Trs a b [] []
 |cons {w:Wd}{q:List Wd}{x:List T3}{xs:List (List T3)} (h:Tree a b w x) (t:Trs a b q xs):Trs a b (w :: q) (x :: xs)
theorem zM{w:Wd}{i j:Int}{q:List Wd}{bs:List (List T3)}(h:Trs a b (gO w i j q) bs):∃ x xs,Tree a b ⟨w.al,i,w.bl,j⟩ x/\Trs a b q xs/\bs.flatten=x++xs.flatten:=by
 unfold gO at h
 split at h
 ·cases h with
  |cons h t=>exact⟨_,_,h,t,rfl⟩
 ·rename_i n
  exact⟨[],bs,.leaf λi' j' k' B p=>n ⟨by have:=B.i0;have:=B.i1;show w.al<i;exact Int.lt_of_lt_of_le (Int.lt_of_le_of_lt B.i0 (Int.lt_add_of_pos_right i' p)) B.i1,Int.lt_of_lt_of_le (Int.lt_of_le_of_lt B.j0 (Int.lt_add_of_pos_right j' p)) B.j1⟩,h,rfl⟩
theorem zL{w:Wd}{i j k:Int}{q:List Wd}{bs:List (List T3)}(h:Trs a b (iH w i j k q) bs):∃ x xs,Tree a b ⟨i+k,w.ah,j+k,w.bh⟩ x/\Trs a b q xs/\bs.flatten=x++xs.flatten:=by
 unfold iH at h
 split at h
 ·cases h with
  |cons h t=>exact⟨_,_,h,t,rfl⟩
 ·rename_i n
  exact⟨[],bs,.leaf λi' j' k' B p=>n ⟨Int.lt_of_lt_of_le (Int.lt_of_le_of_lt B.i0 (Int.lt_add_of_pos_right i' p)) B.i1,Int.lt_of_lt_of_le (Int.lt_of_le_of_lt B.j0 (Int.lt_add_of_pos_right j' p)) B.j1⟩,h,rfl⟩
theorem Run.tree{q:List Wd}{m r:List T3}(h:Run a b q m r):∃ bs,Trs a b q bs/\r.Perm (m++bs.flatten):=by
 induction h with
 |nil=>exact⟨[],.nil,by rw[List.flatten_nil,List.append_nil]⟩
 |zero B h ih=>
  obtain⟨bs,t,p⟩:=ih
  exact⟨[] :: bs,.cons (.leaf λi' j' k' n q=>absurd ((B.g i' j' k' n q).pos q) (Int.lt_irrefl _)) t,p⟩
 | @pos w q m r i j k B p h ih=>
  obtain⟨bs,t,pm⟩:=ih
  obtain⟨y,ys,hy,t1,e1⟩:=zL t
  obtain⟨x,xs,hx,t2,e2⟩:=zM t1
  refine⟨(x++⟨i,j,k⟩ :: y) :: xs,.cons (.node B p hx hy) t2,pm.trans ?_⟩
  rw [e1,e2,List.flatten_cons,List.append_assoc,List.append_assoc]
  refine List.Perm.append_left m ?_
  show(T3.mk i j k :: (y++(x++xs.flatten))).Perm (x++T3.mk i j k :: (y++xs.flatten))
  refine List.Perm.trans (.cons _ ?_) List.perm_middle.symm
  rw [<-List.append_assoc,<-List.append_assoc]
  exact List.Perm.append_right _ List.perm_append_comm
theorem Tree.uniq{w:Wd}{x y:List T3}(h:Tree a b w x):Tree a b w y->x=y:=by
 induction h generalizing y with
 |leaf h=>
  intro h'
  cases h' with
  |leaf=>rfl
  |node B p=>exact absurd p (h _ _ _ B.n)
 |node B p hx hy ih1 ih2=>
  intro h'
  cases h' with
  |leaf h=>exact absurd p (h _ _ _ B.n)
  |node B' p' hx' hy'=>
   obtain⟨e1,e2,e3⟩:=B.uniq B'
   subst e1 e2 e3
   rw [ih1 hx',ih2 hy']
inductive Seq:Int->Int->List T3->Int->Int->Prop
 |nil {i j i' j':Int} (hi:i<=i') (hj:j<=j'):Seq i j [] i' j'
 |cons {i j i' j':Int}{t:T3}{l:List T3} (hi:i<=t.i) (hj:j<=t.j) (p:0<t.k) (h:Seq (t.i+t.k) (t.j+t.k) l i' j'):Seq i j (t :: l) i' j'
theorem Seq.app{i j i' j' x y:Int}{l m:List T3}(h:Seq i j l i' j')(g:Seq i' j' m x y):Seq i j (l++m) x y:=by
 induction h with
 | @nil i j i' j' hi hj=>
  cases g with
  |nil h1 h2=>exact .nil (Int.le_trans hi h1) (Int.le_trans hj h2)
  |cons h1 h2 p h=>exact .cons (Int.le_trans hi h1) (Int.le_trans hj h2) p h
 |cons hi hj p h ih=>exact .cons hi hj p (ih g)
theorem Tree.seq{w:Wd}{x:List T3}(h:Tree a b w x):w.al<=w.ah->w.bl<=w.bh->Seq w.al w.bl x w.ah w.bh:=by
 induction h with
 |leaf=>exact .nil
 |node B p hx hy ih1 ih2=>
  intro h1 h2
  have n:=B.n
  have k0:=Int.le_of_lt p
  exact(ih1 n.i0 n.j0).app (.cons (Int.le_refl _) (Int.le_refl _) p (ih2 n.i1 n.j1))
theorem Seq.low{i j x y:Int}{l:List T3}(h:Seq i j l x y):∀ t∈l,i<=t.i/\j<=t.j/\t.i+t.k<=x/\t.j+t.k<=y/\0<t.k:=by
 have le:∀ {i j x y:Int}{l:List T3},Seq i j l x y->i<=x/\j<=y:=λh=>by
  induction h with
  |nil hi hj=>exact⟨hi,hj⟩
  |cons hi hj p h ih=>exact⟨by exact Ya5 hi p ih,by exact Ya4 hj p ih⟩
 induction h with
 |nil=>exact λ_ h=>absurd h List.not_mem_nil
 | @cons i j i' j' t l hi hj p h ih=>
  intro u hu
  rcases List.mem_cons.mp hu with rfl |hu
  ·exact⟨hi,hj,(le h).1,(le h).2,p⟩
  ·have:=ih u hu;exact Ya3 hi hj p this
theorem Seq.sd{i j x y:Int}{l:List T3}(h:Seq i j l x y):v9 T3.i l:=by
 induction h with
 |nil=>exact .nil
 |cons hi hj p h ih=>exact List.pairwise_cons.mpr ⟨λu hu=>by have:=h.low u hu;exact Ya2 p this,ih⟩
theorem Run.is{r T:List T3}(h:Run a b [⟨0,a.length,0,b.length⟩] [] r)(t:Tree a b ⟨0,a.length,0,b.length⟩ T):isort T3.i r=T:=by
 obtain⟨bs,t2,p⟩:=h.tree
 cases t2 with
 |cons t3 t4=>
  cases t4
  rw [t3.uniq t]at p
  rw [List.flatten_cons,List.flatten_nil,List.append_nil,List.nil_append]at p
  exact lE ((cA T3.i r).trans p) (j7 h.sorted.1) (t.seq (Int.natCast_nonneg _) (Int.natCast_nonneg _)).sd
def eI(d:Int)(l:List T3):Int:=(l.getLast?).elim d λt=>t.i+t.k
def eJ(d:Int)(l:List T3):Int:=(l.getLast?).elim d λt=>t.j+t.k
def bI(d:Int)(l:List T3):Int:=(l.head?).elim d T3.i
def bJ(d:Int)(l:List T3):Int:=(l.head?).elim d T3.j
theorem In.sub{v w:Wd}{i j k:Int}(h:In a b v i j k)(s:Sb v w):In a b w i j k:=⟨Int.le_trans s.a0 h.i0,Int.le_trans h.i1 s.a1,Int.le_trans s.b0 h.j0,Int.le_trans h.j1 s.b1,h.k0,h.m⟩
def win(w:Wd)(x z:List T3):Wd:=⟨eI w.al x,bI w.ah z,eJ w.bl x,bJ w.bh z⟩
theorem win_sb{w:Wd}{x y z:List T3}(h:Seq w.al w.bl (x++(y++z)) w.ah w.bh):Sb (win w x z) w:=by
 have L:=h.low
 have e:∀ t∈x,w.al<=t.i+t.k/\w.bl<=t.j+t.k:=λt ht=>by have:=L t (List.mem_append_left _ ht);exact Ya1 this
 have f:∀ t∈z,t.i<=w.ah/\t.j<=w.bh:=λt ht=>by have:=L t (List.mem_append_right _ (List.mem_append_right _ ht));exact Ya0 this
 refine⟨?_,?_,?_,?_⟩
 ·show w.al<=(x.getLast?).elim w.al λt=>t.i+t.k
  cases q:x.getLast? with
  |none=>exact Int.le_refl _
  |some t=>exact(e t (List.mem_of_getLast? q)).1
 ·show(z.head?).elim w.ah T3.i<=w.ah
  cases q:z.head? with
  |none=>exact Int.le_refl _
  |some t=>exact(f t (List.mem_of_head? q)).1
 ·show w.bl<=(x.getLast?).elim w.bl λt=>t.j+t.k
  cases q:x.getLast? with
  |none=>exact Int.le_refl _
  |some t=>exact(e t (List.mem_of_getLast? q)).2
 ·show(z.head?).elim w.bh T3.j<=w.bh
  cases q:z.head? with
  |none=>exact Int.le_refl _
  |some t=>exact(f t (List.mem_of_head? q)).2
end
end
section
section
variable {a b:List Int}
theorem mP(d:Int)(t:T3)(l:List T3):eI d (t :: l)=eI (t.i+t.k) l:=by
 unfold eI
 rw [List.getLast?_cons]
 cases l.getLast? <;>rfl
theorem mO(d:Int)(t:T3)(l:List T3):eJ d (t :: l)=eJ (t.j+t.k) l:=by
 unfold eJ
 rw [List.getLast?_cons]
 cases l.getLast? <;>rfl
theorem eI_app(t:T3)(c p:List T3):∀ d:Int,eI d (p++t :: c)=eI (t.i+t.k) c:=by
 induction p with
 |nil=>exact λd=>mP d t c
 |cons u p ih=>exact λd=>(mP d u _).trans (ih _)
theorem eJ_app(t:T3)(c p:List T3):∀ d:Int,eJ d (p++t :: c)=eJ (t.j+t.k) c:=by
 induction p with
 |nil=>exact λd=>mO d t c
 |cons u p ih=>exact λd=>(mO d u _).trans (ih _)
theorem Seq.right{i j x y:Int}{l m:List T3}(h:Seq i j (l++m) x y):Seq (eI i l) (eJ j l) m x y:=by
 induction l generalizing i j with
 |nil=>exact h
 |cons t l ih=>
  cases h with
  |cons hi hj p h=>
   rw [mP,mO]
   exact ih h
theorem Seq.left{i j x y:Int}{l m:List T3}(h:Seq i j (l++m) x y):Seq i j l (bI x m) (bJ y m):=by
 induction l generalizing i j with
 |nil=>
  cases m with
  |nil=>exact h
  |cons t m=>cases h with
   |cons hi hj p h=>exact .nil hi hj
 |cons t l ih=>
  cases h with
  |cons hi hj p h=>exact .cons hi hj p (ih h)
end
end
section
theorem Ge.tr{i j k i' j' k' x y z:Int}(h:Ge i j k i' j' k')(g:Ge i' j' k' x y z):Ge i j k x y z:=by
 unfold Ge at*;exact Yb4 h g
theorem Ge.bst:∀ (y:List T3),y≠ []->∃ y1 p y2,y=y1++p :: y2/\∀ q∈y,Ge p.i p.j p.k q.i q.j q.k:=λy=>by
 induction y with
 |nil=>exact λh=>absurd rfl h
 |cons p l ih=>
  intro _
  by_cases e:l= []
  ·subst e
   exact⟨[],p,[],rfl,λq hq=>by rw[List.mem_singleton.mp hq];unfold Ge;exact Yb3⟩
  ·obtain⟨y1,b,y2,e,h⟩:=ih e
   by_cases c:Ge b.i b.j b.k p.i p.j p.k
   ·exact⟨p :: y1,b,y2,by rw[e];rfl,λv hv=>(List.mem_cons.mp hv).elim (λe=>e▸c) (h v)⟩
   ·refine⟨[],p,l,rfl,λv hv=>(List.mem_cons.mp hv).elim (λe=>by rw[e];unfold Ge;exact Yb3) λhv=>?_⟩
    refine Ge.tr (i':=b.i) (j':=b.j) (k':=b.k) ?_ (h v hv)
    unfold Ge at c ⊢;exact Yb2 c
section
variable {a b:List Int}{W:Wd}{ps:List T3}
theorem aEn(sq:Seq W.al W.bl ps W.ah W.bh)(mt:∀ p∈ps,Mt a b p.i p.j p.k)
  (ge:∀ {x y z:List T3},ps=x++(y++z)->∀ {i j k:Int},In a b (win W x z) i j k->0<k->∃ p∈y,Ge p.i p.j p.k i j k):∀ (n:Nat){x y z:List T3},y.length<=n->ps=x++(y++z)->Tree a b (win W x z) y:=λn=>by
 induction n with
 |zero=>
  intro x y z hn e
  rw [List.eq_nil_of_length_eq_zero (Nat.le_zero.mp hn)]at e ⊢
  exact .leaf λi j k n k0=>(ge e n k0).elim λp hp=>absurd hp.1 List.not_mem_nil
 |succ m ih=>
  intro x y z hn e
  by_cases q:y= []
  ·rw[q]at e ⊢
   exact .leaf λi j k n k0=>(ge e n k0).elim λp hp=>absurd hp.1 List.not_mem_nil
  ·obtain⟨y1,p,y2,ey,hb⟩:=Ge.bst y q
   have py:p∈y:=ey▸List.mem_append_right _ List.mem_cons_self
   have pp:p∈ps:=e▸List.mem_append_right _ (List.mem_append_left _ py)
   have sq':=sq
   rw [e]at sq'
   have lw:=sq'.right.left.low p py
   have ln:y1.length+(y2.length+1)<=m+1:=by rw[ey,List.length_append,List.length_cons]at hn;exact hn
   have L:=ih (x:=x) (y:=y1) (z:=p :: (y2++z)) (Yb1 ln) (by rw[e,ey,List.append_assoc];rfl)
   have R:=ih (x:=(x++y1)++p :: []) (y:=y2) (z:=z) (Yb0 ln) (by rw[e,ey];simp)
   rw [ey]
   refine .node (i:=p.i) (j:=p.j) (k:=p.k) ⟨⟨lw.1,lw.2.2.1,lw.2.1,lw.2.2.2.1,Int.le_of_lt lw.2.2.2.2,mt p pp⟩,λh=>absurd lw.2.2.2.2 (h▸Int.lt_irrefl _),λi j k n k0=>?_⟩ lw.2.2.2.2 L ?_
   ·obtain⟨r,hr,g⟩:=ge e n k0
    exact(hb r hr).tr g
   ·unfold win at R ⊢
    rw [eI_app,eJ_app]at R
    exact R
theorem zN(sq:Seq W.al W.bl ps W.ah W.bh)(mt:∀ p∈ps,Mt a b p.i p.j p.k)
  (ge:∀ {x y z:List T3},ps=x++(y++z)->∀ {i j k:Int},In a b (win W x z) i j k->0<k->∃ p∈y,Ge p.i p.j p.k i j k):Tree a b W ps:=aEn sq mt ge ps.length (x:=[]) (y:=ps) (z:=[]) (Nat.le_refl _) (List.append_nil _).symm
end
end
section
structure Pl(a b:List Int)(h:Int->Prop)(pl:Int->Int):Prop where
 p0:pl 0=0
 pN:pl a.length=b.length
 u:∀ k:Int,0<=k->k<a.length->¬h k->pl (k+1)=pl k+1/\av b (pl k)=av a k
 v:∀ k:Int,0<=k->k<a.length->h k->pl k<pl (k+1)/\∀ t,pl k<=t->t<pl (k+1)->∀ i:Int,0<=i->i<a.length->av a i≠av b t
 d:∀ i k:Int,0<=i->i<a.length->0<=k->k<a.length->¬h k->av a i=av a k->¬h i
structure Rn(N:Int)(h:Int->Prop)(pl:Int->Int)(ps:List T3):Prop where
 i0:∀ p∈ps,0<=p.i/\p.i+p.k<=N/\0<p.k/\p.j=pl p.i
 n:∀ p∈ps,∀ k,p.i<=k->k<p.i+p.k->¬h k
 e:∀ p∈ps,p.i+p.k=N∨h (p.i+p.k)
 c:∀ k,0<=k->k<N->¬h k->∃ p∈ps,p.i<=k/\k<p.i+p.k
section
variable {a b:List Int}{h:Int->Prop}{pl:Int->Int}{ps:List T3}
theorem Pl.lt1(P:Pl a b h pl){k:Int}(k0:0<=k)(k1:k<a.length):pl k<pl (k+1):=by
 by_cases q:h k
 ·exact(P.v k k0 k1 q).1
 ·have:=(P.u k k0 k1 q).1;exact Yb53 this
theorem Pl.lt(P:Pl a b h pl){i:Int}(i0:0<=i):∀ n:Nat,i+(n+1:Nat)<=a.length->pl i<pl (i+(n+1:Nat)):=λn=>by
 induction n with
 |zero=>exact λl=>P.lt1 i0 (Yb52 l)
 |succ n ih=>
  intro l
  have h1:=ih (Yb51 l)
  have h2:=P.lt1 (k:=i+(n+1:Nat)) (Yb50 i0) (Yb49 l)
  rw [show i+((n+1:Nat):Int)+1=i+(n+1+1:Nat) by exact Yb48]at h2
  exact Yb47 h1 h2
theorem Pl.mono(P:Pl a b h pl){i j:Int}(i0:0<=i)(ij:i<j)(j1:j<=a.length):pl i<pl j:=by
 have:=P.lt i0 (j-i-1).toNat (Yb46 ij j1)
 rwa [show i+(((j-i-1).toNat+1:Nat):Int)=j by exact Yb45 ij]at this
theorem Pl.ex(P:Pl a b h pl):∀ (n:Nat) (j:Int),n<=a.length->0<=j->j<pl n->∃ q:Int,0<=q/\q<n/\pl q<=j/\j<pl (q+1):=λn=>by
 induction n with
 |zero=>
  intro j _ j0 j1
  rw [show ((0:Nat):Int)=0 from rfl,P.p0]at j1
  exact(Yb44 j0 j1).elim
 |succ n ih=>
  intro j nl j0 j1
  by_cases q:j<pl n
  ·obtain⟨q,h1,h2,h3⟩:=ih j (Yb43 nl) j0 q
   exact⟨q,h1,by exact Yb42 h2,h3⟩
  ·exact⟨n,by exact Yb41,by exact Yb40,by exact Yb39 q,j1⟩
theorem Pl.at(P:Pl a b h pl){i j:Int}(i0:0<=i)(i1:i<a.length)(j0:0<=j)(j1:j<b.length)(e:av a i=av b j): ¬h i/\∃ q:Int,0<=q/\q<a.length/\pl q=j/\¬h q:=by
 obtain⟨q,q0,q1,q2,q3⟩:=P.ex a.length j (Nat.le_refl _) j0 (P.pN▸j1)
 by_cases hq:h q
 ·exact absurd e ((P.v q q0 q1 hq).2 j q2 q3 i i0 i1)
 ·have u:=P.u q q0 q1 hq
  have:pl q=j:=by exact Yb38 q2 q3 u
  exact⟨P.d i q i0 i1 q0 q1 hq (by rw[e,<-this,u.2]),q,q0,q1,this,hq⟩
theorem Pl.run(P:Pl a b h pl){i j k:Int}(i0:0<=i)(i1:i+k<=a.length)(j0:0<=j)(j1:j+k<=b.length)(m:Mt a b i j k)(k0:0<k):∃ q:Int,0<=q/\q+k<=a.length/\pl q=j/\∀ t,0<=t->t<k->¬h (i+t)/\¬h (q+t):=by
 have A:=λt (t0:0<=t) (t1:t<k)=>P.at (i:=i+t) (j:=j+t) (Yb37 i0 t0) (Yb36 i1 t1) (Yb37 j0 t0) (Yb36 j1 t1) (m t t0 t1)
 obtain⟨_,q,q0,q1,q2,q3⟩:=A 0 (Int.le_refl _) k0
 rw [Int.add_zero]at q2
 have B:∀ n:Nat,(n:Int)<k->q+n<a.length/\pl (q+n)=j+n/\¬h (q+n):=λn=>by
  induction n with
  |zero=>
   intro _
   rw [show ((0:Nat):Int)=0 from rfl,Int.add_zero,Int.add_zero]
   exact⟨q1,q2,q3⟩
  |succ n ih=>
   intro hn
   obtain⟨b1,b2,b3⟩:=ih (Yb35 hn)
   obtain⟨_,r,r0,r1,r2,r3⟩:=A (n+1:Nat) Yb34 hn
   have u:=(P.u (q+n) (Yb33 q0) b1 b3).1
   have e:r=q+n+1:=by
    rcases Int.lt_trichotomy r (q+n+1) with l |l |l
    ·have:=P.mono r0 l (Yb32 b1);exact Yb31 b2 r2 u this
    ·exact l
    ·have:=P.mono (i:=q+n+1) (Yb30 q0) l (Yb29 r1);exact Yb28 b2 r2 u this
   rw [show q+((n+1:Nat):Int)=r by exact Yb27 e]
   exact⟨r1,r2,r3⟩
 refine⟨q,q0,?_,q2,λt t0 t1=>⟨(A t t0 t1).1,?_⟩⟩
 ·have:=(B (k-1).toNat (Yb26 k0)).1;exact Yb25 this
 ·have:=(B t.toNat (Yb24 t0 t1)).2.2
  rwa [show ((t.toNat:Nat):Int)=t by exact zG t0]at this
theorem Rn.in_{N:Int}(R:Rn N h pl ps){i k:Int}(i0:0<=i)(i1:i+k<=N)(k0:0<k)(n:∀ t,0<=t->t<k->¬h (i+t)):∃ p∈ps,p.i<=i/\i+k<=p.i+p.k:=by
 obtain⟨p,hp,h1,h2⟩:=R.c i i0 (Yb23 i1 k0) (by have:=n 0 (Int.le_refl _) k0;rwa [Int.add_zero]at this)
 refine⟨p,hp,h1,Int.not_lt.mp λq=>?_⟩
 rcases R.e p hp with e |e
 ·exact Yb22 i1 q e
 ·have:=n (p.i+p.k-i) (Yb21 h2) (Yb20 q)
  rw [show i+(p.i+p.k-i)=p.i+p.k by exact Yb19]at this
  exact this e
theorem Rn.pl_(P:Pl a b h pl)(R:Rn a.length h pl ps){p:T3}(hp:p∈ps):∀ n:Nat,(n:Int)<=p.k->pl (p.i+n)=p.j+n:=λn=>by
 have I:=R.i0 p hp
 induction n with
 |zero=>exact λ_=>by rw[show ((0:Nat):Int)=0 from rfl,Int.add_zero,Int.add_zero];exact I.2.2.2.symm
 |succ n ih=>
  intro hn
  have:=ih (Yb18 hn)
  have u:=(P.u (p.i+n) (Yb17 I) (Yb16 I hn) (R.n p hp _ Yb15 (Yb14 hn))).1
  rw [show p.i+((n+1:Nat):Int)=p.i+n+1 by exact Yb13,u,this];exact Yb12
theorem Rn.plz(P:Pl a b h pl)(R:Rn a.length h pl ps){p:T3}(hp:p∈ps){t:Int}(t0:0<=t)(t1:t<=p.k):pl (p.i+t)=p.j+t:=by
 have:=R.pl_ P hp t.toNat (Yb11 t0 t1)
 rwa [show ((t.toNat:Nat):Int)=t by exact zG t0]at this
theorem Rn.mt(P:Pl a b h pl)(R:Rn a.length h pl ps){p:T3}(hp:p∈ps):Mt a b p.i p.j p.k:=λt t0 t1=>by
 have I:=R.i0 p hp
 have:=(P.u (p.i+t) (Yb9 t0 I) (Yb8 t1 I) (R.n p hp _ (Yb7 t0) (Yb6 t1))).2
 rw [R.plz P hp t0 (Yb5 t1)]at this
 exact this.symm
end
end
section
section
variable {a b:List Int}{h:Int->Prop}{pl:Int->Int}{ps:List T3}
theorem aDj{l:List T3}{i j x y:Int}(s:Seq i j l x y){p:T3}(hp:p∈l):p.i+p.k<=eI i l/\p.j+p.k<=eJ j l:=by
 have:∀ {l:List T3}{i j x y:Int},Seq i j l x y->Seq i j l (eI i l) (eJ j l):=λs=>by
  induction s with
  |nil=>exact .nil (Int.le_refl _) (Int.le_refl _)
  |cons hi hj p h ih=>rw [mP,mO];exact .cons hi hj p ih
 have L:=(this s).low p hp
 exact⟨L.2.2.1,L.2.2.2.1⟩
theorem aD1{l:List T3}{i j x y:Int}(s:Seq i j l x y){p:T3}(hp:p∈l):bI x l<=p.i/\bJ y l<=p.j:=by
 have:∀ {l:List T3}{i j x y:Int},Seq i j l x y->Seq (bI x l) (bJ y l) l x y:=λs=>by
  cases s with
  |nil=>exact .nil (Int.le_refl _) (Int.le_refl _)
  |cons hi hj p h=>exact .cons (Int.le_refl _) (Int.le_refl _) p h
 have L:=(this s).low p hp
 exact⟨L.1,L.2.1⟩
theorem Rn.tree(P:Pl a b h pl)(R:Rn a.length h pl ps)(sq:Seq 0 0 ps a.length b.length):Tree a b ⟨0,a.length,0,b.length⟩ ps:=by
 refine zN (W:=⟨0,a.length,0,b.length⟩) sq (λp hp=>R.mt P hp) λ{x y z} e {i j k} n k0=>?_
 have sq':=sq
 rw [e]at sq'
 have n0:=n.sub (win_sb (w:=⟨0,a.length,0,b.length⟩) sq')
 have i0:0<=i:=n0.i0
 have i1:i+k<=a.length:=n0.i1
 have j0:0<=j:=n0.j0
 have j1:j+k<=b.length:=n0.j1
 obtain⟨q,q0,q1,q2,A⟩:=P.run i0 i1 j0 j1 n.m k0
 obtain⟨p,hp,p1,p2⟩:=R.in_ i0 i1 k0 λt t0 t1=>(A t t0 t1).1
 obtain⟨r,hr,r1,r2⟩:=R.in_ q0 q1 k0 λt t0 t1=>(A t t0 t1).2
 have jr:j=r.j+(q-r.i):=by
  have:=R.plz P hr (t:=q-r.i) (Yb66 r1) (Yb65 k0 r2)
  rw [show r.i+(q-r.i)=q by exact Yb64,q2]at this
  exact this
 have ni:eI 0 x<=i:=n.i0
 have nI:i+k<=bI a.length z:=n.i1
 have nj:eJ 0 x<=j:=n.j0
 have nJ:j+k<=bJ b.length z:=n.j1
 have py:p∈y:=by
  rcases List.mem_append.mp (e▸hp) with g |g
  ·have:=(aDj sq'.left g).1;exact(Yb63 k0 p2 ni this).elim
  ·rcases List.mem_append.mp g with g |g
   ·exact g
   ·have:=(aD1 sq'.right.right g).1;exact(Yb62 k0 p1 nI this).elim
 have ry:r∈y:=by
  rcases List.mem_append.mp (e▸hr) with g |g
  ·have:=(aDj sq'.left g).2;exact(Yb61 k0 r2 jr nj this).elim
  ·rcases List.mem_append.mp g with g |g
   ·exact g
   ·have:=(aD1 sq'.right.right g).2;exact(Yb60 k0 r1 jr nJ this).elim
 have Ip:=R.i0 p hp
 have Ir:=R.i0 r hr
 by_cases c1:k<p.k
 ·exact⟨p,py,.inl c1⟩
 ·by_cases c2:p.j<=j
  ·exact⟨p,py,.inr ⟨by exact Yb55 p1 p2 c1,.inr ⟨by exact Yb59 p1 p2 c1,c2⟩⟩⟩
  ·have qi:q<p.i:=Int.not_le.mp λl=>by
    rcases Int.lt_or_eq_of_le l with l |l
    ·have:=P.mono (i:=p.i) Ip.1 l (Yb58 r2 Ip Ir c1);exact Yb57 q2 Ip c2 this
    ·rw[<-l]at q2;exact Yb56 q2 Ip c2
   by_cases c3:k<r.k
   ·exact⟨r,ry,.inl c3⟩
   ·exact⟨r,ry,.inr ⟨by exact Yb55 r1 r2 c3,.inl (Yb54 p1 r1 qi)⟩⟩
end
end
section
inductive Al(h:Int->Prop)(pl:Int->Int)(N:Int):Int->List Op->Prop
 |nil:Al h pl N N []
 |eq {i m:Int}{l:List Op} (lt:i<m) (n:∀ k,i<=k->k<m->¬h k) (e:m=N∨h m) (t:Al h pl N m l):Al h pl N i (⟨.eq,i,m,pl i,pl m⟩ :: l)
 |ch {i m:Int}{l:List Op} (lt:i<m) (y:∀ k,i<=k->k<m->h k) (e:m=N∨¬h m) (t:Al h pl N m l):Al h pl N i (⟨.rep,i,m,pl i,pl m⟩ :: l)
def eqT:List Op->List T3
 | []=>[]
 |o :: l=>bif o.tag.isEq then⟨o.i1,o.j1,o.i2-o.i1⟩ :: eqT l else eqT l
section
variable {h:Int->Prop}{pl:Int->Int}{N:Int}
theorem Al.le{i:Int}{l:List Op}(A:Al h pl N i l):i<=N:=by
 induction A with
 |nil=>exact Int.le_refl _
 |eq lt n e t ih=>exact Yb102 lt ih
 |ch lt n e t ih=>exact Yb102 lt ih
theorem Al.dn{k:Int}{l:List Op}(A:Al h pl N (k+1) l):∃ l',Al h pl N k l':=by
 generalize e0:k+1=i at A
 by_cases q:h k
 ·have q1:∀ x,k<=x->x<i->h x:=λx h1 h2=>by rw[show x=k by exact Yb101 e0 h1 h2];exact q
  cases A with
  |nil=>exact⟨_,.ch (m:=N) (xV e0) q1 (.inl rfl) .nil⟩
  |eq lt n e t=>exact⟨_,.ch (m:=i) (xV e0) q1 (.inr (n i (Int.le_refl _) lt)) (.eq lt n e t)⟩
  | @ch _ m _ lt y e t=>exact⟨_,.ch (m:=m) (Yb99 e0 lt) (λx h1 h2=>by
    by_cases c:x<i
    ·exact q1 x h1 c
    ·exact y x (Yb39 c) h2) e t⟩
 ·have q1:∀ x,k<=x->x<i->¬h x:=λx h1 h2=>by rw[show x=k by exact Yb101 e0 h1 h2];exact q
  cases A with
  |nil=>exact⟨_,.eq (m:=N) (xV e0) q1 (.inl rfl) .nil⟩
  |ch lt y e t=>exact⟨_,.eq (m:=i) (xV e0) q1 (.inr (y i (Int.le_refl _) lt)) (.ch lt y e t)⟩
  | @eq _ m _ lt y e t=>exact⟨_,.eq (m:=m) (Yb99 e0 lt) (λx h1 h2=>by
    by_cases c:x<i
    ·exact q1 x h1 c
    ·exact y x (Yb39 c) h2) e t⟩
theorem Al.ex_:∀ n:Nat,(∃ l,Al h pl N (N-n) l):=λn=>by
 induction n with
 |zero=>exact⟨[],by rw[show N-((0:Nat):Int)=N by exact Yb98];exact .nil⟩
 |succ n ih=>
  obtain⟨l,A⟩:=ih
  rw [show N-(n:Int)=N-((n+1:Nat):Int)+1 by exact Yb97]at A
  exact A.dn
theorem Al.ex(h:Int->Prop)(pl:Int->Int)(n:Nat):∃ l,Al h pl n 0 l:=by
 have:=Al.ex_ (h:=h) (pl:=pl) (N:=n) n
 rwa [Int.sub_self]at this
theorem Al.a1{i:Int}{l:List Op}(A:Al h pl N i l):∀ p∈eqT l,(i<=p.i/\p.i+p.k<=N/\0<p.k/\p.j=pl p.i)/\(∀ k,p.i<=k->k<p.i+p.k->¬h k)/\(p.i+p.k=N∨h (p.i+p.k)):=by
 induction A with
 |nil=>exact λp hp=>absurd hp List.not_mem_nil
 | @eq i m l lt n e t ih=>
  intro p hp
  have tl:=t.le
  rcases List.mem_cons.mp hp with rfl |hp
  ·show(i<=i/\i+(m-i)<=N/\0<m-i/\pl i=pl i)/\(∀ k,i<=k->k<i+(m-i)->¬h k)/\(i+(m-i)=N∨h (i+(m-i)))
   rw [show i+(m-i)=m by exact Yb64]
   exact⟨⟨Int.le_refl _,tl,by exact Yb81 lt,rfl⟩,n,e⟩
  ·have:=ih p hp
   exact⟨⟨by exact Yb96 lt this.1,this.1.2⟩,this.2⟩
 |ch lt y e t ih=>
  intro p hp
  have:=ih p hp
  exact⟨⟨by exact Yb96 lt this.1,this.1.2⟩,this.2⟩
theorem Al.a2{i:Int}{l:List Op}(A:Al h pl N i l):∀ k,i<=k->k<N->¬h k->∃ p∈eqT l,p.i<=k/\k<p.i+p.k:=by
 induction A with
 |nil=>intro k h1 h2;exact(Yb95 h1 h2).elim
 | @eq i m l lt n e t ih=>
  intro k h1 h2 h3
  by_cases c:k<m
  ·exact⟨⟨i,pl i,m-i⟩,List.mem_cons_self,h1,by show k<i+(m-i);exact Yb94 c⟩
  ·obtain⟨p,hp,g⟩:=ih k (Yb39 c) h2 h3
   exact⟨p,List.mem_cons_of_mem _ hp,g⟩
 | @ch i m l lt y e t ih=>
  intro k h1 h2 h3
  exact ih k (Int.not_lt.mp λc=>h3 (y k h1 c)) h2 h3
theorem Al.rn{l:List Op}(A:Al h pl N 0 l):Rn N h pl (eqT l):=
 ⟨λp hp=>(A.a1 p hp).1,λp hp=>(A.a1 p hp).2.1,λp hp=>(A.a1 p hp).2.2,A.a2⟩
theorem Al.hd0{i:Int}{l:List Op}(A:Al h pl N i l)(c:i=N∨¬h i)(x y:Int):∃ k r,eqT l++[⟨N,pl N,0⟩]=⟨i,pl i,k⟩ :: r:=by
 cases A with
 |nil=>exact⟨_,_,rfl⟩
 |eq lt n e t=>exact⟨_,_,rfl⟩
 |ch lt y e t=>
  rcases c with rfl |c
  ·have:=t.le;exact(Yb93 lt this).elim
  ·exact absurd (y i (Int.le_refl _) lt) c
end
section
variable {a b:List Int}{h:Int->Prop}{pl:Int->Int}
theorem Pl.up(P:Pl a b h pl){i:Int}(i0:0<=i):∀ n:Nat,i+n<=a.length->(∀ k,i<=k->k<i+n->¬h k)->pl (i+n)=pl i+n:=λn=>by
 induction n with
 |zero=>intro _ _;rw[show i+((0:Nat):Int)=i by exact Yb92];exact Yb91
 |succ n ih=>
  intro l nh
  have:=ih (Yb90 l) λk h1 h2=>nh k h1 (Yb89 h2)
  have u:=(P.u (i+n) (Yb33 i0) (Yb88 l) (nh _ Yb15 Yb87)).1
  rw [show i+((n+1:Nat):Int)=i+n+1 by exact Yb13];exact Yb86 this u
theorem Pl.upz(P:Pl a b h pl){i m:Int}(i0:0<=i)(im:i<=m)(l:m<=a.length)(n:∀ k,i<=k->k<m->¬h k):pl m=pl i+(m-i):=by
 have:=P.up i0 (m-i).toNat (Yb85 im l) λk h1 h2=>n k h1 (Yb84 h1 h2)
 rw [show i+((m-i).toNat:Int)=m by exact Yb83 im]at this
 exact Yb82 im this
theorem Al.seq(P:Pl a b h pl){i:Int}{l:List Op}(A:Al h pl a.length i l)(i0:0<=i):Seq i (pl i) (eqT l) a.length (pl a.length):=by
 induction A with
 |nil=>exact .nil (Int.le_refl _) (Int.le_refl _)
 | @eq i m l lt n e t ih=>
  have:=P.upz i0 (Int.le_of_lt lt) t.le n
  refine .cons (Int.le_refl _) (Int.le_refl _) (by show 0<m-i;exact Yb81 lt) ?_
  show Seq (i+(m-i)) (pl i+(m-i)) _ _ _
  rw [<-this,show i+(m-i)=m by exact Yb64]
  exact ih (v8 lt i0)
 | @ch i m l lt y e t ih=>
  have tl:=t.le
  exact(show Seq i (pl i) [] m (pl m) from .nil (Int.le_of_lt lt) (Int.le_of_lt (P.mono i0 lt tl))).app (ih (v8 lt i0))
theorem Al.ops(P:Pl a b h pl){i:Int}{l:List Op}(A:Al h pl a.length i l)(i0:0<=i):ops i (pl i) (eqT l++[⟨a.length,pl a.length,0⟩])=l:=by
 induction A with
 |nil=>
  rw [show eqT []= [] from rfl,List.nil_append,wS,ops_n]
  unfold gap
  rw [if_neg (Int.lt_irrefl _),if_neg (Int.lt_irrefl _),if_pos rfl];rfl
 | @eq i m l lt n e t ih=>
  have u:=P.upz i0 (Int.le_of_lt lt) t.le n
  show Mine.ops i (pl i) (⟨i,pl i,m-i⟩ :: (eqT l++_))=_
  rw [wS]
  unfold gap
  rw [if_neg (Int.lt_irrefl _),if_neg (Int.lt_irrefl _),if_neg (show¬m-i=0 by exact Yb80 lt)]
  show [Op.mk .eq i (i+(m-i)) (pl i) (pl i+(m-i))]++Mine.ops (i+(m-i)) (pl i+(m-i)) _=_
  rw [<-u,show i+(m-i)=m by exact Yb64,ih (v8 lt i0)];rfl
 | @ch i m l lt y e t ih=>
  have tl:=t.le
  have pm:=P.mono i0 lt tl
  have ih:=ih (v8 lt i0)
  obtain⟨k,r,e1⟩:=t.hd0 e 0 0
  show Mine.ops i (pl i) (eqT l++_)=_
  rw [e1,wS]at ih ⊢
  have g1:gap m (pl m) m (pl m)= []:=by
   unfold gap
   rw [if_neg (Int.lt_irrefl _),if_neg (Int.lt_irrefl _)]
  have g2:gap i (pl i) m (pl m)= [⟨.rep,i,m,pl i,pl m⟩]:=by
   unfold gap
   rw [if_pos lt,if_pos pm]
  show gap i (pl i) m (pl m)++_=_
  rw [g2]
  have ih:gap m (pl m) m (pl m)++_=_:=ih
  rw [g1]at ih
  rw [<-ih];rfl
theorem Al.gp(P:Pl a b h pl){l:List Op}(A:Al h pl a.length 0 l):∀ s∈eqT l,∀ t∈eqT l,¬(s.i+s.k=t.i/\s.j+s.k=t.j):=λs hs t ht e=>by
 have h1:=A.a1 s hs
 have h2:=A.a1 t ht
 rcases h1.2.2 with c |c
 ·exact Yb78 e h2.1 c
 ·rw[e.1]at c
  exact h2.2.1 t.i (Int.le_refl _) (Yb77 h2.1) c
theorem nad_00(x:T3)(l:List T3):nad ⟨0,0,0⟩ (x :: l)=nad x l:=by
 rw [wX]
 by_cases q:(0:Int)+0=x.i/\(0:Int)+0=x.j
 ·rw[if_pos q]
  cases x with
  |mk a b k=>
   have q1:(0:Int)+0=a:=q.1
   have q2:(0:Int)+0=b:=q.2
   rw [<-q1,<-q2]
   show nad ⟨0,0,0+k⟩ l=nad ⟨0,0,k⟩ l
   rw [Int.zero_add k]
 ·rw[if_neg q];rfl
theorem aBj:∀ (l:List T3) (c:T3),(∀ t∈c :: l,0<t.k)->(∀ s∈c :: l,∀ t∈c :: l,¬(s.i+s.k=t.i/\s.j+s.k=t.j))->nad c l=c :: l
 | [],c,h,_=>by
  have:=h c List.mem_cons_self
  rw [wW,if_neg (Yb76 this)]
 |x :: l,c,h,g=>by
  have:=h c List.mem_cons_self
  rw [wX,if_neg (g c List.mem_cons_self x (List.mem_cons_of_mem _ List.mem_cons_self)),if_neg (Yb76 this),aBj l x (λt ht=>h t (List.mem_cons_of_mem _ ht)) λs hs t ht=>g s (List.mem_cons_of_mem _ hs) t (List.mem_cons_of_mem _ ht)];rfl
theorem nad_0i(l:List T3)(h:∀ t∈l,0<t.k)(g:∀ s∈l,∀ t∈l,¬(s.i+s.k=t.i/\s.j+s.k=t.j)):nad ⟨0,0,0⟩ l=l:=by
 cases l with
 |nil=>rfl
 |cons x l=>
  exact(nad_00 x l).trans (aBj l x h g)
theorem Al.is(P:Pl a b h pl){l l':List Op}(A:Al h pl a.length 0 l)(O:Ops a b l'):l'=l:=by
 obtain⟨bl,⟨r,hr,e1⟩,e2⟩:=O
 have sq:=A.seq P (Int.le_refl 0)
 rw [P.p0,P.pN]at sq
 have low:=sq.low
 rw [e2,e1,hr.is (A.rn.tree P sq),nad_0i _ (λt ht=>(low t ht).2.2.2.2) (A.gp P)]
 have:=A.ops P (Int.le_refl 0)
 rw [P.p0,P.pN]at this
 exact this
theorem Al.few(P:Pl a b h pl){l:List Op}(A:Al h pl a.length 0 l){r:List T3}(hr:Run a b [⟨0,a.length,0,b.length⟩] [] r):r.length=(eqT l).length:=by
 have sq:=A.seq P (Int.le_refl 0)
 rw [P.p0,P.pN]at sq
 have:=congrArg List.length (hr.is (A.rn.tree P sq))
 rwa [(cA T3.i r).length_eq]at this
end
theorem Al.len{h:Int->Prop}{pl:Int->Int}{N:Int}{i:Int}{l:List Op}(A:Al h pl N i l):i+2*(eqT l).length<=N+1/\(h i->i+2*(eqT l).length<=N)/\i+l.length<=N:=by
 induction A with
 |nil=>exact⟨by show N+2*((0:Nat):Int)<=N+1;exact Yb75,λ_=>by show N+2*((0:Nat):Int)<=N;exact Yb74,by show N+((0:Nat):Int)<=N;exact Yb73⟩
 | @eq i m l lt n e t ih=>
  have el:(eqT (⟨.eq,i,m,pl i,pl m⟩ :: l)).length=(eqT l).length+1:=rfl
  rw [el,List.length_cons]
  refine⟨?_,λc=>absurd c (n i (Int.le_refl _) lt),by have i3:=ih.2.2;clear ih;exact Yb67 lt i3⟩
  rcases e with rfl |e
  ·have:=t.le
   cases t with
   |nil=>show i+2*(((0:Nat)+1:Nat):Int)<=m+1;exact Yb72 lt
   |eq lt n e t=>have:=t.le;exact Yb71 lt this
   |ch lt n e t=>have:=t.le;exact Yb71 lt this
  ·have:=ih.2.1 e;exact Yb70 lt this
 | @ch i m l lt y e t ih=>
  have el:(eqT (⟨.rep,i,m,pl i,pl m⟩ :: l)).length=(eqT l).length:=rfl
  rw [el,List.length_cons]
  have i1:=ih.1
  have i3:=ih.2.2
  clear ih
  exact⟨by exact Yb69 lt i1,λ_=>by exact Yb68 lt i1,by exact Yb67 lt i3⟩
end
section
theorem uR{P:Int->Prop}{k m:Int}(km:k<=m)(h0:P k)(hs:∀ x,k<=x->x<m->P x->P (x+1)):P m:=by
 have:∀ n:Nat,k+n<=m->P (k+n):=λn=>by
  induction n with
  |zero=>intro _;rwa [show k+((0:Nat):Int)=k by exact Yb92]
  |succ n ih=>
   intro l
   have:=hs (k+n) Yb15 (Yb116 l) (ih (Yb115 l))
   rwa [show k+(n:Int)+1=k+((n+1:Nat):Int) by exact Yb12]at this
 have:=this (m-k).toNat (Yb114 km)
 rwa [show k+((m-k).toNat:Int)=m by exact Yb83 km]at this
def Sn(hits:List Int)(n k:Int):Bool:= !(hits.filter λx=>decide (-n<=x-k) && decide (x-k<=n)).isEmpty
def bst(S:Int->Bool)(B:List (Int×Int))(k:Int):List (Int×Int):=
 bif S k then(match B.getLast? with
  |none=>B++[(k,k+1)]
  |some p=>bif decide (p.2-1=k-1) then B.dropLast++[(p.1,k+1)] else B++[(k,k+1)]) else B
def bfN(S:Int->Bool):Nat->List (Int×Int)
 |0=>[]
 |k+1=>bst S (bfN S k) k
def bf(S:Int->Bool)(k:Int):List (Int×Int):=bfN S k.toNat
def tg(hits:List Int)(k:Int):Tg:=bif hits.contains k then .rep else .eq
def rst(hits:List Int)(pl:Int->Int)(R:List Op)(k:Int):List Op:=
 match R.getLast? with
  |none=>R++[⟨tg hits k,k,k+1,pl k,pl (k+1)⟩]
  |some o=>bif o.tag.isEq==(tg hits k).isEq then R.dropLast++[⟨tg hits k,o.i1,k+1,o.j1,pl (k+1)⟩] else R++[⟨tg hits k,k,k+1,pl k,pl (k+1)⟩]
def rfN(hits:List Int)(pl:Int->Int)(s:Int):Nat->List Op
 |0=>[]
 |k+1=>rst hits pl (rfN hits pl s k) (s+k)
def rf(hits:List Int)(pl:Int->Int)(s k:Int):List Op:=rfN hits pl s (k-s).toNat
def lH(hits:List Int)(pl:Int->Int)(s:Int):List Op:=bif hits.contains s && decide (s>0) then [⟨.eq,s,s,pl s,pl s⟩] else []
def jY(hits:List Int)(pl:Int->Int)(N e:Int):List Op:=bif hits.contains (e-1) && decide (e<N) then [⟨.eq,e,e,pl e,pl e⟩] else []
def g7(hits:List Int)(pl:Int->Int)(N:Int)(p:Int×Int):List Op:=lH hits pl p.1++rf hits pl p.1 p.2++jY hits pl N p.2
section
variable {S:Int->Bool}{hits:List Int}{pl:Int->Int}{n:Int}
theorem sI{x k:Int}(h:x∈hits)(h1: -n<=x-k)(h2:x-k<=n):Sn hits n k=true:=by
 unfold Sn
 cases e:(hits.filter λx=>decide (-n<=x-k) && decide (x-k<=n)) with
 |cons=>rfl
 |nil=>
  have:x∈hits.filter λx=>decide (-n<=x-k) && decide (x-k<=n):=List.mem_filter.mpr ⟨h,by rw[decide_eq_true h1,decide_eq_true h2];rfl⟩
  rw [e]at this
  exact absurd this List.not_mem_nil
theorem Sn_f{k:Int}(h:∀ x∈hits,¬(-n<=x-k/\x-k<=n)):Sn hits n k=false:=by
 unfold Sn
 rw [List.filter_eq_nil_iff.mpr λx hx q=>h x hx (by rw[Bool.and_eq_true]at q;exact⟨of_decide_eq_true q.1,of_decide_eq_true q.2⟩)]
 rfl
theorem bf_s{k:Int}(h:0<=k):bf S (k+1)=bst S (bf S k) k:=by
 unfold bf
 rw [show (k+1).toNat=k.toNat+1 by exact Yb113 h]
 show bst S _ ((k.toNat:Nat):Int)=_
 rw [show ((k.toNat:Nat):Int)=k by exact zG h]
theorem rf_s{s k:Int}(h:s<=k):rf hits pl s (k+1)=rst hits pl (rf hits pl s k) k:=by
 unfold rf
 rw [show (k+1-s).toNat=(k-s).toNat+1 by exact Yb112 h]
 show rst hits pl _ (s+(((k-s).toNat:Nat):Int))=_
 rw [show s+(((k-s).toNat:Nat):Int)=k by exact Yb83 h]
theorem u9{s:Int}:rf hits pl s s= []:=by
 unfold rf
 rw [Int.sub_self];rfl
theorem mQ{k m:Int}(k0:0<=k)(km:k<=m)(h:∀ x,k<=x->x<m->S x=false):bf S m=bf S k:=
 uR (P:=λm=>bf S m=bf S k) km rfl λx h1 h2 e=>by
  rw [bf_s (aEd k0 h1)]
  unfold bst
  rw [h x h1 h2,e];rfl
theorem sG{B:List (Int×Int)}{s k m:Int}(k0:0<=k)(km:k<=m)(e0:bf S k=B++[(s,k)])(h:∀ x,k<=x->x<m->S x=true):bf S m=B++[(s,m)]:=
 uR (P:=λm=>bf S m=B++[(s,m)]) km e0 λx h1 h2 e=>by
  rw [bf_s (aEd k0 h1)]
  unfold bst
  rw [h x h1 h2,e,cond_true,List.getLast?_concat,List.dropLast_concat]
  show(bif decide (x-1=x-1) then B++[(s,x+1)] else _)=_
  rw [decide_eq_true rfl,cond_true]
theorem aD0{k m:Int}(k0:0<=k)(km:k<m)(hl:∀ p,(bf S k).getLast? =some p->p.2≠k)(h:∀ x,k<=x->x<m->S x=true):bf S m=bf S k++[(k,m)]:=by
 refine sG (k:=k+1) (xT k0) (xU km) ?_ λx h1 h2=>h x (Yb105 h1) h2
 rw [bf_s k0]
 have sk:=h k (Int.le_refl _) km
 generalize bf S k=B at hl
 unfold bst
 rw [sk,cond_true]
 cases e:B.getLast? with
 |none=>rfl
 |some p=>
  have:=hl p e
  show(bif decide (p.2-1=k-1) then _ else _)=_
  rw [decide_eq_false (Yb109 this),cond_false]
theorem tg_t{k:Int}(h:k∈hits):tg hits k= .rep:=by unfold tg;rw[List.contains_iff_mem.mpr h];rfl
theorem tg_f{k:Int}(h:k∉hits):tg hits k= .eq:=by
 unfold tg
 cases e:hits.contains k with
 |true=>exact absurd (List.contains_iff_mem.mp e) h
 |false=>rfl
theorem rf_ext{R:List Op}{t:Tg}{s k m i0 x0:Int}(sk:s<=k)(km:k<=m)(e0:rf hits pl s k=R++[⟨t,i0,k,x0,pl k⟩])(h:∀ x,k<=x->x<m->tg hits x=t):rf hits pl s m=R++[⟨t,i0,m,x0,pl m⟩]:=
 uR (P:=λm=>rf hits pl s m=R++[⟨t,i0,m,x0,pl m⟩]) km e0 λx h1 h2 e=>by
  rw [rf_s (Yb108 sk h1)]
  unfold rst
  rw [h x h1 h2,e,List.getLast?_concat,List.dropLast_concat]
  show(bif t.isEq==t.isEq then _ else _)=_
  rw [beq_self_eq_true];rfl
theorem jK{t:Tg}{s k m:Int}(sk:s<=k)(km:k<m)(hl:∀ o,(rf hits pl s k).getLast? =some o->o.tag.isEq= !t.isEq)(h:∀ x,k<=x->x<m->tg hits x=t):rf hits pl s m=rf hits pl s k++[⟨t,k,m,pl k,pl m⟩]:=by
 refine rf_ext (k:=k+1) (Yb107 sk) (xU km) ?_ λx h1 h2=>h x (Yb105 h1) h2
 rw [rf_s sk]
 have tk:=h k (Int.le_refl _) km
 generalize rf hits pl s k=R at hl
 unfold rst
 rw [tk]
 cases e:R.getLast? with
 |none=>rfl
 |some o=>
  have:=hl o e
  show(bif o.tag.isEq==t.isEq then _ else _)=_
  rw [this]
  cases t.isEq<;>rfl
theorem preR_t{s:Int}(h:s∈hits)(p:0<s):lH hits pl s= [⟨.eq,s,s,pl s,pl s⟩]:=by
 unfold lH
 rw [List.contains_iff_mem.mpr h,decide_eq_true p];rfl
theorem aA9{s:Int}(h:s∉hits∨s=0):lH hits pl s= []:=by
 unfold lH
 rcases h with h |h
 ·cases e:hits.contains s with
  |true=>exact absurd (List.contains_iff_mem.mp e) h
  |false=>rfl
 ·rw[decide_eq_false (by exact Yb104 h: ¬s>0),Bool.and_false];rfl
theorem aFb{N e:Int}(h:e-1∈hits)(p:e<N):jY hits pl N e= [⟨.eq,e,e,pl e,pl e⟩]:=by
 unfold jY
 rw [List.contains_iff_mem.mpr h,decide_eq_true p];rfl
theorem wN{N e:Int}(h:e-1∉hits∨e=N):jY hits pl N e= []:=by
 unfold jY
 rcases h with h |h
 ·cases e:hits.contains (e-1) with
  |true=>exact absurd (List.contains_iff_mem.mp e) h
  |false=>rfl
 ·rw[decide_eq_false (by exact Yb103 h: ¬e<N),Bool.and_false];rfl
end
end
section
inductive AlI(h:Int->Prop)(pl:Int->Int)(N:Int)(i:Int):Op->List Op->Prop
 |eq {m:Int}{l:List Op} (lt:i<m) (n:∀ k,i<=k->k<m->¬h k) (e:m=N∨h m) (t:Al h pl N m l):AlI h pl N i ⟨.eq,i,m,pl i,pl m⟩ l
 |ch {m:Int}{l:List Op} (lt:i<m) (y:∀ k,i<=k->k<m->h k) (e:m=N∨¬h m) (t:Al h pl N m l):AlI h pl N i ⟨.rep,i,m,pl i,pl m⟩ l
theorem Al.inv{h:Int->Prop}{pl:Int->Int}{N i:Int}{o:Op}{l:List Op}(A:Al h pl N i (o :: l)):AlI h pl N i o l:=by
 generalize e:o :: l=L at A
 cases A with
 |nil=>cases e
 |eq lt n e t=>cases e;exact .eq lt n e t
 |ch lt n e t=>cases e;exact .ch lt n e t
theorem Al.end{h:Int->Prop}{pl:Int->Int}{N i:Int}(A:Al h pl N i []):i=N:=by
 generalize e:([]:List Op)=L at A
 cases A with
 |nil=>rfl
 |eq=>cases e
 |ch=>cases e
structure AlE(h:Int->Prop)(pl:Int->Int)(N i j k:Int)(l:List Op):Prop where
 ej:j=pl i
 ek:j+k=pl (i+k)
 n:∀ x,i<=x->x<i+k->¬h x
 e:i+k=N∨h (i+k)
 t:Al h pl N (i+k) l
theorem Al.eqO{h:Int->Prop}{pl:Int->Int}{N i j k:Int}{l:List Op}(A:Al h pl N i (Mine.eqO i j k :: l)):AlE h pl N i j k l:=by
 have:=A.inv
 generalize e:Mine.eqO i j k=o at this
 cases this with
 |eq lt n e2 t=>
  unfold Mine.eqO at e
  injection e with _ _ e3 e4 e5
  subst e3
  exact⟨e4,e5,n,e2,t⟩
 |ch=>
  unfold Mine.eqO at e
  injection e with e1
  cases e1
structure AlC(h:Int->Prop)(pl:Int->Int)(N i i':Int)(l:List Op):Prop where
 lt:i<i'
 y:∀ x,i<=x->x<i'->h x
 e:i'=N∨¬h i'
 t:Al h pl N i' l
theorem Al.chO{h:Int->Prop}{pl:Int->Int}{N i i' j j':Int}{g:Tg}{l:List Op}(A:Al h pl N i (Mine.chO g i j i' j' :: l))(hg:g.isEq=false):Mine.chO g i j i' j'=⟨.rep,i,i',pl i,pl i'⟩/\AlC h pl N i i' l:=by
 have:=A.inv
 generalize e:Mine.chO g i j i' j'=o at this
 cases this with
 |eq lt n e2 t=>
  unfold Mine.chO at e
  injection e with e1
  rw [e1]at hg
  cases hg
 |ch lt n e2 t=>
  have e':=e
  unfold Mine.chO at e
  injection e with _ _ e3
  subst e3
  exact⟨rfl,lt,n,e2,t⟩
section
variable {a b:List Int}{hits:List Int}{pl:Int->Int}{n N:Int}
structure Pg(hits:List Int)(pl:Int->Int)(n s i:Int)(B:List (Int×Int))(cur:List Op):Prop where
 b:bf (Sn hits n) i=B++[(s,i)]
 c:cur=lH hits pl s++rf hits pl s i
 l:∃ R i0 x0,rf hits pl s i=R++[⟨.rep,i0,i,x0,pl i⟩]
 h:i-1∈hits
 s0:0<=s
 si:s<i
theorem Pg.eq{s i m:Int}{B:List (Int×Int)}{cur:List Op}(G:Pg hits pl n s i B cur)(im:i<=m)(S:∀ x,i<=x->x<m->Sn hits n x=true)(nh:∀ x,i<=x->x<m->x∉hits)(mN:m<N∨(m=N/\i<m)):
  bf (Sn hits n) m=B++[(s,m)]/\g7 hits pl N (s,m)=cur++[⟨.eq,i,m,pl i,pl m⟩]:=by
 have si:=G.si
 have s0:=G.s0
 refine⟨sG (v8 si s0) im G.b S,?_⟩
 obtain⟨R,i0,x0,e⟩:=G.l
 unfold g7
 show lH hits pl s++rf hits pl s m++jY hits pl N m=_
 rw [G.c]
 rcases Int.lt_or_eq_of_le im with c |c
 ·rw[jK (t:=.eq) (k:=i) (Yb5 si) c (λo ho=>by rw[e,List.getLast?_concat]at ho;cases ho;rfl) λx h1 h2=>tg_f (nh x h1 h2),wN (.inl (nh _ (uM c) uN)),List.append_nil,List.append_assoc]
 ·subst c
  rw [aFb G.h (Yb124 mN)]
theorem Pg.ch{s m i':Int}{B:List (Int×Int)}{cur:List Op}(b:bf (Sn hits n) m=B++[(s,m)])(c:cur=lH hits pl s++rf hits pl s m)(l:∀ o,(rf hits pl s m).getLast? =some o->o.tag.isEq=true)(s0:0<=s)(sm:s<=m)(m0:m<i')(y:∀ x,m<=x->x<i'->x∈hits)(n0:0<=n):Pg hits pl n s i' B (cur++[⟨.rep,m,i',pl m,pl i'⟩]):=by
 have e:=jK (t:=.rep) (pl:=pl) (hits:=hits) sm m0 l λx h1 h2=>tg_t (y x h1 h2)
 exact⟨sG (aEd s0 sm) (Int.le_of_lt m0) b λx h1 h2=>sI (y x h1 h2) (aEb n0) (aEc n0),by rw[c,e,List.append_assoc],⟨_,_,_,e⟩,y _ (uM m0) uN,s0,by exact Yb121 sm m0⟩
theorem Pg.new{m k i':Int}{B:List (Int×Int)}(b:bf (Sn hits n) m=B)(hb:∀ p,B.getLast? =some p->p.2≠m)(m0:0<=m)(mk:m<=k)(k0:m=k->0<k)(ki:k<i')(S:∀ x,m<=x->x<k->Sn hits n x=true)(nh:∀ x,m<=x->x<k->x∉hits)(y:∀ x,k<=x->x<i'->x∈hits)(n0:0<=n):
  Pg hits pl n m i' B [⟨.eq,m,k,pl m,pl k⟩,⟨.rep,k,i',pl k,pl i'⟩]:=by
 have S':∀ x,m<=x->x<i'->Sn hits n x=true:=λx h1 h2=>by
  by_cases c:x<k
  ·exact S x h1 c
  ·exact sI (y x (Yb39 c) h2) (aEb n0) (aEc n0)
 have bb:=aD0 (S:=Sn hits n) m0 (by exact Yb121 mk ki:m<i') (by rw[b];exact hb) S'
 rw [b]at bb
 rcases Int.lt_or_eq_of_le mk with c |c
 ·have e1:=jK (t:=.eq) (pl:=pl) (hits:=hits) (s:=m) (k:=m) (Int.le_refl _) c (by rw[u9];exact nofun) λx h1 h2=>tg_f (nh x h1 h2)
  rw [u9,List.nil_append]at e1
  have e2:=jK (t:=.rep) (pl:=pl) (hits:=hits) (s:=m) (k:=k) mk ki (by rw[e1];intro o ho;cases ho;rfl) λx h1 h2=>tg_t (y x h1 h2)
  rw [e1]at e2
  exact⟨bb,by rw[aA9 (.inl (nh _ (Int.le_refl _) c)),e2];rfl,⟨_,_,_,e2⟩,y _ (uM ki) uN,m0,by exact Yb120 ki c⟩
 ·subst c
  have e2:=jK (t:=.rep) (pl:=pl) (hits:=hits) (s:=m) (k:=m) (Int.le_refl _) ki (by rw[u9];exact nofun) λx h1 h2=>tg_t (y x h1 h2)
  rw [u9]at e2
  exact⟨bb,by rw[preR_t (y _ (Int.le_refl _) ki) (k0 rfl),e2];rfl,⟨_,_,_,e2⟩,y _ (uM ki) uN,m0,by exact Yb117 ki⟩
end
end
section
section
variable {a b:List Int}{hits:List Int}{pl:Int->Int}{n:Int}
theorem Gk.rows(n0:0<=n)(P:Pl a b (·∈hits) pl)(hN:∀ x∈hits,0<=x/\x<a.length){cur rest:List Op}{i j:Int}{gs:List (List Op)}(g:Gk n a b cur i j rest gs):∀ {s:Int}{B:List (Int×Int)},Pg hits pl n s i B cur->Al (·∈hits) pl a.length i rest->∃ B',bf (Sn hits n) a.length=B++B'/\B'.map (g7 hits pl a.length)=gs:=by
 induction g with
 |e0=>
  intro s B G A
  refine⟨[(s,a.length)],G.b,?_⟩
  show [lH hits pl s++rf hits pl s a.length++jY hits pl a.length a.length]=_
  rw [wN (.inr rfl),List.append_nil,G.c]
 | @e1 cur i j k p m ei ej=>
  intro s B G A
  have E:=A.eqO
  have s0:=G.s0
  have si:=G.si
  have hd:(Mine.eqO i j k).hd n=⟨.eq,i,min (i+k) (i+n),pl i,pl (min (i+k) (i+n))⟩:=by
   rw [P.upz (i:=i) (m:=min (i+k) (i+n)) (aD9 s0 si) (Yb180 n0 p) (Yb174 ei) λx h1 h2=>E.n x h1 (Yb177 h2)]
   show Op.mk .eq i (min (i+k) (i+n)) j (min (j+k) (j+n))=_
   rw [<-E.ej]
   congr 1;exact Yb181
  have Q:=G.eq (N:=a.length) (m:=min (i+k) (i+n)) (Yb180 n0 p) (λx h1 h2=>sI G.h (Yb179 h2) (Yb178 h1 h2)) (λx h1 h2=>E.n x h1 (Yb177 h2)) (Yb176 p ei)
  refine⟨[(s,min (i+k) (i+n))],?_,?_⟩
  ·rw[mQ (k:=min (i+k) (i+n)) (Yb175 n0 ei s0 si) (Yb174 ei) λx h1 h2=>Sn_f λy hy q=>?_]
   ·exact Q.1
   ·have g1:=hN y hy
    have g2:=E.n y
    by_cases c:i<=y
    ·exact g2 c (Yb173 ei g1) hy
    ·exact Yb172 ei h1 h2 q c
  ·rw[hd]
   exact congrArg (λz=>[z]) Q.2
 | @join cur i j k i' j' g rest gs p hk m hg hi hj h ih=>
  intro s B G A
  have E:=A.eqO
  have s0:=G.s0
  have si:=G.si
  have C:=E.t.chO hg
  have F:=C.2
  have hk':i+k∈hits:=F.y _ (Int.le_refl _) F.lt
  have b2:=sG (S:=Sn hits n) (m:=i+k) (aD9 s0 si) (Yb171 p) G.b λx h1 h2=>by
   by_cases c:x<i+n
   ·exact sI G.h (Yb159 c) (Yb158 h1 c)
   ·exact sI hk' (Yb170 hk h2 c) (Yb169 hk c)
  obtain⟨R,i0,x0,e⟩:=G.l
  have r2:=jK (t:=.eq) (pl:=pl) (hits:=hits) (s:=s) (k:=i) (m:=i+k) (Yb5 si) (Yb168 p) (λo ho=>by rw[e,List.getLast?_concat]at ho;cases ho;rfl) λx h1 h2=>tg_f (E.n x h1 h2)
  have e1:Mine.eqO i j k=⟨.eq,i,i+k,pl i,pl (i+k)⟩:=by
   unfold Mine.eqO;rw[E.ek,<-E.ej]
  refine ih (B:=B) (s:=s) ?_ F.t
  have:=Pg.ch (cur:=cur++[Mine.eqO i j k]) b2 (by rw[e1,r2,G.c,List.append_assoc]) (by rw[r2];intro o ho;rw[List.getLast?_concat]at ho;cases ho;rfl) G.s0 (Yb167 p si) F.lt F.y n0
  rw [<-C.1,List.append_assoc]at this
  exact this
 | @cut cur i j k i' j' g rest gs p hk m hg hi hj h ih=>
  intro s B G A
  have E:=A.eqO
  have s0:=G.s0
  have si:=G.si
  have C:=E.t.chO hg
  have F:=C.2
  have tl:=E.t.le
  have hk':i+k∈hits:=F.y _ (Int.le_refl _) F.lt
  have hd:(Mine.eqO i j k).hd n=⟨.eq,i,i+n,pl i,pl (i+n)⟩:=by
   rw [P.upz (i:=i) (m:=i+n) (aD9 s0 si) (Yb7 n0) (Yb165 p hk tl) λx h1 h2=>E.n x h1 (Yb157 hk h1 h2)]
   show Op.mk .eq i (min (i+k) (i+n)) j (min (j+k) (j+n))=_
   rw [<-E.ej,show min (i+k) (i+n)=i+n by exact Yb164 p hk]
   congr 1;exact Yb163 p hk
  have tl:(Mine.eqO i j k).tl n=⟨.eq,i+k-n,i+k,pl (i+k-n),pl (i+k)⟩:=by
   have uz:=P.upz (i:=i+k-n) (m:=i+k) (Yb151 p hk s0 si) (Yb150 n0) (Yb162 tl) λx h1 h2=>E.n x (Yb146 hk h1 h2) h2
   have ek:=E.ek
   show Op.mk .eq (max i (i+k-n)) (i+k) (max j (j+k-n)) (j+k)=_
   rw [<-ek,show max i (i+k-n)=i+k-n by exact Yb161 p hk]
   rw [<-ek]at uz
   congr 1;exact Yb160 p hk uz
  have Q:=G.eq (N:=a.length) (m:=i+n) (Yb7 n0) (λx h1 h2=>sI G.h (Yb159 h2) (Yb158 h1 h2)) (λx h1 h2=>E.n x h1 (Yb157 hk h1 h2)) (by omega)
  have b2:bf (Sn hits n) (i+k-n)=B++[(s,i+n)]:=by
   rw [mQ (k:=i+n) (Yb156 n0 s0 si) (Yb155 hk) λx h1 h2=>Sn_f λy hy q=>?_]
   ·exact Q.1
   ·have:=E.n y
    by_cases c:i<=y
    ·by_cases c2:y<i+k
     ·exact this c c2 hy
     ·exact Yb154 h2 q c2
    ·exact Yb153 h1 q c
  have G':=Pg.new (n:=n) (pl:=pl) (k:=i+k) (i':=i') b2 (λp hp=>by rw[List.getLast?_concat]at hp;cases hp;show i+n≠_;exact Yb152 hk) (Yb151 p hk s0 si) (Yb150 n0) (Yb149 hk s0 si) F.lt (λx h1 h2=>sI hk' (Yb148 h1 h2) (Yb147 h1)) (λx h1 h2=>E.n x (Yb146 hk h1 h2) h2) F.y n0
  rw [<-tl,<-C.1]at G'
  obtain⟨B',h1,h2⟩:=ih G' F.t
  refine⟨(s,i+n) :: B',by rw[h1,List.append_assoc];rfl,?_⟩
  rw [List.map_cons,Q.2,h2,hd]
theorem Gp.rows(n0:0<=n)(P:Pl a b (·∈hits) pl)(hN:∀ x∈hits,0<=x/\x<a.length){l:List Op}{gs:List (List Op)}(g:Gp n a b l gs)(A:Al (·∈hits) pl a.length 0 l):(bf (Sn hits n) a.length).map (g7 hits pl a.length)=gs:=by
 cases g with
 |no hl e=>
  have nh:hits= []:=List.eq_nil_iff_forall_not_mem.mpr λx hx=>by
   have h1:=hN x hx
   rcases hl with rfl |⟨k,rfl⟩
   ·have h2:=A.end;exact Yb145 h1 h2
   ·have E:=A.eqO
    have h2:=E.t.end
    exact E.n x (Yb144 h1) (Yb143 h1 h2) hx
  rw [nh,mQ (S:=Sn [] n) (k:=0) (Int.le_refl _) Yb41 λx _ _=>rfl];rfl
 | @ch g i j rest gs hg hi hj h=>
  have C:=A.chO hg
  have F:=C.2
  have e2:=jK (t:=.rep) (pl:=pl) (hits:=hits) (s:=0) (k:=0) (Int.le_refl _) F.lt (by rw[u9];exact nofun) λx h1 h2=>tg_t (F.y x h1 h2)
  rw [u9,<-C.1]at e2
  have lt:=F.lt
  have bb:=aD0 (S:=Sn hits n) (Int.le_refl 0) F.lt nofun λx h1 h2=>sI (F.y x h1 h2) (aEb n0) (aEc n0)
  obtain⟨B',h1,h2⟩:=h.rows n0 P hN (s:=0) (B:=[]) ⟨bb,by rw[aA9 (.inr rfl),e2];rfl,⟨[],0,pl 0,by rw[e2,C.1]⟩,F.y _ (Yb142 lt) uN,Int.le_refl _,lt⟩ F.t
  rw [h1];exact h2
 | @eq g k i j rest gs p m hg hi hj h=>
  have E:=A.eqO
  have E2:=E.t
  rw [Int.zero_add]at E2
  have C:=E2.chO hg
  have F:=C.2
  have tl:=E2.le
  have lt:=F.lt
  have hk':k∈hits:=F.y _ (Int.le_refl _) F.lt
  have tl:(eqO 0 0 k).tl n=⟨.eq,max 0 (k-n),k,pl (max 0 (k-n)),pl k⟩:=by
   have:=P.upz (i:=0) (m:=max 0 (k-n)) (Int.le_refl _) aEa (Yb141 n0 tl) λx h1 h2=>E.n x h1 (Yb140 n0 h1 h2)
   have p0:=P.p0
   have ek:=E.ek
   show Op.mk .eq (max 0 (0+k-n)) (0+k) (max 0 (0+k-n)) (0+k)=_
   rw [Int.zero_add]at ek ⊢
   rw [<-ek]
   congr 1;exact Yb139 this p0
  have b2:bf (Sn hits n) (max 0 (k-n))= []:=by
   rw [mQ (k:=0) (Int.le_refl _) aEa λx h1 h2=>Sn_f λy hy q=>?_]
   ·rfl
   ·by_cases c2:y<k
    ·exact E.n y (hN y hy).1 (Yb131 c2) hy
    ·exact Yb138 h1 h2 q c2
  have G':=Pg.new (n:=n) (pl:=pl) (k:=k) (i':=i) b2 nofun aEa (Yb136 n0 p) (Yb135 p) F.lt (λx h1 h2=>sI hk' (Yb134 h1 h2) (Yb133 h1)) (λx h1 h2=>E.n x (Yb132 h1) (Yb131 h2)) F.y n0
  rw [<-tl,<-C.1]at G'
  obtain⟨B',h1,h2⟩:=h.rows n0 P hN G' F.t
  rw [h1];exact h2
theorem Al.cod{h:Int->Prop}(P:Pl a b h pl){f:Option Bool}{i:Int}{l:List Op}(A:Al h pl a.length i l)(i0:0<=i)(h1:f=some true->i=a.length∨h i)(h2:f=some false->i=a.length∨¬h i):Cod a b f i (pl i) l:=by
 induction A generalizing f with
 |nil=>
  rw [P.pN];exact .nil
 | @eq i m l lt n e t ih=>
  have tl:=t.le
  have u:=P.upz i0 (Int.le_of_lt lt) tl n
  have C:=Cod.eq (a:=a) (b:=b) (f:=f) (i:=i) (j:=pl i) (k:=m-i) (l:=l) (λq=>(h1 q).elim (λq=>by exact Yb125 lt tl q) (n i (Int.le_refl _) lt)) (Yb81 lt) (λx x0 x1=>by
   have v:=P.upz (m:=i+x) i0 (Yb7 x0) (Yb130 tl x1) λk k0 k1=>n k k0 (Yb129 x1 k1)
   have w:=(P.u (i+x) (Yb37 i0 x0) (Yb128 tl x1) (n _ (Yb7 x0) (Yb127 x1))).2
   rw [v,show pl i+(i+x-i)=pl i+x by exact Yb126]at w
   exact w.symm)
  rw [<-u,show i+(m-i)=m by exact Yb64]at C
  exact C (ih (v8 lt i0) (λ_=>e) nofun)
 | @ch i m l lt y e t ih=>
  have tl:=t.le
  exact .ch (λq=>(h2 q).elim (λq=>by exact Yb125 lt tl q) λq=>q (y i (Int.le_refl _) lt)) nofun (Int.le_of_lt lt) (Int.le_of_lt (P.mono i0 lt tl)) (.inl lt) (ih (v8 lt i0) nofun λ_=>e)
end
end
section
variable {a b c d e f g h i j k l:Int}{m n p q r s t u v w x y:Nat}
theorem Y9:m<(100000:Nat)->(n+p)=m->n<(1000000:Nat):=Z.R 0x100105ec3283d07da40028aa90011c387583d07da00007 [] [m,n,p] ⋯ ⋯
end
section
section
variable {C:Cx}{H B:MH}{K Q:SK}
section
variable {r rr:Nat}{n z low high:Int}{o2 o3:Option V}{p:Int×Int}
theorem aDf{α:Type}{r r':Nat}(f:α->V)(d:α->PyData){l:List α}{P:Bool->MH->Prop}(h1:lst H (.ref r)=some (l.map f))(h2:lst H (.ref r')=some [])(hd:∀ x∈l,rd H 7 (f x)=some (d x))(hs:∀ x∈l,(d x).canLay0=true/\(d x).depth<=9)(q:P (!l.isEmpty) H):
  Lp (bE not (.ref r) (.ref r') H) λv H1=>Lf (tr v H1) λb=>P b H1:=
 Lp.mk (v:=.bool (!l.isEmpty)) (H:=H) (by unfold bE;rw[y8 f d h1 h2 hd hs];rfl) (Lf.mk (p:= !l.isEmpty) rfl q)
end
section
variable {r rr:Nat}{n z:Int}{total:List (Int×Int)}
end
end
section
variable {C:Cx}{H B:MH}{K Q:SK}
section
variable {rw rg r1 r2 rm:Nat}{place:Int}{u1 u2 u3 u4 u5:Option V}{o:Op}{one two:List Int}
def extK(rm:Nat)(lo:Lo)(K:SK):EK:=λv H2=>Lf (H2[rm]?.bind MO.own) λvs=>Lf (own H2 v) λws=>vs.length+ws.length<1000000/\K .next lo (H2.set rm (.list (vs++ws)))
theorem extK_i{vs ws:List V}{r:Nat}{lo:Lo}(h:H[rm]? =some (.list vs))(h':H[r]? =some (.list ws))(hl:vs.length+ws.length<1000000)(q:K .next lo (H.set rm (.list (vs++ws)))):extK rm lo K (.ref r) H:=
 Lf.mk (dK h) (Lf.mk (p:=ws) (dK h') ⟨hl,q⟩)
end
end
section
variable {C:Cx}{H B:MH}{Q:EK}
theorem aD5{x y:Int}(q:Q (.int (x+y)) H):Lp (aH (.int x) (.int y) H) Q:=Lp.mk (v:=.int (x+y)) (H:=H) rfl q
theorem sub_i{x y:Int}(q:Q (.int (x-y)) H):Lp (cK (.int x) (.int y) H) Q:=Lp.mk (v:=.int (x-y)) (H:=H) rfl q
section
variable {rw rg r1 r2:Nat}{place:Int}{g:List Op}{one two w:List Int}{i j x y:Int}
end
end
section
variable {C:Cx}{H B:MH}{a b:List Int}
theorem pW:∀ (n:Nat) (x:Int),lV x 1 n=(List.range n).map λk=>V.int (x+(k:Nat))
 |0,x=>rfl
 |n+1,x=>by
  rw [aE9,pW n (x+1),List.range_succ_eq_map,List.map_cons,List.map_map]
  congr 1
  ·show V.int x=V.int (x+((0:Nat):Int));rw[Int.natCast_zero,Int.add_zero]
  ·refine List.map_congr_left λk _=>?_
   show V.int (x+1+(k:Int))=V.int (x+((k+1:Nat):Int))
   rw [Int.natCast_add,Int.add_assoc,Int.add_comm 1];rfl
def nv(k:Nat):V:=.int (k:Nat)
theorem tA(n:Nat):lV 0 1 n=(List.range n).map nv:=by
 rw [pW]
 exact List.map_congr_left λk _=>congrArg V.int (Int.zero_add _)
theorem rng_ok(n:Nat)(h:n<1000000):rOk 0 n 1=true:=by
 unfold rOk
 rw [decide_eq_true (show(n:Int)<1000000 by exact A263 h),decide_eq_true (show-1000000<(n:Int) by exact A264)];rfl
theorem aA7{n:Int}{Q:EK}(q:Q (.rng 0 n 1) H):dY [.int n] H Q:=kch (B:=Q (.rng 0 n 1) H) ⋯ q
def eRL(x:Str):EF:=aO dY (esC (aO cI (esC (eN x) esN)) esN)
theorem rngL_i{x:Str}{r:Nat}{vs:List V}{lo:Lo}{P:Int×Nat×Int->MH->Prop}(hx:lo x=some (.ref r))(h:lst H (.ref r)=some vs)(hl:vs.length<100000)(q:P (0,vs.length,1) H):iR (eRL x) lo H P:=by
 refine b8 hx (aBy h (A258 hl) (aA7 (n:=vs.length) (Lf.mk (p:=(0,(vs.length:Int),1)) rfl ⟨rng_ok _ (A258 hl),?_⟩)))
 have e:pH 0 (vs.length:Int) 1=vs.length:=by
  show((vs.length:Int)-0).toNat=_
  rw [Int.sub_zero,Int.toNat_natCast]
 show P (0,pH 0 (vs.length:Int) 1,1) H
 rw [e];exact q
theorem zA{hid:List Str}{x:Str}{tgt:AF}{t:TF}{bf:BF}{lo:Lo}{Q:EK}{r:Nat}{vs:List V}(out:Nat->List V)(I:Lo->Prop)(hx:lo x=some (.ref r))(h:lst H (.ref r)=some vs)(hv:vs.length<100000)
  (i0:I (hide hid lo)) (hl:((List.range vs.length).flatMap out).length<1000000) (hs:∀ k∈List.range vs.length,Put I H H.length (out k) (jW tgt t (bf H.length) (nv k)))
  (k:∀ {H'},Hx H H'->H'[H.length]? =some (.list ((List.range vs.length).flatMap out))->Q (.ref H.length) H'):eP (fV C) hid (iR (eRL x)) tgt t bf lo H Q:=
 n9 nv out I (List.range vs.length) (λq=>rngL_i hx h hv q) (by rw[<-tA];exact rQ _ _) i0 hl hs k
theorem at_k{r:Nat}{vs:List V}{v:V}{k:Nat}{Q:EK}(h:H[r]? =some (.list vs))(hv:vs[k]? =some v)(hl:vs.length<100000)(q:Q v H):Lp (aM (.ref r) (nv k) H) Q:=by
 have kl:=(List.getElem?_eq_some_iff.mp hv).1
 exact Lp.mk (lK h ⟨A264,A265 hl kl⟩ (eD (Int.natCast_nonneg k) (A266 kl)) (by rw[Int.toNat_natCast];exact hv)) q
end
section
variable {C:Cx}{H B:MH}{K Q:SK}{lo:Lo}
theorem d4{x:Str}{v:V}:upd lo x v x=some v:=if_pos rfl
theorem mV{x:Str}{E:EF}{ai:Nat}{v:V}{P:LK}(q:E (upd lo x v) H λw H1=>Lf (H1[ai]?.bind MO.own) λvs=>vs.length<1000000/\P (upd lo x v) (H1.set ai (.list (vs++[w])))):jW (aN x) (tK true) (eR E ai) v lo H P:=q
theorem rS{α:Type}(g:α->List Int)(l:List α):l.flatMap (λx=>(g x).map V.int)=(l.flatMap g).map V.int:=by
 induction l with
 |nil=>rfl
 |cons x l ih=>rw [List.flatMap_cons,List.flatMap_cons,List.map_append,ih]
def Evv(f:EF)(lo:Lo)(H:MH)(v:V):Prop:=∀ Q:EK,Q v H->f lo H Q
theorem Evv.bin{g:OpF}{f1 f2:EF}{v1 v2 w:V}(h1:Evv f1 lo H v1)(h2:Evv f2 lo H v2)(ho:g v1 v2 H=some (w,H)):Evv (aB g f1 f2) lo H w:=λQ q=>aY (h1 _ (h2 _ (Lp.mk ho q)))
theorem Evv.n{x:Str}{v:V}(h:lo x=some v):Evv (eN x) lo H v:=λQ q=>b8 h q
theorem Evv.k{v:V}:Evv (eK v) lo H v:=λQ q=>q
theorem div_e{x y:Int}(h:0<y/\y<1000000000):oDiv (.int x) (.int y) H=some (.int (x/y),H):=if_pos (decide_eq_true h)
theorem p9{x y:Int}(h:0<y):mB (.int x) (.int y) H=some (.int (x%y),H):=if_pos (decide_eq_true h)
theorem add_e{x y:Int}:aH (.int x) (.int y) H=some (.int (x+y),H):=rfl
section
variable {ra rb:Nat}{a b:List Int}
end
end
section
variable {C:Cx}{H B:MH}{K Q:SK}{lo:Lo}
def gv(p:Nat×List Op):V:=.ref p.1
def HG(H:MH)(ps:List (Nat×List Op)):Prop:=∀ p∈ps,H[p.1]? =some (.list (p.2.map Op.v))
theorem HG.hx{ps:List (Nat×List Op)}(h:HG B ps)(x:Hx B H):HG H ps:=λp hp=>x _ _ (h p hp)
theorem GsA.hg{it gi ai:Nat}{rs:List Nat}{gs:List (List Op)}(h:GsA H it gi ai rs gs):∃ ps:List (Nat×List Op),HG H ps/\rs.map V.ref=ps.map gv/\gs=ps.map Prod.snd:=by
 induction h with
 |nil=>exact⟨[],nofun,rfl,rfl⟩
 | @cons r g rs gs h _ _ _ _ ih=>
  refine c8 ih λps h1 h2 h3=>?_
  refine⟨(r,g) :: ps,λp hp=>?_,by rw[List.map_cons,h2];rfl,by rw[List.map_cons,h3]⟩
  rcases List.mem_cons.mp hp with rfl |hp
  ·exact h
  ·exact h1 p hp
theorem ne_i{x y:V}{P:Bool->MH->Prop}(h:eqv H x y=some true)(q:P false H):Lp (bE not x y H) λv H1=>Lf (tr v H1) λb=>P b H1:=
 Lp.mk (v:=.bool false) (H:=H) (by unfold bE;rw[h];rfl) (Lf.mk (p:=false) rfl q)
theorem ret_no{f1 f2:EF}(h:f1 lo H λa H1=>f2 lo H1 λb H2=>Lp (bE not a b H2) λv H3=>Lf (tr v H3) λb=>bif b then(aA (jB (eK (.bool false))) (sK .next)) lo H3 K else K .next lo H3):sIf (tE (aB (bE not) f1 f2)) (aA (jB (eK (.bool false))) (sK .next)) (sK .next) lo H K:=h
theorem no_i{x y:V}{R S:MH->Prop}(h:eqv H x y=some true)(q:S H):Lp (bE not x y H) λv H3=>Lf (tr v H3) λb=>bif b then R H3 else S H3:=
 ne_i (P:=λb H3=>bif b then R H3 else S H3) h (bN q)
theorem tT{α:Type}(g:α->V)(l:List α):(l.flatMap λx=>[g x])=l.map g:=(List.map_eq_flatMap ..).symm
theorem lJ{x:Str}{r:Nat}{vs:List V}{Q:EK}(hx:lo x=some (.ref r))(h:lst H (.ref r)=some vs)(hl:vs.length<100000)(q:Q (.int vs.length) H):aO cI (esC (eN x) esN) lo H Q:=b8 hx (aBy h (Nat.lt_trans hl (by decide)) q)
end
section
variable {C:Cx}{H B:MH}{K Q:SK}{lo:Lo}
theorem nH{Q:EK}(q:Q (.int (-1)) H):dR (eK (.int 1)) lo H Q:=q
section
variable {rg rc rr ra rb:Nat}{ps:List (Nat×List Op)}{l:List Op}{a b:List Int}{n:Int}
end
end
section
variable {C:Cx}{H B:MH}{K Q:SK}{lo:Lo}
theorem s6{α:Type}{K:ItK C}{tgt:AF}{t:TF}{bf:BF}{ai:Nat}{Q:LK}(f:α->V)(Inv:List α->Lo->MH->Prop)(hx:∀ {l lo H},Inv l lo H->Hx B H)(he:∀ {lo H},Inv [] lo H->Q lo H)
  (hs:∀ {x l lo H P},Inv (x :: l) lo H->(∀ {lo' H'},Inv l lo' H'->P lo' H')->jW tgt t (bf ai) (f x) lo H P):∀ (l:List α){it:K.σ}{lo:Lo}{H:MH},Its K B it (l.map f)->Inv l lo H->q7 K tgt t (bf ai) (l.length+1) it lo H Q
 | [],it,lo,H,hi,i=>by
  cases hi with
  |nil h=>exact h (hx i) (he i)
 |x :: l,it,lo,H,hi,i=>by
  cases hi with
  |cons h ht=>exact h (hx i) (hs i λi'=>s6 f Inv hx he hs l ht i')
end
section
variable {C:Cx}{H B:MH}{K Q:SK}{lo:Lo}
def dG(p:Nat×List Op):PyData:=.list (p.2.map dO)
theorem dG_rd{ps:List (Nat×List Op)}(hg:HG H ps):∀ p∈ps,rd H 7 (gv p)=some (dG p):=λp hp=>eZ (n:=6) Op.v dO (aQ (hg p hp)) λo _=>aDl o
theorem dG_ok(p:Nat×List Op):(dG p).canLay0=true/\(dG p).depth<=9:=by
 have h:=pY dO (m:=8) p.2 λo _=>⟨(dO_ok o).1,(by decide:1<=8)⟩
 exact⟨h.1,Nat.succ_le_succ h.2⟩
end
section
variable {C:Cx}{H B:MH}{K Q:SK}{lo:Lo}
theorem Lo.ne{x y:Str}{v:V}(h:y≠x):upd lo x v y=lo y:=if_neg h
section
variable {D:LD}{rl rw k:Nat}{ks:List Nat}{fs:List Bool}{w:List Int}
end
end
section
variable {C:Cx}{H B:MH}{K Q:SK}{lo:Lo}
section
variable {D:LD}{rl rw k:Nat}{ks:List Nat}{fs:List Bool}
theorem aW{g:SF}(h:g lo H K):bK g K .next lo H:=h
end
end
section
variable {C:Cx}{H:MH}{lo:Lo}
def Fs(l:List (Str×V))(lo:Lo):Prop:=∀ x v,l.lookup x=some v->lo x=some v
theorem Fs.cons{l:List (Str×V)}(h:Fs l lo)(x:Str)(v:V):Fs ((x,v) :: l) (upd lo x v):=λy w e=>by
 rw [List.lookup]at e
 by_cases q:y=x
 ·subst q
  rw [beq_self_eq_true]at e
  exact d4.trans e
 ·rw[show (y==x)=false by simpa using q]at e
  exact(Lo.ne q).trans (h y w e)
end
section
variable {C:Cx}{H B:MH}{K Q:SK}{lo:Lo}
def rv{β:Type}(p:Nat×β):V:=.ref p.1
def HB{β:Type}(ob:β->List V)(H:MH)(ps:List (Nat×β)):Prop:=∀ p∈ps,H[p.1]? =some (.list (ob p.2))
inductive NIv{α β:Type}(ob:β->List V)(c:α->β)(I:Lo->Prop)(B:MH)(ai:Nat)(l:List α)(rest:List α)(lo:Lo)(H:MH):Prop
 |mk {done:List (Nat×β)} (i:I lo) (hx:Hx B H) (h:H[ai]? =some (.list (done.map rv))) (hd:∀ d∈done,H[d.1]? =some (.list (ob d.2))/\d.1≠ai) (t:done.map Prod.snd++rest.map c=l.map c) (hr:∀ x∈rest,x∈l) (hf:∀ d∈done,B[d.1]? =none):NIv ob c I B ai l rest lo H
theorem hd_set{β:Type}{ob:β->List V}{ai r:Nat}{b:β}{H2:MH}{m:MO}{done:List (Nat×β)}(hd:∀ d∈done,H[d.1]? =some (.list (ob d.2))/\d.1≠ai)(x:Hx H H2)(h:H2[r]? =some (.list (ob b)))(n:r≠ai):∀ d∈done++[(r,b)],(H2.set ai m)[d.1]? =some (.list (ob d.2))/\d.1≠ai:=λd hd'=>by
 rcases List.mem_append.mp hd' with hd' |hd'
 ·have:=hd d hd'
  exact⟨aF (x _ _ this.1) this.2.symm,this.2⟩
 ·rw[List.mem_singleton.mp hd']
  exact⟨aF h n.symm,n⟩
theorem aDo{α β:Type}{K:ItK C}{hid:List Str}{fi:IF K}{tgt:AF}{t:TF}{E:EF}{Q:EK}{it:K.σ}(ob:β->List V)(f:α->V)(c:α->β)(I:Lo->Prop)(l:List α)(hl:l.length<100000)
  (hf:∀ {P:K.σ->MH->Prop},P it H->fi lo H P) (hi:Its K H it (l.map f)) (i0:I (hide hid lo))
  (hs:∀ x∈l,∀ {lo1:Lo}{H1:MH}{P:LK},I lo1->Hx H H1->(∀ {lo' H2 r},I lo'->Hx H1 H2->H2[r]? =some (.list (ob (c x)))->H1[r]? =none->Lf (H2[H.length]?.bind MO.own) λvs=>vs.length<1000000/\P lo' (H2.set H.length (.list (vs++[.ref r]))))->jW tgt t (eR E H.length) (f x) lo1 H1 P)
  (k:∀ {H' ps},Hx H H'->H'[H.length]? =some (.list (ps.map rv))->HB ob H' ps->ps.map Prod.snd=l.map c->(∀ p∈ps,H[p.1]? =none)->Q (.ref H.length) H'):eP K hid fi tgt t (eR E) lo H Q:=by
 refine hf ⟨_,s6 (B:=H) (ai:=H.length) (bf:=eR E) f (NIv ob c I H H.length l) (λJ=>?_) (λJ=>?_) (λ{x l' lo1 H1 P} J kk=>?_) l hi (.mk (done:=[]) i0 (.app _ _) (bW _ _) (λ_ h=>absurd h List.not_mem_nil) rfl (λx hx=>hx) λ_ h=>absurd h List.not_mem_nil)⟩
 ·cases J with
  |mk i hx h hd t hr hf=>exact hx
 ·cases J with
  |mk i hx h hd t hr hf=>exact k hx h (λd hd'=>(hd d hd').1) (by rw[<-t];exact(List.append_nil _).symm) hf
 ·cases J with
  | @mk done i hx h hd t hr hf=>
   refine hs x (hr x List.mem_cons_self) i hx λ{lo' H2 r} i' x2 h2 fr=>Lf.mk (dK (x2 _ _ h)) ⟨?_,?_⟩
   ·rw[List.length_map]
    have:=congrArg List.length t
    rw [List.length_append,List.length_map,List.length_map,List.length_map]at this
    exact Y9 hl this
   ·have n:r≠H.length:=λq=>aI ((q▸fr).symm.trans h)
    refine kk (.mk (done:=done++[(r,c x)]) i' ((hx.trans x2).set (aK H)) ?_ (hd_set hd x2 h2 n) ?_ (λq hq=>hr q (List.mem_cons_of_mem _ hq)) λd hd'=>(List.mem_append.mp hd').elim (hf d) λhd'=>by rw[List.mem_singleton.mp hd'];exact hx.no fr)
    ·rw[List.map_append];exact aG (x2 _ _ h) _
    ·rw[List.map_append,List.append_assoc];exact t
def off(l:List (Str×V))(hid:List Str):Bool:=l.all λp=> !hid.contains p.1
theorem Fs.hide{l:List (Str×V)}(F:Fs l lo){hid:List Str}(h:off l hid=true):Fs l (hide hid lo):=λx v e=>by
 have:=List.all_eq_true.mp h _ (mem_of_lookup e)
 show(if hid.contains x then none else lo x)=_
 cases c:hid.contains x with
 |true=>rw [show hid.contains (x,v).1=true from c]at this;cases this
 |false=>exact F x v e
theorem Fs.up{l:List (Str×V)}(F:Fs l lo){y:Str}{w:V}(h:off l [y]=true):Fs l (upd lo y w):=λx v e=>by
 have:=List.all_eq_true.mp h _ (mem_of_lookup e)
 refine(Lo.ne λq=>?_).trans (F x v e)
 rw [show [y].contains (x,v).1=true from by rw[show (x,v).1=y from q];exact List.contains_iff_mem.mpr List.mem_cons_self]at this
 cases this
theorem Fs.re{l:List (Str×V)}(F:Fs l lo)(m:List (Str×V))(h:m.map (λp=>l.lookup p.1)=m.map λp=>some p.2):Fs m lo:=λx v e=>F x v (List.map_inj_left.mp h _ (mem_of_lookup e))
theorem iR1_i{z:Int}{E:EF}{P:Int×Nat×Int->MH->Prop}(b: -1000000<z/\z<1000000)(he:Evv E lo H (.int z))(q:P (0,z.toNat,1) H):iR (aO dY (esC E esN)) lo H P:=by
 refine he _ (iD (aA7 (Lf.mk (p:=(0,z,1)) rfl ⟨?_,?_⟩)))
 ·unfold rOk
  rw [decide_eq_true b.1,decide_eq_true b.2];rfl
 ·show P (0,(z-0).toNat,1) H
  rw [Int.sub_zero];exact q
theorem lenN_e{x:Str}{r:Nat}{vs:List V}(hx:lo x=some (.ref r))(h:lst H (.ref r)=some vs)(hl:vs.length<100000):Evv (aO cI (esC (eN x) esN)) lo H (.int vs.length):=λQ q=>lJ hx h hl q
theorem aAp{x y:Int}:cK (.int x) (.int y) H=some (.int (x-y),H):=rfl
end
section
variable {C:Cx}{H B:MH}{K Q:SK}{lo:Lo}
theorem extn_i{x:Str}{g:EF}{r:Nat}{vs:List V}(hx:lo x=some (.ref r))(h:H[r]? =some (.list vs))(q:g lo H (extK r lo K)):aT (eExt (eN x) g) lo H K:=
 kch (B:=Lf (lo x) λv=>Lf v.rf λi=>(∃ vs,H[i]? =some (.list vs))/\g lo H (extK i lo K)) ⋯ (Lf.mk hx (Lf.mk rfl ⟨⟨_,h⟩,q⟩))
def appK(r:Nat)(lo:Lo)(K:SK):EK:=λv H2=>Lf (H2[r]?.bind MO.own) λvs=>vs.length<1000000/\K .next lo (H2.set r (.list (vs++[v])))
theorem sH{x:Str}{g:EF}{r:Nat}{vs:List V}(hx:lo x=some (.ref r))(h:H[r]? =some (.list vs))(q:g lo H (appK r lo K)):aT (cV (eN x) g) lo H K:=
 kch (B:=Lf (lo x) λv=>Lf v.rf λi=>(∃ vs,H[i]? =some (.list vs))/\g lo H (appK i lo K)) ⋯ (Lf.mk hx (Lf.mk rfl ⟨⟨_,h⟩,q⟩))
theorem oC{r:Nat}{vs:List V}{v:V}(h:H[r]? =some (.list vs))(hl:vs.length<1000000)(q:K .next lo (H.set r (.list (vs++[v])))):appK r lo K v H:=Lf.mk (dK h) ⟨hl,q⟩
theorem aA0{x:Str}(q:K .next (upd lo x (.ref H.length)) (H++[.list []])):bP x (dF esN) lo H K:=kch (B:=K .next (upd lo x (.ref H.length)) (H++[.list []])) ⋯ q
section
variable {rm rg rp r1 r2:Nat}{one two:List Int}
end
end
section
variable {C:Cx}{H B:MH}{K Q:SK}{lo:Lo}
section
variable {rc rn z:Nat}{n w:Int}
end
end
section
variable {C:Cx}{H B:MH}{K Q:SK}{lo:Lo}
theorem aE5{names:List Str}{f:EF}(h:f lo H λv H1=>Lf v.tp λvs=>vs.length=names.length/\Lf (upds names.reverse vs.reverse lo) λlo'=>K .next lo' H1):d5 names f lo H K:=h
theorem xL{f:EF}{Q:EK}(h:f lo H λv H1=>Lp (mkL [v] H1) Q):dF (esC f esN) lo H Q:=h
theorem rJ{v:V}{Q:EK}(q:Q (.ref H.length) (H++[.list [v]])):Lp (mkL [v] H) Q:=Lp.mk (v:=.ref H.length) (H:=H++[.list [v]]) (by show(if [v].length<1000000 then _ else none)=_;exact if_pos (show 1<1000000 by decide)) q
section
variable {rs rr rg:Nat}{n:Int}
theorem uE{x y:Int}:bE id (.int x) (.int y) H=some (.bool (decide (x=y)),H):=by rfl'
end
end
section
variable {C:Cx}{H B:MH}{K Q:SK}{lo:Lo}
theorem qQ{f g:TF}{P:Bool->MH->Prop}(h:f lo H λb H1=>bif b then g lo H1 P else P false H1):aU f g lo H P:=h
theorem mW{f:EF}{P:Bool->MH->Prop}(h:f lo H λv H1=>Lf (tr v H1) λb=>P b H1):tE f lo H P:=h
theorem mH{α:Type}(l:List α):l= []∨∃ a x,l=a++[x]:=(List.eq_nil_or_concat l).imp_right fun⟨a,x,h⟩=>⟨a,x,h.trans List.concat_eq_append⟩
section
variable {rs rr rg:Nat}{n:Int}
end
end
end
section
variable {C:Cx}{H B:MH}{K Q:SK}{lo:Lo}
def jX(p:Int×Int):List Int:=(List.range (p.2-p.1).toNat).map λt:Nat=>p.1+t
theorem u8{s x:Int}(h:s<=x):jX (s,x+1)=jX (s,x)++[x]:=by
 unfold jX
 show(List.range (x+1-s).toNat).map _=(List.range (x-s).toNat).map _++[x]
 rw [show (x+1-s).toNat=(x-s).toNat+1 by exact Yb112 h,List.range_succ,List.map_append]
 show _++[s+(((x-s).toNat:Nat):Int)]=_
 rw [show s+(((x-s).toNat:Nat):Int)=x by exact Yb83 h]
theorem rngZ_1(x:Int):jX (x,x+1)= [x]:=by
 rw [u8 (Int.le_refl x)]
 unfold jX
 show(List.range (x-x).toNat).map _++[x]= [x]
 rw [Int.sub_self];rfl
theorem aA6(p:Int×Int):(jX p).length=(p.2-p.1).toNat:=(List.length_map ..).trans List.length_range
def zV(p:Int×Int):List V:=(jX p).map V.int
structure BD(B:MH)(rb:Nat)(x:Int)(ps:List (Nat×(Int×Int)))(H:MH):Prop where
 hx:Hx B H
 h:H[rb]? =some (.list (ps.map rv))
 hd:∀ d∈ps,H[d.1]? =some (.list (zV d.2))/\d.1≠rb/\B[d.1]? =none
 nd:(ps.map Prod.fst).Nodup
 wf:∀ d∈ps,0<=d.2.1/\d.2.1<d.2.2/\d.2.2<=x
 gl:ps.length<=x
section
variable {rb:Nat}{x:Int}{ps:List (Nat×(Int×Int))}
theorem BD.hxx{H':MH}(D:BD B rb x ps H)(g:Hx H H'):BD B rb x ps H':=⟨D.hx.trans g,g _ _ D.h,λd hd=>⟨g _ _ (D.hd d hd).1,(D.hd d hd).2⟩,D.nd,D.wf,D.gl⟩
theorem BD.skip(D:BD B rb x ps H):BD B rb (x+1) ps H:=⟨D.hx,D.h,D.hd,D.nd,λd hd=>by have:=D.wf d hd;exact aD8 this,by have:=D.gl;exact Yb193 this⟩
theorem aBg{α β:Type}{ps:List (α×β)}{q:α×β}(h:((ps++[q]).map Prod.fst).Nodup):∀ d∈ps,q.1≠d.1:=λd hd e=>by
 rw [List.map_append,List.nodup_append]at h
 exact h.2.2 d.1 (List.mem_map_of_mem hd) q.1 (List.mem_singleton.mpr rfl) e.symm
theorem BD.ext{r:Nat}{s:Int}(D:BD B rb x (ps++[(r,(s,x))]) H):BD B rb (x+1) (ps++[(r,(s,x+1))]) (H.set r (.list (zV (s,x)++[.int x]))):=by
 have m:(r,(s,x))∈ps++[(r,(s,x))]:=List.mem_append_right _ List.mem_cons_self
 have hr:=D.hd _ m
 have nd:=aBg D.nd
 have wf:=D.wf _ m
 have gl:=D.gl
 refine⟨D.hx.set hr.2.2,?_,λd hd=>?_,?_,λd hd=>?_,?_⟩
 ·have:=D.h
  rw [List.map_append]at this ⊢
  exact aF this hr.2.1
 ·rcases List.mem_append.mp hd with hd |hd
  ·have:=D.hd d (List.mem_append_left _ hd)
   exact⟨aF this.1 (nd d hd),this.2⟩
  ·rw[List.mem_singleton.mp hd]
   refine⟨?_,hr.2⟩
   show _=some (MO.list (zV (s,x+1)))
   unfold zV
   rw [u8 (Int.le_of_lt wf.2.1),List.map_append]
   exact aG hr.1 _
 ·have:=D.nd
  rw [List.map_append]at this ⊢
  exact this
 ·rcases List.mem_append.mp hd with hd |hd
  ·have:=D.wf d (List.mem_append_left _ hd);exact aD8 this
  ·rw[List.mem_singleton.mp hd]
   have:s<x:=wf.2.1
   exact⟨wf.1,by show s<x+1;exact Yb192 this,Int.le_refl _⟩
 ·rw[List.length_append,List.length_singleton]at gl ⊢;exact Yb191 gl
theorem BD.new(hb:B[rb]? =none)(D:BD B rb x ps H)(x0:0<=x):BD B rb (x+1) (ps++[(H.length,(x,x+1))]) ((H++[MO.list [.int x]]).set rb (.list (ps.map rv++[.ref H.length]))):=by
 have g:=Hx.app H [MO.list [.int x]]
 have D':=D.hxx g
 have gl:=D.gl
 have n:H.length≠rb:=aR D.h
 refine⟨D'.hx.set hb,?_,λd hd=>?_,?_,λd hd=>?_,?_⟩
 ·rw[List.map_append];exact aG D'.h _
 ·rcases List.mem_append.mp hd with hd |hd
  ·have:=D'.hd d hd
   exact⟨aF this.1 this.2.1.symm,this.2⟩
  ·rw[List.mem_singleton.mp hd]
   refine⟨?_,n,D.hx.fresh⟩
   show _=some (MO.list (zV (x,x+1)))
   unfold zV
   rw [rngZ_1]
   exact aF (bW _ _) n.symm
 ·rw[List.map_append,List.nodup_append]
  refine⟨D.nd,List.pairwise_singleton _ _,λa ha b hb e=>?_⟩
  obtain⟨d,hd,rfl⟩:=List.mem_map.mp ha
  rw [List.mem_singleton.mp hb]at e
  exact aR (D.hd d hd).1 e.symm
 ·rcases List.mem_append.mp hd with hd |hd
  ·have:=D.wf d hd;exact aD8 this
  ·rw[List.mem_singleton.mp hd]
   exact⟨x0,by show x<x+1;exact Yb189,Int.le_refl _⟩
 ·rw[List.length_append,List.length_singleton];exact Yb188 gl
end
theorem zK{x:Str}{T:TF}{E:EF}{ai:Nat}{v:V}{P:LK}{c:Bool}(hT:∀ R:Bool->MH->Prop,R c H->T (upd lo x v) H R)(q:bif c then(E (upd lo x v) H λw H1=>Lf (H1[ai]?.bind MO.own) λvs=>vs.length<1000000/\P (upd lo x v) (H1.set ai (.list (vs++[w])))) else P (upd lo x v) H):jW (aN x) (aU T (tK true)) (eR E ai) v lo H P:=by
 refine hT (λb H1=>bif b then _ else _) ?_
 cases c with
 |false=>exact q
 |true=>exact q
theorem le_e{x y:Int}:bQ (λx y=>decide (x<=y)) (.int x) (.int y) H=some (.bool (decide (x<=y)),H):=rfl
theorem tCh_i{f0 f1 f2:EF}{x y z:Int}{R:Bool->MH->Prop}(h0:Evv f0 lo H (.int x))(h1:Evv f1 lo H (.int y))(h2:Evv f2 lo H (.int z))(q:R (decide (x<=y) && decide (y<=z)) H):tCh (bQ λx y=>decide (x<=y)) (bQ λx y=>decide (x<=y)) f0 f1 f2 lo H R:=by
 refine h0 _ (h1 _ (Lp.mk le_e (Lf.mk (p:=decide (x<=y)) rfl ?_)))
 cases e:decide (x<=y) with
 |false=>rw [e]at q;exact q
 |true=>
  rw [e]at q
  exact h2 _ (Lp.mk le_e (Lf.mk (p:=decide (y<=z)) rfl q))
theorem tU{α:Type}(c:α->Bool):∀ l:List α,(l.flatMap λz=>bif c z then [z] else [])=l.filter c:=λl=>by
 induction l with
 |nil=>rfl
 |cons z l ih=>
  rw [List.flatMap_cons,ih,List.filter_cons]
  cases c z<;>rfl
def bC1:EF:=eP (b9 C) [".0","hit"] (iL (eN "hits")) (aN "hit") (aU (tCh (bQ λx y=>decide (x<=y)) (bQ λx y=>decide (x<=y)) (dR (eN "n")) (aB cK (eN "hit") (eN "k")) (eN "n")) (tK true)) (eR (eN "hit"))
def bA1:SF:=(aA (aT (cV (aB aM (eN "blocks") (dR (eK (.int 1)))) (eN "k"))) (sK .next))
def bA2:SF:=(aA (aT (cV (eN "blocks") (dF (esC (eN "k") esN)))) (sK .next))
def bC2:TF:=(aU (tE (aB (bE not) (eN "blocks") (dF esN))) (aU (tE (aB (bE id) (aB aM (aB aM (eN "blocks") (dR (eK (.int 1)))) (dR (eK (.int 1)))) (aB cK (eN "k") (eK (.int 1))))) (tK true)))
def bB(C:Cx):SF:=(aA (sIf (tE (aB (bE not) (bC1 (C:=C)) (dF esN))) (aA (sIf bC2 bA1 bA2) (sK .next)) (sK .next)) (sK .next))
section
variable {rb rh:Nat}{n x:Int}{hits:List Int}
theorem neg_e{f:EF}{x:Int}(h:Evv f lo H (.int x)):Evv (dR f) lo H (.int (-x)):=λQ q=>h _ (Lf.mk (p:=x) rfl q)
theorem bC1_i{R:EK}(G:Fs [("k",.int x),("n",.int n),("hits",.ref rh)] lo)(h:H[rh]? =some (.list (hits.map V.int)))(hl:hits.length<10000)
  (k:∀ {H'},Hx H H'->H'[H.length]? =some (.list ((hits.filter λy=>decide (-n<=y-x) && decide (y-x<=n)).map V.int))->R (.ref H.length) H'):bC1 (C:=C) lo H R:=by
 have ef:=rS (λz=>bif decide (-n<=z-x) && decide (z-x<=n) then [z] else []) hits
 rw [tU λy=>decide (-n<=y-x) && decide (y-x<=n)]at ef
 refine qK V.int (λz=>(bif decide (-n<=z-x) && decide (z-x<=n) then [z] else []).map V.int) (λlo=>Fs [("k",.int x),("n",.int n)] lo) hits (G _ _ ⋯) (aQ h) ((G.re [("k",.int x),("n",.int n)] ⋯).hide ⋯) ?_ (λz hz=>⟨λ{lo1 H1 acc P} i hx ha hal kk=>?_⟩) λ{H'} hx h'=>k hx (by rw[h',ef])
 ·rw[ef,List.length_map]
  exact Nat.lt_of_le_of_lt (List.length_filter_le ..) (Nat.lt_trans hl (by decide))
 ·have G':=i.up (y:="hit") (w:=.int z) ⋯
  refine zK (λR q=>tCh_i (x:=-n) (y:=z-x) (z:=n) (neg_e (.n (G' _ _ ⋯))) (.bin (.n d4) (.n (G' _ _ ⋯)) aAp) (.n (G' _ _ ⋯)) q) ?_
  cases et:decide (-n<=z-x) && decide (z-x<=n) with
  |false=>rw [et]at kk;exact bN (put0 (P:=P) (I:=λlo=>Fs [("k",.int x),("n",.int n)] lo) hx ha rfl G' kk)
  |true=>rw [et]at kk hal;exact b5 (b8 d4 (put1 (P:=P) (I:=λlo=>Fs [("k",.int x),("n",.int n)] lo) (aK H) hx ha hal rfl G' kk))
end
end
section
variable {C:Cx}{H B:MH}{K Q:SK}{lo:Lo}
section
variable {rb rh:Nat}{n x:Int}{hits:List Int}{ps:List (Nat×(Int×Int))}
theorem zH{s:Int}(h:s<x):zV (s,x)=zV (s,x-1)++[.int (x-1)]:=by
 unfold zV
 have:=u8 (s:=s) (x:=x-1) (uM h)
 rw [show x-1+1=x by exact Yb201]at this
 rw [this,List.map_append];rfl
theorem jA{r:Nat}{vs:List V}{v:V}(h:H[r]? =some (MO.list (vs++[v]))):aM (.ref r) (.int (-1)) H=some (v,H):=
 lK (v:=v) h (by decide) (by rw[List.length_append];exact mZ _) (by rw[List.getElem?_append_right (Nat.le_refl _),Nat.sub_self];rfl)
theorem yZ{x:Str}{v w:V}{Q:EK}(hx:lo x=some v)(e:aM v (.int (-1)) H=some (w,H))(q:Q w H):aB aM (eN x) (dR (eK (.int 1))) lo H Q:=aY (b8 hx (nH (Lp.mk e q)))
theorem appE_i{f g:EF}{r:Nat}{vs:List V}(hf:∀ {Q:EK},Q (.ref r) H->f lo H Q)(h:H[r]? =some (.list vs))(q:g lo H (appK r lo K)):aT (cV f g) lo H K:=
 hf (Lf.mk rfl ⟨⟨_,h⟩,q⟩)
def bF(rb rh:Nat)(n:Int):List (Str×V):=[("blocks",.ref rb),("hits",.ref rh),("n",.int n)]
theorem dZ_rd(ps:List (Nat×(Int×Int)))(hd:∀ d∈ps,H[d.1]? =some (.list (zV d.2))):∀ p∈ps,rd H 7 (rv p)=some (.list ((jX p.2).map dI)):=λp hp=>eZ (n:=6) V.int dI (aQ (hd p hp)) λo _=>rfl
theorem dZ_ok(p:Nat×(Int×Int)):(PyData.list ((jX p.2).map dI)).canLay0=true/\(PyData.list ((jX p.2).map dI)).depth<=9:=by
 have:=pY (m:=8) dI (jX p.2) λx _=>⟨rfl,Nat.zero_le _⟩
 exact⟨this.1,Nat.succ_le_succ this.2⟩
theorem bC2_i{R:Bool->MH->Prop}(F:Fs (("k",.int x) :: bF rb rh n) lo)(D:BD B rb x ps H)(x0:0<=x)
  (k:∀ {H'},Hx H H'->R (match (ps.map Prod.snd).getLast? with |none=>false |some p=>decide (p.2-1=x-1)) H'):bC2 lo H R:=by
 have D1:=D.hxx (Hx.app H [MO.list []])
 refine qQ (mW (aY (b8 (F _ (.ref rb) ⋯) (rM (aDf rv (λp=>PyData.list ((jX p.2).map dI)) (l:=ps) (P:=λb H1=>bif b then _ else _) (aQ D1.h) (gS _ _) (dZ_rd ps λd hd=>(D1.hd d hd).1) (λp _=>dZ_ok p) ?_)))))
 rcases mH ps with rfl |⟨qs,q,rfl⟩
 ·exact bN (k (.app _ _))
 ·rw[show (!(qs++[q]).isEmpty)=true by cases qs<;>rfl]
  have m:q∈qs++[q]:=List.mem_append_right _ List.mem_cons_self
  have hq:=(D1.hd q m).1
  have wf:=D.wf q m
  have h:=D1.h
  rw [List.map_append]at h
  rw [show q.2=(q.2.1,q.2.2) from rfl,zH wf.2.1]at hq
  rw [List.map_append,List.map_singleton,List.getLast?_concat]at k
  refine b5 (qQ (mW (aY (aY (yZ (F _ (.ref rb) ⋯) (jA h) (nH (Lp.mk (jA hq) (aY (b8 (F _ (.int x) ⋯) (fW (sub_i (Lp.mk uE (Lf.mk (p:=decide (q.2.2-1=x-1)) rfl ?_)))))))))))))
  have k':=k (H':=H++[MO.list []]) (.app _ _)
  show bif decide (q.2.2-1=x-1) then tK true lo _ R else R false _
  have k'':R (decide (q.2.2-1=x-1)) (H++[MO.list []]):=k'
  cases e:decide (q.2.2-1=x-1) with
  |false=>rw [e]at k'';exact k''
  |true=>rw [e]at k'';exact k''
inductive LB(B:MH)(rb rh:Nat)(n:Int)(hits:List Int)(x:Int)(lo:Lo)(H:MH):Prop
 |mk {ps:List (Nat×(Int×Int))} (F:Fs (bF rb rh n) lo) (D:BD B rb x ps H) (e:ps.map Prod.snd=bf (Sn hits n) x) (x0:0<=x):LB B rb rh n hits x lo H
theorem b_step(hb:B[rb]? =none)(hh:B[rh]? =some (.list (hits.map V.int)))(hl:hits.length<10000)(xl:x<1000)(I:LB B rb rh n hits x lo H)(go:GoK (LB B rb rh n hits (x+1)) Q K):aN "k" (.int x) lo H λlo1 H1=>bB C lo1 H1 K:=by
 cases I with
 | @mk ps F D e x0=>
 have G:=F.cons "k" (.int x)
 show bB C (upd lo "k" (.int x)) H K
 revert G
 generalize upd lo "k" (.int x)=lo1
 intro G
 have G':Fs (bF rb rh n) lo1:=G.re _ ⋯
 refine aP (pV (mW (aY (bC1_i (n:=n) (x:=x) (G.re _ ⋯) (D.hx _ _ hh) hl λ{H1} x1 h1=>rM (aDf V.int dI (P:=λb H1=>bif b then _ else _) (aQ (Hx.app _ _ _ _ h1)) (gS _ _) (λx _=>dI_rd x) (λx _=>dI_ok x) ?_)))))
 show bif Sn hits n x then _ else _
 have D1:=D.hxx (x1.trans (Hx.app H1 [MO.list []]))
 generalize H1++[MO.list []]=H2 at D1
 have eb:=bf_s (S:=Sn hits n) x0
 rw [<-e]at eb
 unfold bst at eb
 cases es:Sn hits n x with
 |false=>
  rw [es,cond_false]at eb
  exact bN (aW (go.nx (.mk G' D1.skip eb.symm (xT x0))))
 |true=>
  rw [es,cond_true]at eb
  refine b5 (aP (pV (bC2_i G D1 x0 λ{H3} x3=>?_)))
  have D3:=D1.hxx x3
  have new:bf (Sn hits n) (x+1)=ps.map Prod.snd++[(x,x+1)]->bA2 lo1 H3 (bK (sK .next) (bK (sK .next) K)):=λeb=>by
   refine aP (sH (G _ (.ref rb) ⋯) D3.h (xL (b8 (G _ (.int x) ⋯) (rJ (oC (Hx.app _ _ _ _ D3.h) ?_ (aW ?_))))))
   ·rw[List.length_map]
    have:=D3.gl
    exact Yb200 xl this
   ·exact go.nx (.mk G' (D3.new hb x0) (by rw[List.map_append,eb];rfl) (xT x0))
  revert eb
  cases el:(ps.map Prod.snd).getLast? with
  |none=>
   intro eb
   exact bN (new eb)
  |some p=>
   intro eb
   have eb:bf (Sn hits n) (x+1)=bif decide (p.2-1=x-1) then(ps.map Prod.snd).dropLast++[(p.1,x+1)] else ps.map Prod.snd++[(x,x+1)]:=eb
   show bif decide (p.2-1=x-1) then _ else _
   cases ed:decide (p.2-1=x-1) with
   |false=>
    rw [ed]at eb
    exact bN (new eb)
   |true=>
    rw [ed,cond_true]at eb
    refine b5 ?_
    rcases mH ps with rfl |⟨qs,q,rfl⟩
    ·cases el
    rw [List.map_append,List.map_singleton,List.getLast?_concat]at el
    cases el
    have ex:q.2.2=x:=by have:=of_decide_eq_true ed;exact Yb199 this
    have h:=D3.h
    rw [List.map_append]at h
    have hq:=D3.hd q (List.mem_append_right _ List.mem_cons_self)
    have q3:q=(q.1,(q.2.1,x)):=by rw[<-ex]
    refine aP (appE_i (λqq=>yZ (G _ (.ref rb) ⋯) (jA h) qq) hq.1 (b8 (G _ (.int x) ⋯) (oC hq.1 ?_ (aW (go.nx (.mk (ps:=qs++[(q.1,(q.2.1,x+1))]) G' ?_ ?_ (xT x0)))))))
    ·have wf:=D3.wf q (List.mem_append_right _ List.mem_cons_self)
     unfold zV
     rw [List.length_map,aA6]
     exact Yb198 xl wf
    ·rw[q3]at D3
     have:=D3.ext
     rw [show q.2=(q.2.1,x) by rw[<-ex]]
     exact this
    ·rw[eb,List.map_append,List.map_append,List.map_singleton,List.map_singleton,List.dropLast_concat]
end
theorem zD(X:XX C){N:Nat}{n:Int}{rh:Nat}{hits:List Int}{Q:EK}(h:H[rh]? =some (.list (hits.map V.int)))(hl:hits.length<10000)(nN:N<1000)
  (k:∀ {H' r ps},Hx H H'->H'[r]? =some (.list (ps.map rv))->HB zV H' ps->ps.map Prod.snd=bf (Sn hits n) N->(∀ p∈ps,0<=p.2.1/\p.2.1<p.2.2/\p.2.2<=N)->ps.length<=N->Q (.ref r) H'):eG X [.int N,.ref rh,.int n] H Q:=by
 refine⟨rfl,?_⟩
 have F:Fs [("n",.int n),("hits",.ref rh),("size",.int N)] (loB ["size","hits","n"] [.int N,.ref rh,.int n] lo0):=((Fs.cons (l:=[]) nofun "size" (.int N)).cons "hits" (.ref rh)).cons "n" (.int n)
 show hO X (loB ["size","hits","n"] [.int N,.ref rh,.int n] lo0) H (m6 Q)
 revert F
 generalize loB ["size","hits","n"] [.int N,.ref rh,.int n] lo0=lo
 intro F
 refine aP (aA0 (aW (aP ?_)))
 have G:=F.cons "blocks" (.ref H.length)
 revert G
 generalize upd lo "blocks" (.ref H.length)=lo1
 intro G
 show iJ (fV C) (iR (aO dY (esC (eN "size") esN))) (aN "k") (bB C) lo1 _ _
 refine q6 (iR1_i (z:=N) (Yb197 nN) (.n (G _ (.int N) ⋯)) ⟨_,rY (LB H H.length rh n hits) (e:=N) (λI=>?_) (λ{x lo H' K} xe I go=>b_step (aK H) h hl (Yb196 nN xe) I go) _ 0 Yb195 (.mk (ps:=[]) (G.re _ ⋯) ⟨.app _ _,bW _ _,λd hd=>absurd hd List.not_mem_nil,List.nodup_nil,λd hd=>absurd hd List.not_mem_nil,Int.le_refl _⟩ rfl (Int.le_refl _))⟩)
 cases I with
 | @mk ps F D e x0=>
  refine aW (aP (u6 (b8 (F _ (.ref H.length) ⋯) ?_)))
  exact k D.hx D.h (λd hd=>(D.hd d hd).1) e D.wf (by have:=D.gl;exact Yb194 this)
end
section
variable {C:Cx}{H B:MH}{K Q:SK}{lo:Lo}
theorem in_any(k:Int):∀ l:List Int,((l.map dI).any λy=>PyData.eqv y (.int k))=l.contains k:=λl=>by
 induction l with
 |nil=>rfl
 |cons z l ih=>
  rw [List.map_cons,List.any_cons,ih,List.contains_cons]
  have:PyData.eqv (dI z) (.int k)=(k==z):=by
   have e:PyData.eqv (.int z) (.int k)=decide (z=k):=by rfl'
   show PyData.eqv (.int z) (.int k)=_
   rw [e]
   by_cases c:z=k
   ·rw[decide_eq_true c,c,beq_self_eq_true]
   ·rw[decide_eq_false c]
    exact(beq_eq_false_iff_ne.mpr λq=>c q.symm).symm
  rw [this]
theorem in_e{rh:Nat}{l:List Int}{k:Int}(h:H[rh]? =some (.list (l.map V.int))):oIn id (.int k) (.ref rh) H=some (.bool (l.contains k),H):=by
 have e:=eZ (n:=7) V.int dI (aQ h) λx _=>(rfl:rd H 7 (.int x)=some (dI x))
 have ok:=(pY (m:=8) dI l λx _=>⟨rfl,Nat.zero_le _⟩).1
 show(inB H (.int k) (.ref rh)).map _=_
 have:inB H (.int k) (.ref rh)=some (l.contains k):=by
  show((rd H 8 (.ref rh)).bind PyData.kids).bind _=_
  rw [e]
  show(if PyData.canLayAll0 (l.map dI) && true && true then some _ else none)=_
  rw [ok]
  exact congrArg some (in_any k l)
 rw [this];rfl
section
variable {rr rk rh rp:Nat}{k x:Int}{hits pc:List Int}{R:List Op}
theorem pl_i{f:EF}{Q:EK}(hk:Evv f lo H (.int k))(hp:lo "places" =some (.ref rp))(h:H[rp]? =some (.list (pc.map V.int)))(k0:0<=k)(k1:k<pc.length)(pl:pc.length<100000)(q:Q (.int (av pc k)) H):aB aM (eN "places") f lo H Q:=by
 have e:(pc.map V.int)[k.toNat]? =some (.int (av pc k)):=by
  rw [List.getElem?_map,List.getElem?_eq_getElem (Yb204 k0 k1)]
  unfold av
  rw [List.getD_eq_getElem?_getD,List.getElem?_eq_getElem (Yb204 k0 k1)];rfl
 refine aY (b8 hp (hk _ (Lp.mk (lK (v:=.int (av pc k)) h (Yb203 k0 k1 pl) (eD k0 (by rw[List.length_map];exact Yb202 k1)) e) q)))
def rSt:SF:=(bP "tag" (eIf (tE (aB (oIn id) (eN "k") (eN "hits"))) (eK (.str "replace")) (eK (.str "equal"))))
def rC:TF:=(aU (tE (aB (bE not) (eN "rows") (dF esN))) (aU (tE (aB (bE id) (aB aM (aB aM (eN "rows") (dR (eK (.int 1)))) (eK (.int 0))) (eN "tag"))) (tK true)))
def rA1:SF:=(aA (cX (bY (esC (eN "tag") (esC (aB aM (aB aM (eN "rows") (dR (eK (.int 1)))) (eK (.int 1))) (esC (aB aH (eN "k") (eK (.int 1))) (esC (aB aM (aB aM (eN "rows") (dR (eK (.int 1)))) (eK (.int 3))) (esC (aB aM (eN "places") (aB aH (eN "k") (eK (.int 1)))) esN)))))) (pS (eN "rows") (dR (eK (.int 1))))) (sK .next))
def rA2:SF:=(aA (aT (cV (eN "rows") (bY (esC (eN "tag") (esC (eN "k") (esC (aB aH (eN "k") (eK (.int 1))) (esC (aB aM (eN "places") (eN "k")) (esC (aB aM (eN "places") (aB aH (eN "k") (eK (.int 1)))) esN)))))))) (sK .next))
def rB:SF:=(aA rSt (aA (sIf rC rA1 rA2) (sK .next)))
def rF(rr rk rh rp:Nat):List (Str×V):=[("rows",.ref rr),("block",.ref rk),("hits",.ref rh),("places",.ref rp)]
theorem in_i{f:EF}{P:Bool->MH->Prop}(hk:Evv f lo H (.int k))(hh:lo "hits" =some (.ref rh))(h:H[rh]? =some (.list (hits.map V.int)))(q:P (hits.contains k) H):tE (aB (oIn id) f (eN "hits")) lo H P:=
 mW (aY (hk _ (b8 hh (Lp.mk (in_e h) (Lf.mk (p:=hits.contains k) rfl q)))))
theorem rSt_i(G:Fs (("k",.int k) :: rF rr rk rh rp) lo)(h:H[rh]? =some (.list (hits.map V.int)))(q:K .next (upd lo "tag" (.str (tg hits k).s)) H):rSt lo H K:=by
 refine jJ (show tE _ lo H λb H1=>bif b then _ else _ from in_i (.n (G _ (.int k) ⋯)) (G _ (.ref rh) ⋯) h ?_)
 unfold tg at q
 cases e:hits.contains k with
 |true=>rw [e]at q;exact q
 |false=>rw [e]at q;exact q
def er(o:Op):Prop:=o.tag= .eq∨o.tag= .rep
theorem wG(k:Int):tg hits k= .eq∨tg hits k= .rep:=by
 unfold tg
 cases hits.contains k with
 |true=>exact .inr rfl
 |false=>exact .inl rfl
theorem er_eq{t u:Tg}(h:t= .eq∨t= .rep)(h':u= .eq∨u= .rep):bE id (.str t.s) (.str u.s) H=some (.bool (t.isEq==u.isEq),H):=by
 rcases h with rfl |rfl<;>rcases h' with rfl |rfl<;>kernel_rfl
theorem rC_i{P:Bool->MH->Prop}{t:Tg}(hr:lo "rows" =some (.ref rr))(ht:lo "tag" =some (.str t.s))(te:t= .eq∨t= .rep)(h:H[rr]? =some (.list (R.map Op.v)))(he:∀ o∈R,er o)
  (q:∀ {H'},Hx H H'->P (match R.getLast? with |none=>false |some o=>o.tag.isEq==t.isEq) H'):rC lo H P:=by
 have h1:=Hx.app H [MO.list []] _ _ h
 refine qQ (mW (aY (b8 hr (rM (aDf Op.v dO (l:=R) (P:=λb H1=>bif b then _ else _) (aQ h1) (gS _ _) (λo _=>dO_rd o) (λo _=>dO_ok o) ?_)))))
 rcases mH R with rfl |⟨R',o,rfl⟩
 ·exact bN (q (.app _ _))
 ·rw[show (!(R'++[o]).isEmpty)=true by cases R'<;>rfl]
  rw [List.map_append]at h1
  rw [List.getLast?_concat]at q
  refine b5 (qQ (mW (aY (aY (yZ hr (jA h1) (fW (uT (b8 ht (Lp.mk (er_eq (he o (List.mem_append_right _ List.mem_cons_self)) te) (Lf.mk (p:=o.tag.isEq==t.isEq) rfl ?_))))))))))
  have q':P (o.tag.isEq==t.isEq) (H++[MO.list []]):=q (.app _ _)
  show bif o.tag.isEq==t.isEq then tK true lo _ P else P false _
  cases e:o.tag.isEq==t.isEq with
  |false=>rw [e]at q';exact q'
  |true=>rw [e]at q';exact q'
end
end
section
variable {C:Cx}{H B:MH}{K Q:SK}{lo:Lo}
theorem zV_c{k e:Int}(h:k<e):zV (k,e)= .int k :: zV (k+1,e):=by
 unfold zV jX
 show((List.range (e-k).toNat).map λt:Nat=>k+t).map V.int=_ :: ((List.range (e-(k+1)).toNat).map λt:Nat=>k+1+t).map V.int
 rw [show (e-k).toNat=(e-(k+1)).toNat+1 by exact Yb217 h,List.range_succ_eq_map,List.map_cons,List.map_cons,List.map_map]
 simp only[List.map_map]
 congr 1
 ·show V.int (k+((0:Nat):Int))=_;rw[show k+((0:Nat):Int)=k by exact Yb92]
 ·refine List.map_congr_left λt _=>congrArg V.int ?_
  show k+((t+1:Nat):Int)=k+1+t
  exact Yb216
theorem zV_n{k e:Int}(h: ¬k<e):zV (k,e)= []:=by
 unfold zV jX
 show((List.range (e-k).toNat).map λt:Nat=>k+t).map V.int= []
 rw [show (e-k).toNat=0 by exact Yb215 h];rfl
section
variable {rr rk rh rp:Nat}{s e N:Int}{hits pc:List Int}
inductive LR(B:MH)(rr rk rh rp:Nat)(hits pc:List Int)(s e:Int)(rest:List V)(lo:Lo)(H:MH):Prop
 |mk {k:Int} (e0:rest=zV (k,e)) (F:Fs (rF rr rk rh rp) lo) (hx:Hx B H) (h:H[rr]? =some (.list ((rf hits (av pc) s k).map Op.v))) (sk:s<=k) (ke:k<=e) (t:∀ o∈rf hits (av pc) s k,er o) (gl:(rf hits (av pc) s k).length<=k-s):LR B rr rk rh rp hits pc s e rest lo H
theorem LR.end(I:LR B rr rk rh rp hits pc s e [] lo H):Fs (rF rr rk rh rp) lo/\Hx B H/\H[rr]? =some (.list ((rf hits (av pc) s e).map Op.v))/\(rf hits (av pc) s e).length<=e-s:=by
 cases I with
 | @mk k er F hx h sk ke t gl=>
  have:k=e:=Int.le_antisymm ke (Int.not_lt.mp λc=>by rw[zV_c c]at er;cases er)
  subst this
  exact⟨F,hx,h,gl⟩
theorem r_step(hb:B[rr]? =none)(hh:B[rh]? =some (.list (hits.map V.int)))(hp:B[rp]? =some (.list (pc.map V.int)))(pl:pc.length<10000)(s0:0<=s)(el:e<pc.length){v:V}{rest:List V}(I:LR B rr rk rh rp hits pc s e (v :: rest) lo H)(go:GoK (LR B rr rk rh rp hits pc s e rest) Q K):aN "k" v lo H λlo1 H1=>rB lo1 H1 K:=by
 cases I with
 | @mk k er F hx h sk ke t gl=>
 have kl:k<e:=Int.not_le.mp λc=>by rw[zV_n (Yb214 c)]at er;cases er
 rw [zV_c kl]at er
 cases er
 have G:=F.cons "k" (.int k)
 show rB (upd lo "k" (.int k)) H K
 revert G
 generalize upd lo "k" (.int k)=lo1
 intro G
 refine aP (rSt_i (hits:=hits) G (hx _ _ hh) (aW (aP ?_)))
 have G2:=G.cons "tag" (.str (tg hits k).s)
 revert G2
 generalize upd lo1 "tag" (.str (tg hits k).s)=lo2
 intro G2
 have G':Fs (rF rr rk rh rp) lo2:=G2.re _ ⋯
 refine pV (rC_i (G2 _ (.ref rr) ⋯) (G2 _ (.str (tg hits k).s) ⋯) (wG k) h t λ{H1} x1=>?_)
 have h1:=x1 _ _ h
 have hp1:=x1 _ _ (hx _ _ hp)
 have hx1:=hx.trans x1
 have gk:=G2 ("k" :Str) (.int k) ⋯
 have gt:=G2 ("tag" :Str) (.str (tg hits k).s) ⋯
 have gp:=G2 ("places" :Str) (.ref rp) ⋯
 have gr:=G2 ("rows" :Str) (.ref rr) ⋯
 have es:=rf_s (hits:=hits) (pl:=av pc) sk
 have ln:∀ o:Op,rf hits (av pc) s (k+1)=rf hits (av pc) s k++[o]->o.tag= .eq∨o.tag= .rep->(∀ o∈rf hits (av pc) s (k+1),er o)/\(rf hits (av pc) s (k+1)).length<=k+1-s:=λo e q=>by
  rw [e]
  refine⟨λp hp=>(List.mem_append.mp hp).elim (t p) λhp=>by rw[List.mem_singleton.mp hp];exact q,?_⟩
  rw [List.length_append,List.length_singleton];exact Yb213 gl
 have k1:Evv (aB aH (eN "k") (eK (.int 1))) lo2 H1 (.int (k+1)):=.bin (.n gk) .k add_e
 have new:rf hits (av pc) s (k+1)=rf hits (av pc) s k++[⟨tg hits k,k,k+1,av pc k,av pc (k+1)⟩]->rA2 lo2 H1 (bK (sK .next) K):=λeb=>by
  refine aP (sH gr h1 (lO (bL (b8 gt (bL (b8 gk (bL (k1 _ (bL (pl_i (.n gk) gp hp1 (Yb212 s0 gl) (Yb211 el kl) (oE pl) (bL (pl_i k1 gp hp1 (Yb209 s0 gl) (Yb208 el kl) (oE pl) (iD ⟨(show 5<100 by decide),oC h1 ?_ (aW (aW (go.nx (.mk (k:=k+1) rfl G' (hx1.set hb) ?_ (Yb206 gl) (xU kl) ?_ ?_))))⟩)))))))))))))
  ·rw[List.length_map];exact Yb210 pl s0 el gl kl
  ·rw[eb,List.map_append];exact aG h1 _
  ·exact(ln _ eb (wG k)).1
  ·exact(ln _ eb (wG k)).2
 unfold rst at es
 rcases mH (rf hits (av pc) s k) with c |⟨R,o,c⟩
 ·rw[c]at es ⊢
  exact bN (new (by rw[es,c];rfl))
 ·have e0:=c
  rw [c,List.getLast?_concat,List.dropLast_concat]at es
  rw [c,List.getLast?_concat]
  show bif o.tag.isEq==(tg hits k).isEq then _ else _
  have es:rf hits (av pc) s (k+1)=bif o.tag.isEq==(tg hits k).isEq then R++[⟨tg hits k,o.i1,k+1,o.j1,av pc (k+1)⟩] else R++[o]++[⟨tg hits k,k,k+1,av pc k,av pc (k+1)⟩]:=es
  cases ed:o.tag.isEq==(tg hits k).isEq with
  |false=>
   rw [ed,cond_false]at es
   exact bN (new (by rw[es,c]))
  |true=>
   rw [ed,cond_true]at es
   rw [c,List.map_append]at h1
   have e1:=jA (v:=o.v) h1
   refine b5 (aP (show cX _ _ lo2 H1 _ from lO (bL (b8 gt (bL (aY (yZ gr e1 (fW (Lp.mk (v:=.int o.i1) (H:=H1) rfl (bL (k1 _ (bL (aY (yZ gr e1 (fW (Lp.mk (v:=.int o.j1) (H:=H1) rfl (bL (pl_i k1 gp hp1 (Yb209 s0 gl) (Yb208 el kl) (oE pl) (iD ⟨(show 5<100 by decide),b8 gr (nH (Lf.mk (uW h1 (by decide) (by rw[List.length_append];exact mZ _)) (aW (aW (go.nx (.mk (k:=k+1) rfl G' (hx1.set hb) ?_ (Yb206 gl) (xU kl) ?_ ?_))))))⟩)))))))))))))))))))
   ·rw[es,List.map_append]
    have:=aG h1 (MO.list ((R.map Op.v++[o].map Op.v).set (R.map Op.v).length (Op.v ⟨tg hits k,o.i1,k+1,o.j1,av pc (k+1)⟩)))
    rw [List.set_append_right _ _ (Nat.le_refl _),Nat.sub_self]at this ⊢
    exact this
   ·rw[es]
    intro p hp
    rcases List.mem_append.mp hp with hp |hp
    ·exact t p (by rw[c];exact List.mem_append_left _ hp)
    ·rw[List.mem_singleton.mp hp];exact wG k
   ·rw[es,List.length_append,List.length_singleton]
    rw [c,List.length_append,List.length_singleton]at gl
    exact Yb205 gl
end
end
section
variable {C:Cx}{H B:MH}{K Q:SK}{lo:Lo}
theorem gt_e{x y:Int}:bQ (λx y=>decide (x>y)) (.int x) (.int y) H=some (.bool (decide (x>y)),H):=rfl
theorem lt_e{x y:Int}:bQ (λx y=>decide (x<y)) (.int x) (.int y) H=some (.bool (decide (x<y)),H):=rfl
theorem wH{f g:TF}{b c:Bool}{P:Bool->MH->Prop}(hf:∀ R:Bool->MH->Prop,R b H->f lo H R)(hg:∀ R:Bool->MH->Prop,R c H->g lo H R)(q:P (b && c) H):aU f (aU g (tK true)) lo H P:=by
 refine hf (λb H1=>bif b then _ else _) ?_
 cases b with
 |false=>exact q
 |true=>
  refine hg (λb H1=>bif b then _ else _) ?_
  cases c with
  |false=>exact q
  |true=>exact q
section
variable {rr rk rh rp:Nat}{s e N:Int}{hits pc:List Int}{R:List Op}
def eqE(x:Str):EF:=(bY (esC (eK (.str "equal")) (esC (eN x) (esC (eN x) (esC (aB aM (eN "places") (eN x)) (esC (aB aM (eN "places") (eN x)) esN))))))
theorem eqE_v{x:Str}{k:Int}{Q:EK}(hx:lo x=some (.int k))(hp:lo "places" =some (.ref rp))(h:H[rp]? =some (.list (pc.map V.int)))(k0:0<=k)(k1:k<pc.length)(pl:pc.length<100000)(q:Q (Op.v ⟨.eq,k,k,av pc k,av pc k⟩) H):eqE x lo H Q:=
 lO (bL (fW (bL (b8 hx (bL (b8 hx (bL (pl_i (.n hx) hp h k0 k1 pl (bL (pl_i (.n hx) hp h k0 k1 pl (iD ⟨(show 5<100 by decide),q⟩)))))))))))
def qF(rk rh rp:Nat)(s e:Int):List (Str×V):=[("begin",.int s),("end",.int e),("block",.ref rk),("hits",.ref rh),("places",.ref rp)]
theorem r_2(X:XX C)(F:Fs (rF rr rk rh rp) lo)(h:H[rk]? =some (.list (zV (s,e))))(se:s<e)(k:∀ {lo'},Fs (("rows",.ref rr) :: qF rk rh rp s e) lo'->K .next lo' H):hM X lo H K:=by
 have hk:=F ("block" :Str) (.ref rk) ⋯
 have h1:=h
 have h2:=h
 rw [zV_c se]at h1
 rw [zH se]at h2
 refine aE5 (lO (bL (aY (b8 hk (fW (Lp.mk (lK (v:=.int s) h1 (by decide) (seq_0 _) rfl) (bL (aY (yZ hk (jA h2) (fW (aD5 (iD ⟨(show 2<100 by decide),Lf.mk rfl ⟨rfl,Lf.mk rfl (k ?_)⟩⟩))))))))))))
 rw [show e-1+1=e by exact Yb201]
 exact((F.cons "end" (.int e)).cons "begin" (.int s)).re _ ⋯
theorem r_3(X:XX C)(F:Fs (("rows",.ref rr) :: qF rk rh rp s e) lo)(h:H[rr]? =some (.list (R.map Op.v)))(hh:H[rh]? =some (.list (hits.map V.int)))(hp:H[rp]? =some (.list (pc.map V.int)))(s0:0<=s)(sl:s<pc.length)(pl:pc.length<10000)(rl:R.length<100000)
  (k:∀ {lo' H' r},Fs (("rows",.ref r) :: qF rk rh rp s e) lo'->Hx H H'->H'[r]? =some (.list ((lH hits (av pc) s++R).map Op.v))->(r=rr∨H[r]? =none)->K .next lo' H'):hJ X lo H K:=by
 have gb:=F ("begin" :Str) (.int s) ⋯
 refine pV (wH (b:=hits.contains s) (c:=decide (s>0)) (λR q=>in_i (.n gb) (F _ (.ref rh) ⋯) hh q) (λR q=>mW (aY (b8 gb (fW (Lp.mk gt_e (Lf.mk (p:=decide (s>0)) rfl q)))))) ?_)
 unfold lH at k
 cases c:hits.contains s && decide (s>0) with
 |false=>rw [c]at k;exact bN (k F (.refl _) h (.inl rfl))
 |true=>
  rw [c]at k
  refine b5 (aP (jJ (aY (xL (show eqE "begin" lo H _ from eqE_v gb (F _ (.ref rp) ⋯) hp s0 sl (oE pl) (rJ (b8 (F _ (.ref rr) ⋯) (aBa (bW _ _) (Hx.app _ _ _ _ h) ?_ (aW (k ((F.cons "rows" (.ref _)).re _ ⋯) ((Hx.app _ _).trans (.app _ _)) (bW _ _) (.inr (Hx.app H _).fresh)))))))))))
  rw [List.length_map]
  show 1+R.length<1000000
  exact Yb223 rl
theorem r_4(X:XX C)(F:Fs (("rows",.ref rr) :: qF rk rh rp s e) lo)(h:H[rr]? =some (.list (R.map Op.v)))(hh:H[rh]? =some (.list (hits.map V.int)))(hp:H[rp]? =some (.list (pc.map V.int)))(s0:0<=e)(sl:e<pc.length)(pl:pc.length<10000)(rl:R.length<100000)(eN':N=pc.length-1)
  (k:∀ {lo' H' r},Fs (("rows",.ref r) :: qF rk rh rp s e) lo'->Hx H H'->H'[r]? =some (.list ((R++jY hits (av pc) N e).map Op.v))->(r=rr∨H[r]? =none)->K .next lo' H'):hI X lo H K:=by
 have gb:=F ("end" :Str) (.int e) ⋯
 have gp:=F ("places" :Str) (.ref rp) ⋯
 refine pV (wH (b:=hits.contains (e-1)) (c:=decide (e<N)) (λR q=>in_i (.bin (.n gb) .k aAp) (F _ (.ref rh) ⋯) hh q) (λR q=>mW (aY (b8 gb ((Evv.bin (lenN_e gp (aQ hp) (by rw[List.length_map];exact oE pl)) .k aAp) _ (Lp.mk lt_e (Lf.mk (p:=decide (e<((pc.map V.int).length:Int)-1)) rfl (by rw[List.length_map,<-eN'];exact q))))))) ?_)
 unfold jY at k
 cases c:hits.contains (e-1) && decide (e<N) with
 |false=>rw [c]at k;exact bN (k F (.refl _) (by rw[cond_false,List.append_nil];exact h) (.inl rfl))
 |true=>
  rw [c]at k
  refine b5 (aP (jJ (aY (b8 (F _ (.ref rr) ⋯) (xL (show eqE "end" lo H _ from eqE_v gb gp hp s0 sl (oE pl) (rJ (aBa (Hx.app _ _ _ _ h) (bW _ _) ?_ (aW (k ((F.cons "rows" (.ref _)).re _ ⋯) ((Hx.app _ _).trans (.app _ _)) ?_ (.inr (Hx.app H [MO.list [Op.v ⟨.eq,e,e,av pc e,av pc e⟩]]).fresh)))))))))))
  ·rw[List.length_map]
   show R.length+1<1000000
   exact Yb222 rl
  ·rw[List.map_append];exact bW _ _
end
theorem aE7(X:XX C){rk rh rp:Nat}{p:Int×Int}{N:Int}{hits pc:List Int}{Q:EK}(h:H[rk]? =some (.list (zV p)))(hh:H[rh]? =some (.list (hits.map V.int)))(hp:H[rp]? =some (.list (pc.map V.int)))(p0:0<=p.1)(p1:p.1<p.2)(p2:p.2<=N)(eN':N=pc.length-1)(pl:pc.length<10000)
  (k:∀ {H' r},Hx H H'->H'[r]? =some (.list ((g7 hits (av pc) N p).map Op.v))->H[r]? =none->Q (.ref r) H'):eQ X [.ref rk,.ref rh,.ref rp] H Q:=by
 refine⟨rfl,?_⟩
 have F:Fs [("places",.ref rp),("hits",.ref rh),("block",.ref rk)] (loB ["block","hits","places"] [.ref rk,.ref rh,.ref rp] lo0):=((Fs.cons (l:=[]) nofun "block" (.ref rk)).cons "hits" (.ref rh)).cons "places" (.ref rp)
 show jQ X (loB ["block","hits","places"] [.ref rk,.ref rh,.ref rp] lo0) H (m6 Q)
 revert F
 generalize loB ["block","hits","places"] [.ref rk,.ref rh,.ref rp] lo0=lo
 intro F
 refine aP (aA0 (aW (aP ?_)))
 have G:=F.cons "rows" (.ref H.length)
 revert G
 generalize upd lo "rows" (.ref H.length)=lo1
 intro G
 have x0:=Hx.app H [MO.list []]
 have r0:rf hits (av pc) p.1 p.1= []:=u9
 show iJ (b9 C) (iL (eN "block")) (aN "k") rB lo1 _ _
 refine q6 (iL_i (λq=>b8 (G _ (.ref rk) ⋯) q) (aQ (x0 _ _ h)) ⟨_,gU (vs:=zV p) (LR H H.length rk rh rp hits pc p.1 p.2) (λI=>?_) (λI=>?_) (λ{v rest lo H' K} I go=>r_step (aK H) hh hp pl p0 (Yb219 p2 eN') I go) _ 0 rfl (.mk (k:=p.1) rfl (G.re _ ⋯) x0 (by rw[r0];exact bW _ _) (Int.le_refl _) (Int.le_of_lt p1) (by rw[r0];exact λo ho=>absurd ho List.not_mem_nil) (by rw[r0,Int.sub_self];exact Int.le_refl _))⟩)
 ·cases I with
  |mk er F hx h1 sk ke t gl=>exact aQ (hx _ _ h)
 ·have I:=I.end
  have hx:=I.2.1
  have gl:=I.2.2.2
  refine aW (aP (r_2 X I.1 (hx _ _ h) p1 λ{lo2} F2=>aW (aP (r_3 X F2 I.2.2.1 (hx _ _ hh) (hx _ _ hp) p0 (Yb221 p2 eN' gl) pl (Yb220 p0 p2 eN' pl gl) λ{lo3 H3 r3} F3 x3 h3 f3=>aW (aP (r_4 (N:=N) X F3 h3 ((hx.trans x3) _ _ hh) ((hx.trans x3) _ _ hp) (Yb212 p0 gl) (Yb219 p2 eN') pl ?_ eN' λ{lo4 H4 r4} F4 x4 h4 f4=>aW (aP (u6 (b8 (F4 _ (.ref r4) ⋯) (k ((hx.trans x3).trans x4) h4 ?_))))))))))
  ·have:(lH hits (av pc) p.1).length<=1:=by
    unfold lH
    cases hits.contains p.1 && decide (p.1>0) with
    |false=>exact Nat.zero_le _
    |true=>exact Nat.le_refl _
   rw [List.length_append];exact Yb218 p0 p2 eN' pl gl this
  ·rcases f4 with rfl |f4
   ·rcases f3 with rfl |f3
    ·exact aK H
    ·exact hx.no f3
   ·exact(hx.trans x3).no f4
end
section
def sg(x:Int)(p:Nat):List Int:=bif decide (x%4=0) then(List.range (1+x/8%3).toNat).map λt:Nat=>100+(p:Int)+t else [x%8]
def oth:List Int->Nat->List Int
 | [],_=>[]
 |x :: l,p=>sg x p++oth l (p+(sg x p).length)
def pls:List Int->Nat->List Int
 | [],_=>[]
 |x :: l,p=>((p+(sg x p).length:Nat):Int) :: pls l (p+(sg x p).length)
theorem nD(x:Int)(l:List Int)(p:Nat):oth (x :: l) p=sg x p++oth l (p+(sg x p).length):=rfl
theorem aBb(x:Int)(l:List Int)(p:Nat):pls (x :: l) p=((p+(sg x p).length:Nat):Int) :: pls l (p+(sg x p).length):=rfl
theorem sg_t{x:Int}(h:x%4=0)(p:Nat):sg x p=(List.range (1+x/8%3).toNat).map λt:Nat=>100+(p:Int)+t:=by unfold sg;rw[decide_eq_true h];rfl
theorem sg_f{x:Int}(h: ¬x%4=0)(p:Nat):sg x p= [x%8]:=by unfold sg;rw[decide_eq_false h];rfl
theorem uV(x:Int)(p:Nat):1<=(sg x p).length/\(sg x p).length<=3:=by
 by_cases h:x%4=0
 ·rw[sg_t h,List.length_map,List.length_range];exact Yb235 (Int.emod_nonneg _ (by decide)) (Int.emod_lt_of_pos _ (by decide))
 ·rw[sg_f h];exact⟨Nat.le_refl _,(show 1<=3 by decide)⟩
theorem wR(l m:List Int):∀ p:Nat,oth (l++m) p=oth l p++oth m (p+(oth l p).length):=by
 induction l with
 |nil=>exact λp=>rfl
 |cons x l ih=>
  intro p
  rw [List.cons_append,nD,nD,ih,List.append_assoc,List.length_append,Nat.add_assoc]
theorem wQ:∀ (l:List Int) (p:Nat),(oth l p).length<=3*l.length:=λl=>by
 induction l with
 |nil=>exact λp=>Nat.le_refl _
 |cons x l ih=>
  intro p
  have h1:=uV x p
  have h2:=ih (p+(sg x p).length)
  rw [nD,List.length_append,List.length_cons];exact Yb234 h1 h2
theorem wP:∀ (l:List Int) (p:Nat),(pls l p).length=l.length:=λl=>by
 induction l with
 |nil=>exact λp=>rfl
 |cons x l ih=>intro p;rw[aBb,List.length_cons,List.length_cons,ih]
theorem pls_at:∀ (l:List Int) (p k:Nat),k<l.length->(pls l p)[k]? =some ((p+(oth (l.take (k+1)) p).length:Nat):Int):=λl=>by
 induction l with
 |nil=>exact λp k h=>absurd h (Nat.not_lt_zero _)
 |cons x l ih=>
  intro p k h
  rw [aBb,List.take_succ_cons,nD,List.length_append]
  cases k with
  |zero=>rfl
  |succ k=>
   rw [List.getElem?_cons_succ,ih _ k (Nat.lt_of_succ_lt_succ h),Nat.add_assoc]
section
variable {ns:List Int}
def pcs(ns:List Int):List Int:=0 :: pls ns 0
def lns(ns:List Int):List Int:=ns.map λx=>x%8
def hts(a:List Int):List Int:=((List.range a.length).filter λk:Nat=>decide (av a k%4=0)).map λk:Nat=>(k:Int)
theorem nA{k:Nat}(h:k<=ns.length):av (pcs ns) k=(oth (ns.take k) 0).length:=by
 unfold av pcs
 rw [Int.toNat_natCast,List.getD_eq_getElem?_getD]
 cases k with
 |zero=>rfl
 |succ k=>rw [List.getElem?_cons_succ,pls_at ns 0 k h,Nat.zero_add];rfl
theorem lns_at{k:Nat}{x:Int}(h:ns[k]? =some x):av (lns ns) k=x%8:=by
 unfold av lns
 rw [Int.toNat_natCast,List.getD_eq_getElem?_getD,List.getElem?_map,h];rfl
theorem w9{a:List Int}{k:Int}:k∈hts a↔(0<=k/\k<a.length)/\av a k%4=0:=by
 unfold hts
 constructor
 ·intro h
  obtain⟨j,hj,rfl⟩:=List.mem_map.mp h
  have:=List.mem_filter.mp hj
  have r:=List.mem_range.mp this.1
  exact⟨by exact Yb233 r,of_decide_eq_true this.2⟩
 ·rintro ⟨h,e⟩
  refine List.mem_map.mpr ⟨k.toNat,List.mem_filter.mpr ⟨List.mem_range.mpr (Yb232 h),?_⟩,by exact Yb231 h⟩
  rw [show ((k.toNat:Nat):Int)=k by exact Yb231 h]
  exact decide_eq_true e
theorem aDm{k:Nat}{x:Int}(h:ns[k]? =some x):ns=ns.take k++(x :: ns.drop (k+1))/\ns.take (k+1)=ns.take k++[x]:=by
 obtain⟨hl,e⟩:=List.getElem?_eq_some_iff.mp h
 rw [<-e]
 exact⟨by rw[<-List.drop_eq_getElem_cons hl,List.take_append_drop],(List.take_succ_eq_append_getElem hl)⟩
theorem aD2{k:Nat}{x:Int}(h:ns[k]? =some x){t:Nat}(ht:t<(sg x (oth (ns.take k) 0).length).length):(oth ns 0)[(oth (ns.take k) 0).length+t]? =(sg x (oth (ns.take k) 0).length)[t]? :=by
 have e:=congrArg (λl=>oth l 0) (aDm h).1
 have e:oth ns 0=oth (ns.take k++(x :: ns.drop (k+1))) 0:=e
 rw [e,wR,nD,Nat.zero_add,List.getElem?_append_right (Nat.le_add_right _ _),Nat.add_sub_cancel_left,List.getElem?_append_left ht]
theorem wK{k:Nat}{x:Int}(h:ns[k]? =some x):av (pcs ns) ((k:Int)+1)=av (pcs ns) k+(sg x (oth (ns.take k) 0).length).length:=by
 have hl:=(List.getElem?_eq_some_iff.mp h).1
 have e:=nA (ns:=ns) (k:=k+1) hl
 rw [show (((k+1:Nat)):Int)=(k:Int)+1 from rfl]at e
 rw [e,nA (Nat.le_of_lt hl),(aDm h).2,wR,nD,List.length_append,List.length_append,Nat.zero_add]
 show _=_+_
 rw [show (oth ([]:List Int) ((oth (ns.take k) 0).length+(sg x (oth (ns.take k) 0).length).length)).length=0 from rfl];exact Yb230
theorem aD3{l:List Int}{i:Nat}{v:Int}{z:Int}(h:l[i]? =some v)(e:z=i):av l z=v:=by
 subst e
 unfold av
 rw [Int.toNat_natCast,List.getD_eq_getElem?_getD,h];rfl
theorem aAd:Pl (lns ns) (oth ns 0) (·∈hts (lns ns)) (av (pcs ns)):=by
 have ll:(lns ns).length=ns.length:=List.length_map ..
 have at_:∀ k:Int,0<=k->k<(lns ns).length->∃ x,ns[k.toNat]? =some x/\av (lns ns) k=x%8/\(k∈hts (lns ns)↔x%4=0):=λk k0 k1=>by
  have hk:k.toNat<ns.length:=by exact Yb229 ll k0 k1
  have e:=List.getElem?_eq_getElem hk
  have a:=lns_at e
  rw [show ((k.toNat:Nat):Int)=k by exact zG k0]at a
  refine⟨_,e,a,w9.trans ?_⟩
  rw [a,Int.emod_emod_of_dvd _ (by decide)]
  exact⟨λh=>h.2,λh=>⟨⟨k0,k1⟩,h⟩⟩
 refine⟨rfl,?_,λk k0 k1 nh=>?_,λk k0 k1 yh=>?_,λi k i0 i1 k0 k1 nh e=>?_⟩
 ·rw[ll,nA (Nat.le_refl _),List.take_length]
 ·obtain⟨x,e,a,hh⟩:=at_ k k0 k1
  have hk:((k.toNat:Nat):Int)=k:=by exact zG k0
  have s:=wK e
  have sf:=sg_f (λq=>nh (hh.mpr q)) (oth (ns.take k.toNat) 0).length
  rw [hk]at s
  refine⟨by rw[s,sf];rfl,?_⟩
  have o:=aD2 e (t:=0) (by rw[sf];exact Nat.zero_lt_one)
  rw [sf]at o
  have p:=nA (ns:=ns) (k:=k.toNat) (Yb227 ll k1)
  rw [hk]at p
  rw [a]
  exact aD3 o (by rw[p];rfl)
 ·obtain⟨x,e,a,hh⟩:=at_ k k0 k1
  have hk:((k.toNat:Nat):Int)=k:=by exact zG k0
  have s:=wK e
  have x4:=hh.mp yh
  have sl:=uV x (oth (ns.take k.toNat) 0).length
  rw [hk]at s
  refine⟨by exact Yb228 s sl,λt t0 t1 i i0 i1 q=>?_⟩
  obtain⟨y,_,b,_⟩:=at_ i i0 i1
  have p:=nA (ns:=ns) (k:=k.toNat) (Yb227 ll k1)
  rw [hk]at p
  have tl:(t-av (pcs ns) k).toNat<(sg x (oth (ns.take k.toNat) 0).length).length:=by exact Yb226 s t0 t1
  have o:=aD2 e tl
  rw [sg_t x4]at o tl
  rw [List.length_map,List.length_range]at tl
  rw [List.getElem?_map,List.getElem?_range tl]at o
  have v:=aD3 (z:=t) o (Yb225 t0 p)
  rw [v,b]at q
  have q:y%8=100+((oth (ns.take k.toNat) 0).length:Int)+((t-av (pcs ns) k).toNat:Int):=q
  have:y%8<8:=Int.emod_lt_of_pos _ (by decide)
  exact Yb224 q (Int.emod_nonneg _ (by decide)) (Int.emod_lt_of_pos _ (by decide))
 ·obtain⟨x,_,a,hh⟩:=at_ i i0 i1
  obtain⟨y,_,b,gh⟩:=at_ k k0 k1
  intro q
  rw [a,b]at e
  exact nh (gh.mpr (by rw[<-Int.emod_emod_of_dvd y (show(4:Int) ∣ 8 by decide),<-e,Int.emod_emod_of_dvd _ (by decide)];exact hh.mp q))
end
end
section
variable {C:Cx}{H B:MH}{K Q:SK}{lo:Lo}
theorem law_0(X:XX C){rs:Nat}{sc:List Int}(hs:lo "script" =some (.ref rs))(h:LI H rs sc)(hl:sc.length<=63)(k:∀ {H' r}{ns:List Int},Hx H H'->LI H' r ns->ns.length<=72->1<=ns.length->K .next (upd lo "numbers" (.ref r)) H'):r9 X lo H K:=by
 have lm:(sc.map V.int).length=sc.length:=List.length_map ..
 refine jJ (show tE _ lo H λb H1=>bif b then _ else _ from mW (aY (aY (lJ hs h (by rw[lm];exact Yb252 hl) (fW (Lp.mk (p9 (by decide)) (fW (Lp.mk uE (Lf.mk (p:=decide (((sc.map V.int).length:Int)%4=3)) rfl ?_)))))))))
 cases e:decide (((sc.map V.int).length:Int)%4=3) with
 |true=>
  have:=of_decide_eq_true e
  exact b5 (b8 hs (k (.refl _) h (Yb251 hl) (by omega)))
 |false=>
  refine bN (kch (B:=Lf (lo "script") λa=>Lp (mkL ([3,5,8,1,1,2,9,0,6].map V.int) H) λv H1=>Lp (aH a v H1) λv H2=>K .next (upd lo "numbers" v) H2) ⋯ (Lf.mk hs (Lp.mk (v:=.ref H.length) (H:=H++[.list ([3,5,8,1,1,2,9,0,6].map V.int)]) (by unfold mkL;exact if_pos (show 9<1000000 by decide)) (wO ((Hx.app _ _).lst h) (gS _ _) (by rw[lm];show sc.length+9<1000000;exact Yb250 hl) (k (ns:=sc++[3,5,8,1,1,2,9,0,6]) ((Hx.app _ _).trans (.app _ _)) (by unfold LI;rw[List.map_append];exact gS _ _) ?_ ?_)))))
  ·rw[List.length_append];show sc.length+9<=72;exact Yb249 hl
  ·rw[List.length_append];show 1<=sc.length+9;exact Yb248
theorem law_1(X:XX C){rn:Nat}{ns:List Int}(hn:lo "numbers" =some (.ref rn))(h:LI H rn ns)(nl:ns.length<=72)(k:∀ {H' r},Hx H H'->H'[r]? =some (.list ((lns ns).map V.int))->K .next (upd lo "lines" (.ref r)) H'):r8 X lo H K:=by
 have ef:(ns.flatMap λz=>[V.int (z%8)])=(lns ns).map V.int:=by
  unfold lns
  rw [tT,List.map_map];rfl
 refine jJ (qK V.int (λz=>[V.int (z%8)]) (λ_=>True) ns hn h trivial (by rw[ef,List.length_map];unfold lns;rw[List.length_map];exact Yb247 nl) (λz hz=>⟨λ{lo1 H1 acc P} i hx ha hal kk=>mV (aY (b8 d4 (fW (Lp.mk (p9 (by decide)) (put1 (P:=P) (I:=λ_=>True) (aK H) hx ha hal rfl trivial kk)))))⟩) λ{H'} hx h'=>k hx (by rw[h',ef]))
theorem law_2(X:XX C){rl:Nat}{a:List Int}(hn:lo "lines" =some (.ref rl))(h:H[rl]? =some (.list (a.map V.int)))(al:a.length<=72)(k:∀ {H' r},Hx H H'->H'[r]? =some (.list ((hts a).map V.int))->K .next (upd lo "hits" (.ref r)) H'):r7 X lo H K:=by
 have lm:(a.map V.int).length=a.length:=List.length_map ..
 have ef:((List.range (a.map V.int).length).flatMap λz:Nat=>bif decide (av a z%4=0) then [nv z] else [])=(hts a).map V.int:=by
  rw [lm]
  unfold hts
  rw [List.map_map]
  induction List.range a.length with
  |nil=>rfl
  |cons z l ih=>
   rw [List.flatMap_cons,ih,List.filter_cons]
   cases decide (av a z%4=0)<;>rfl
 refine jJ (show eP (fV C) [".0","k"] (iR (eRL "lines")) (aN "k") (aU (tE (aB (bE id) (aB mB (aB aM (eN "lines") (eN "k")) (eK (.int 4))) (eK (.int 0)))) (tK true)) (eR (eN "k")) lo H _ from zA (λz:Nat=>bif decide (av a z%4=0) then [nv z] else []) (λlo=>lo "lines" =some (.ref rl)) hn (aQ h) (by rw[lm];exact xS al) ((show hide [".0","k"] lo "lines" =lo "lines" by rfl').trans hn) ?_ (λz hz=>⟨λ{lo1 H1 acc P} i hx ha hal kk=>?_⟩) λ{H'} hx h'=>k hx (by rw[h',ef]))
 ·rw[ef,List.length_map]
  unfold hts
  rw [List.length_map]
  have:=List.length_filter_le (λk:Nat=>decide (av a k%4=0)) (List.range a.length)
  rw [List.length_range]at this
  exact Yb246 al this
 ·have zl:=List.mem_range.mp hz
  rw [lm]at zl
  have i2:upd lo1 "k" (nv z) "lines" =some (.ref rl):=(show upd lo1 "k" (nv z) "lines" =lo1 "lines" by rfl').trans i
  have ez:(a.map V.int)[z]? =some (.int (av a z)):=by
   rw [List.getElem?_map,List.getElem?_eq_getElem zl]
   unfold av
   rw [Int.toNat_natCast,List.getD_eq_getElem?_getD,List.getElem?_eq_getElem zl];rfl
  refine zK (c:=decide (av a z%4=0)) (λR q=>mW (aY (aY (aY (b8 i2 (b8 d4 (at_k (hx _ _ h) ez (by rw[lm];exact xS al) (fW (Lp.mk (p9 (by decide)) (fW (Lp.mk uE (Lf.mk (p:=decide (av a z%4=0)) rfl q)))))))))))) ?_
  cases et:decide (av a z%4=0) with
  |false=>rw [et]at kk;exact bN (put0 (P:=P) (I:=λlo=>lo "lines" =some (.ref rl)) hx ha rfl i2 kk)
  |true=>rw [et]at kk hal;exact b5 (b8 d4 (put1 (P:=P) (I:=λlo=>lo "lines" =some (.ref rl)) (aK H) hx ha hal rfl i2 kk))
theorem law_3(X:XX C)(k:K .next (upd (upd lo "others" (.ref H.length)) "places" (.ref (H++[MO.list []]).length)) (H++[MO.list []]++[MO.list [.int 0]])):r6 X lo H K:=by
 refine u7 (lO (bL (rM (bL (xL (fW (rJ (iD ⟨(show 2<100 by decide),?_⟩))))))))
 exact kch (B:=(2=2/\K .next (upd (upd lo "others" (.ref H.length)) "places" (.ref (H++[MO.list []]).length)) (H++[MO.list []]++[MO.list [.int 0]]))) ⋯ ⟨rfl,k⟩
def xCp:EF:=(eP (fV C) [".0","t"] (iR (aO dY (esC (aB aH (eK (.int 1)) (aB mB (aB oDiv (eN "x") (eK (.int 8))) (eK (.int 3)))) esN))) (aN "t") (tK true) (eR (aB aH (aB aH (eK (.int 100)) (aO cI (esC (eN "others") esN))) (eN "t"))))
def xIf:SF:=(sIf (tE (aB (bE id) (aB mB (eN "x") (eK (.int 4))) (eK (.int 0)))) (aA (aT (eExt (eN "others") (xCp (C:=C)))) (sK .next)) (aA (aT (cV (eN "others") (aB mB (eN "x") (eK (.int 8))))) (sK .next)))
def xPl:SF:=(aA (aT (cV (eN "places") (aO cI (esC (eN "others") esN)))) (sK .next))
section
variable {ro rp rn rl rh:Nat}{x:Int}{O P b pc ns:List Int}
def xF(ro rp rn rl rh:Nat):List (Str×V):=[("others",.ref ro),("places",.ref rp),("numbers",.ref rn),("lines",.ref rl),("hits",.ref rh)]
theorem xCp_i{R:EK}(ho:lo "others" =some (.ref ro))(hx:lo "x" =some (.int x))(h:H[ro]? =some (.list (O.map V.int)))(ol:O.length<10000)
  (k:∀ {H'},Hx H H'->H'[H.length]? =some (.list (((List.range (1+x/8%3).toNat).map λt:Nat=>100+(O.length:Int)+t).map V.int))->R (.ref H.length) H'):xCp (C:=C) lo H R:=by
 have m3:x/8%3<3:=Int.emod_lt_of_pos _ (by decide)
 have m0:0<=x/8%3:=Int.emod_nonneg _ (by decide)
 have ef:((List.range (1+x/8%3).toNat).flatMap λt:Nat=>[V.int (100+(O.length:Int)+t)])=((List.range (1+x/8%3).toNat).map λt:Nat=>100+(O.length:Int)+t).map V.int:=by
  rw [tT,List.map_map];rfl
 have lm:(O.map V.int).length=O.length:=List.length_map ..
 refine n9 nv (λt:Nat=>[V.int (100+(O.length:Int)+t)]) (λlo=>lo "others" =some (.ref ro)) (List.range (1+x/8%3).toNat) (it:=(0,(1+x/8%3).toNat,1)) (λ{P} q=>iR1_i (z:=1+x/8%3) (by exact Yb244 (Int.emod_nonneg _ (by decide)) (Int.emod_lt_of_pos _ (by decide))) (.bin .k (.bin (.bin (.n hx) .k (div_e (by decide))) .k (p9 (by decide))) add_e) q) (by rw[<-tA];exact rQ _ _) ((show hide [".0","t"] lo "others" =lo "others" by rfl').trans ho) (by rw[ef,List.length_map,List.length_map,List.length_range];exact Yb243 (Int.emod_nonneg _ (by decide)) (Int.emod_lt_of_pos _ (by decide))) (λz hz=>⟨λ{lo1 H1 acc P} i hx ha hal kk=>?_⟩) λ{H'} hx h'=>k hx (by rw[h',ef])
 have i2:upd lo1 "t" (nv z) "others" =some (.ref ro):=(show upd lo1 "t" (nv z) "others" =lo1 "others" by rfl').trans i
 refine mV (aY (aY (fW (lJ i2 (aQ (hx _ _ h)) (by rw[lm];exact oE ol) (aD5 (b8 d4 (aD5 ?_)))))))
 rw [lm]
 exact put1 (P:=P) (I:=λlo=>lo "others" =some (.ref ro)) (aK H) hx ha hal rfl i2 kk
inductive L4(B:MH)(ro rp rn rl rh:Nat)(b pc:List Int)(rest:List V)(lo:Lo)(H:MH):Prop
 |mk {rs O P:List Int} (er:rest=rs.map V.int) (F:Fs (xF ro rp rn rl rh) lo) (hx:Hx B H) (h1:H[ro]? =some (.list (O.map V.int))) (h2:H[rp]? =some (.list (P.map V.int))) (e1:O++oth rs O.length=b) (e2:P++pls rs O.length=pc):L4 B ro rp rn rl rh b pc rest lo H
theorem x_step(hb:B[ro]? =none)(hp:B[rp]? =none)(op:ro≠rp)(bl:b.length<1000)(pl:pc.length<1000){v:V}{rest:List V}(I:L4 B ro rp rn rl rh b pc (v :: rest) lo H)(go:GoK (L4 B ro rp rn rl rh b pc rest) Q K):aN "x" v lo H λlo1 H1=>aA (xIf (C:=C)) xPl lo1 H1 K:=by
 cases I with
 | @mk rs O P er F hx h1 h2 e1 e2=>
 cases rs with
 |nil=>cases er
 |cons x rs=>
 cases er
 have G:=F.cons "x" (.int x)
 show aA (xIf (C:=C)) xPl (upd lo "x" (.int x)) H K
 revert G
 generalize upd lo "x" (.int x)=lo1
 intro G
 have G':Fs (xF ro rp rn rl rh) lo1:=G.re _ ⋯
 have gx:=G ("x" :Str) (.int x) ⋯
 have go':=G ("others" :Str) (.ref ro) ⋯
 have gp:=G ("places" :Str) (.ref rp) ⋯
 rw [nD]at e1
 rw [aBb]at e2
 have ol:O.length<1000:=by have:=congrArg List.length e1;rw[List.length_append]at this;exact Yb242 bl this
 have Pl:P.length<1000:=by have:=congrArg List.length e2;rw[List.length_append]at this;exact Yb242 pl this
 have nx:∀ {H1:MH},Hx B H1->H1[ro]? =some (.list ((O++sg x O.length).map V.int))->H1[rp]? =some (.list (P.map V.int))->xPl lo1 H1 K:=λ{H1} x1 g1 g2=>by
  have:=uV x O.length
  have ll:(O++sg x O.length).length=O.length+(sg x O.length).length:=List.length_append
  have lm:((O++sg x O.length).map V.int).length=O.length+(sg x O.length).length:=(List.length_map ..).trans ll
  refine aP (sH gp g2 (lJ go' (aQ g1) (by rw[lm];exact Yb241 ol this) (oC g2 (by rw[List.length_map];exact Yb238 Pl) (aW (go.nx (.mk (rs:=rs) (O:=O++sg x O.length) (P:=P++[((O.length+(sg x O.length).length:Nat):Int)]) rfl G' (x1.set hp) (aF g1 op.symm) ?_ ?_ ?_))))))
  ·rw[lm,List.map_append];exact aG g2 _
  ·rw[ll,List.append_assoc];exact e1
  ·rw[ll,List.append_assoc];exact e2
 refine aP (pV (mW (aY (aY (b8 gx (fW (Lp.mk (p9 (by decide)) (fW (Lp.mk uE (Lf.mk (p:=decide (x%4=0)) rfl ?_))))))))))
 unfold sg at nx
 cases e:decide (x%4=0) with
 |true=>
  rw [e]at nx
  refine b5 (aP (extn_i go' h1 (xCp_i go' gx h1 (Yb240 ol) λ{H1} x1 g1=>extK_i (x1 _ _ h1) g1 ?_ (aW (aW (nx ((hx.trans x1).set hb) ?_ (aF (x1 _ _ h2) op)))))))
  ·rw[List.length_map,List.length_map,List.length_map,List.length_range]
   have m3:x/8%3<3:=Int.emod_lt_of_pos _ (by decide)
   exact Yb239 ol (Int.emod_nonneg _ (by decide)) (Int.emod_lt_of_pos _ (by decide))
  ·rw[List.map_append];exact aG (x1 _ _ h1) _
 |false=>
  rw [e]at nx
  refine bN (aP (sH go' h1 (aY (b8 gx (fW (Lp.mk (p9 (by decide)) (oC h1 (by rw[List.length_map];exact Yb238 ol) (aW (aW (nx (hx.set hb) ?_ (aF h2 op)))))))))))
  rw [List.map_append];exact aG h1 _
theorem law_4(X:XX C)(F:Fs (xF ro rp rn rl rh) lo)(hb:B[ro]? =none)(hp:B[rp]? =none)(op:ro≠rp)(hx:Hx B H)(hn:LI B rn ns)(nl:ns.length<=72)(h1:H[ro]? =some (.list []))(h2:H[rp]? =some (.list [.int 0]))
  (k:∀ {lo' H'},Fs (xF ro rp rn rl rh) lo'->Hx B H'->H'[ro]? =some (.list ((oth ns 0).map V.int))->H'[rp]? =some (.list ((pcs ns).map V.int))->K .next lo' H'):mM X lo H K:=by
 have b1:=wQ ns 0
 have b2:=wP ns 0
 show iJ (b9 C) (iL (eN "numbers")) (aN "x") (aA (xIf (C:=C)) xPl) lo H K
 refine q6 (iL_i (λq=>b8 (F _ (.ref rn) ⋯) q) (hx.lst hn) ⟨_,gU (vs:=ns.map V.int) (L4 B ro rp rn rl rh (oth ns 0) (pcs ns)) (λI=>?_) (λI=>?_) (λI go=>x_step hb hp op (Yb237 nl b1) (by show(pls ns 0).length+1<1000;exact Yb236 nl b2) I go) _ 0 rfl (.mk (rs:=ns) (O:=[]) (P:=[0]) rfl F hx h1 h2 rfl rfl)⟩)
 ·cases I with
  |mk er F hx=>exact hx.lst hn
 ·cases I with
  | @mk rs O P er F hx h1 h2 e1 e2=>
   cases List.map_eq_nil_iff.mp er.symm
   rw [show oth [] O.length= [] from rfl,List.append_nil]at e1
   rw [show pls [] O.length= [] from rfl,List.append_nil]at e2
   subst e1
   subst e2
   exact k F hx h1 h2
end
end
section
variable {C:Cx}{H B:MH}{K Q:SK}{lo:Lo}
theorem aC2{tgt:AF}{body:SF}{e:Int}{Q:SK}(Inv:Int->Lo->MH->Prop)(he:∀ {lo H},Inv e lo H->Q .next lo H)
  (hs:∀ {x lo H K},e<x->Inv x lo H->GoK (Inv (x+ -1)) Q K->tgt (.int x) lo H λlo1 H1=>body lo1 H1 K):
  ∀ (n:Nat) (x:Int){lo:Lo}{H:MH},x-n=e->Inv x lo H->cY (fV C) tgt body (n+1) (x,n,-1) lo H Q:=λn=>by
 induction n with
 |zero=>
  intro x lo H hd h
  have:x=e:=by exact Yb266 hd
  subst this
  exact he h
 |succ n ih=>
  intro x lo H hd h
  exact hs (Yb265 hd) h (.loop λh'=>ih (x+ -1) (Yb264 hd) h')
theorem rng3_i{a b:Int}{Q:EK}(q:Q (.rng a b (-1)) H):dY [.int a,.int b,.int (-1)] H Q:=kch (B:=Q (.rng a b (-1)) H) ⋯ q
theorem Rdy.hxx{X:XX C}{H':MH}{s:Nat}{W:List Op}(D:Rdy X B H s W)(x:Hx H H'):Rdy X B H' s W:=
 ⟨D.bs,D.hx.trans x,D.o.imp λ_ h=>x _ _ h,λ{H1 Q} x1 k=>D.op (x.trans x1) λ{H2 fs oc} e1 e2 e3 e4 e5 e6=>k e1 e2 e3 e4 e5 λg hg h=>e6 g (x.no hg) h⟩
def tldE(X:XX C):EF:=(eIf (tE (aB (bE id) (eN "n") (eK (.int 3)))) (gV (bZ X) (eN "matcher") esN) (gV (b7 X) (eN "matcher") (esC (eN "n") esN)))
def cmpE(X:XX C):EF:=(eP (b9 C) [".0","block"] (iL (aO (eG X) (esC (aO cI (esC (eN "lines") esN)) (esC (eN "hits") (esC (eN "n") esN))))) (aN "block") (tK true) (eR (aO (eQ X) (esC (eN "block") (esC (eN "hits") (esC (eN "places") esN))))))
theorem tld_nf(X:XX C):bP "told" (tldE X) lo H K=(Lf (lo "n") λm=>Lp (bE id m (.int 3) H) λv H1=>Lf (tr v H1) λt=>bif t then(Lf (lo "matcher") λmm=>Lf mm.rf λi=>(∃ ff,H1[i]? =some (.inst ff))/\bZ X [.ref i] H1 λw H3=>K .next (upd lo "told" w) H3) else
  (Lf (lo "matcher") λmm=>Lf mm.rf λi=>(∃ ff,H1[i]? =some (.inst ff))/\Lf (lo "n") λm=>b7 X [.ref i,m] H1 λw H3=>K .next (upd lo "told" w) H3)):=by rfl'
section
variable {s rl rh rp:Nat}{n:Int}{a hits pc:List Int}
theorem tld_i(X:XX C)(gm:lo "matcher" =some (.ref s))(gn:lo "n" =some (.int n))(o:∃ ff,H[s]? =some (.inst ff))(k:K .next (upd lo "told" (.ref H.length)) (H++[MO.gen (.fresh (loB ["self","n"] [.ref s,.int n] lo0))])):bP "told" (tldE X) lo H K:=by
 refine kch (tld_nf X) (Lf.mk gn (Lp.mk uE (Lf.mk (p:=decide (n=3)) rfl ?_)))
 by_cases c:n=3
 ·rw[decide_eq_true c]
  refine b5 (Lf.mk gm (Lf.mk (p:=s) rfl ⟨o,rfl,?_⟩))
  rw [c]at k
  exact k
 ·rw[decide_eq_false c]
  refine bN (Lf.mk gm (Lf.mk (p:=s) rfl ⟨o,?_⟩))
  rw [gn]
  exact⟨rfl,k⟩
def yF(s rl rh rp:Nat):List (Str×V):=[("matcher",.ref s),("lines",.ref rl),("hits",.ref rh),("places",.ref rp)]
theorem cmp_i(X:XX C){R:EK}(F:Fs (("n",.int n) :: yF s rl rh rp) lo)(hl:H[rl]? =some (.list (a.map V.int)))(hh:H[rh]? =some (.list (hits.map V.int)))(hp:H[rp]? =some (.list (pc.map V.int)))(al:a.length<=72)(ph:hits.length<10000)(pl:(a.length:Int)=pc.length-1)
  (k:∀ {H' r}{ps:List (Nat×List Op)},Hx H H'->H'[r]? =some (.list (ps.map rv))->HB (λg:List Op=>g.map Op.v) H' ps->ps.map Prod.snd=(bf (Sn hits n) a.length).map (g7 hits (av pc) a.length)->R (.ref r) H'):cmpE X lo H R:=by
 have lm:(a.map V.int).length=a.length:=List.length_map ..
 refine kY (bL (lJ (F _ (.ref rl) ⋯) (aQ hl) (by rw[lm];exact xS al) (bL (b8 (F _ (.ref rh) ⋯) (bL (b8 (F _ (.int n) ⋯) (iD ?_)))))))
 rw [lm]
 refine zD X hh ph (Yb263 al) λ{H1 r1 ps1} x1 h1 hb1 e1 wf pl1=>Lf.mk (p:=r1) rfl ⟨⟨_,aQ h1⟩,?_⟩
 refine aDo (K:=b9 C) (hid:=[".0","block"]) (fi:=λ_ H Q=>Q (r1,0) H) (tgt:=aN "block") (t:=tK true) (E:=(aO (eQ X) (esC (eN "block") (esC (eN "hits") (esC (eN "places") esN))))) (it:=(r1,0)) (λg:List Op=>g.map Op.v) rv (λp:Nat×(Int×Int)=>g7 hits (av pc) a.length p.2) (Fs [("hits",.ref rh),("places",.ref rp)]) ps1 (Yb262 al pl1) (λq=>q) (nU (aQ h1) _ 0 rfl) ((F.re [("hits",.ref rh),("places",.ref rp)] ⋯).hide ⋯) (λp hp' {lo1 H2 P} i x2 kk=>?_) λ{H' ps} x h hb e f=>k (x1.trans x) h hb (by rw[e,<-e1,List.map_map];rfl)
 have i':=i.up (y:="block") (w:=rv p) ⋯
 have w:=wf p hp'
 exact mV (kY (bL (b8 d4 (bL (b8 (i' _ (.ref rh) ⋯) (bL (b8 (i' _ (.ref rp) ⋯) (iD (aE7 X (x2 _ _ (hb1 p hp')) ((x1.trans x2) _ _ hh) ((x1.trans x2) _ _ hp) w.1 w.2.1 w.2.2 pl (Yb261 al pl) λ{H3 r3} x3 h3 f3=>kk i' x3 h3 f3)))))))))
theorem gl_rd{ps:List (Nat×List Op)}(hg:HB (λg:List Op=>g.map Op.v) H ps):∀ p∈ps,rd H 7 (rv p)=some (dG p):=λp hp=>eZ (n:=6) Op.v dO (aQ (hg p hp)) λo _=>aDl o
theorem same_i{r1 r2:Nat}{ps gl:List (Nat×List Op)}(h1:H[r1]? =some (.list (ps.map gv)))(g1:HG H ps)(h2:H[r2]? =some (.list (gl.map rv)))(g2:HB (λg:List Op=>g.map Op.v) H gl)(e:ps.map Prod.snd=gl.map Prod.snd):eqv H (.ref r1) (.ref r2)=some true:=by
 have E:∀ l:List (Nat×List Op),l.map dG=(l.map Prod.snd).map λw=>PyData.list (w.map dO):=λl=>by rw[List.map_map];rfl
 have e2:ps.map dG=gl.map dG:=by rw[E,E,e]
 have q1:=eZ (n:=7) gv dG (aQ h1) (dG_rd g1)
 rw [e2]at q1
 exact aDb q1 (eZ (n:=7) rv dG (aQ h2) (gl_rd g2)) (pX λp _=>dG_ok p)
inductive L6(X:XX C)(B:MH)(s rl rh rp:Nat)(l:List Op)(x:Int)(lo:Lo)(H:MH):Prop
 |mk {W:List Op} (F:Fs (yF s rl rh rp) lo) (D:Rdy X B H s W) (g:∀ n,0<=n->n<=x->groups n W=groups n l/\jP n W=jP n l) (wl:W.length<=200):L6 X B s rl rh rp l x lo H
def yB(X:XX C):SF:=(aA (bP "told" (tldE X)) (aA (sIf (tE (aB (bE not) (aO (lP (nR X.gc 6 X.gv) (λi=>i)) (esC (eN "told") esN)) (cmpE X))) (aA (jB (eK (.bool false))) (sK .next)) (sK .next)) (sK .next)))
theorem y_step(X:XX C){l:List Op}{x:Int}(hl:B[rl]? =some (.list (a.map V.int)))(hh:B[rh]? =some (.list (hits.map V.int)))(hp:B[rp]? =some (.list (pc.map V.int)))(al:a.length<=72)(ph:hits.length<10000)(pl:(a.length:Int)=pc.length-1)
  (v:∀ o,l= [o]->o.i1<=o.i2/\o.j1<=o.j2) (gr:∀ n,0<=n->groups n l=(bf (Sn hits n) a.length).map (g7 hits (av pc) a.length)) (x0: -1<x) (I:L6 X B s rl rh rp l x lo H) (go:GoK (L6 X B s rl rh rp l (x+ -1)) Q K):aN "n" (.int x) lo H λlo1 H1=>yB X lo1 H1 K:=by
 cases I with
 | @mk W F D g wl=>
 have gx:=g x (Yb260 x0) (Int.le_refl _)
 have G:=F.cons "n" (.int x)
 show yB X (upd lo "n" (.int x)) H K
 revert G
 generalize upd lo "n" (.int x)=lo1
 intro G
 refine aP (tld_i X (G _ (.ref s) ⋯) (G _ (.int x) ⋯) D.o (aW (aP (ret_no ?_))))
 have G2:=G.cons "told" (.ref H.length)
 revert G2
 generalize upd lo1 "told" (.ref H.length)=lo2
 intro G2
 refine kY (bL (b8 (G2 _ (.ref H.length) ⋯) (iD (at_rdy X D wl λ{H1 r rs it gi} D1 hr GG=>?_))))
 refine cmp_i (n:=x) (s:=s) X (G2.re _ ⋯) (D1.hx _ _ hl) (D1.hx _ _ hh) (D1.hx _ _ hp) al ph pl λ{H2 r2 ps} x2 h2 hb2 e2=>?_
 refine c8 GG.hg λqs hqs q1 q2=>?_
 rw [q1]at hr
 refine no_i (same_i (x2 _ _ hr) (hqs.hx x2) h2 hb2 ?_) ?_
 ·rw[<-q2,gx.1,e2,gr x (Yb260 x0)]
 ·refine aW (go.nx (.mk (W:=jP x W) (G2.re _ ⋯) (D1.hxx x2) (λn n0 nx=>?_) (by rw[tV];exact wl)))
  rw [gx.2]
  exact⟨aCt n0 (Yb259 nx) v,by rw[aC4 n0 (Yb258 n0 nx) v,show min n x=n by exact Yb257 nx]⟩
theorem law_6(X:XX C){l:List Op}(F:Fs (yF s rl rh rp) lo)(D:Rdy X B H s l)(wl:l.length<=200)(hl:B[rl]? =some (.list (a.map V.int)))(hh:B[rh]? =some (.list (hits.map V.int)))(hp:B[rp]? =some (.list (pc.map V.int)))(al:a.length<=72)(ph:hits.length<10000)(pl:(a.length:Int)=pc.length-1)
  (v:∀ o,l= [o]->o.i1<=o.i2/\o.j1<=o.j2) (gr:∀ n,0<=n->groups n l=(bf (Sn hits n) a.length).map (g7 hits (av pc) a.length)) (k:∀ {lo' H'},K .next lo' H'):rZ X lo H K:=by
 have lm:(a.map V.int).length=a.length:=List.length_map ..
 show iJ (fV C) (iR (aO dY (esC (aO cI (esC (eN "lines") esN)) (esC (dR (eK (.int 1))) (esC (dR (eK (.int 1))) esN))))) (aN "n") (yB X) lo H K
 refine q6 (kY (bL (lJ (F _ (.ref rl) ⋯) (aQ (D.hx _ _ hl)) (by rw[lm];exact xS al) (bL (nH (bL (nH (iD (rng3_i (Lf.mk (p:=(((a.map V.int).length:Int),-1,-1)) rfl ⟨?_,?_⟩))))))))))
 ·show rOk ((a.map V.int).length:Int) (-1) (-1)=true
  unfold rOk
  rw [lm,decide_eq_true (show(-1000000:Int)<a.length by exact Yb256),decide_eq_true (show(a.length:Int)<1000000 by exact Yb255 al)];rfl
 ·rw[lm]
  have e:pH (a.length:Int) (-1) (-1)=a.length+1:=by
   show((a.length:Int)- -1).toNat=_
   exact Yb254
  show ∃ n,cY (fV C) (aN "n") (yB X) n ((a.length:Int),pH (a.length:Int) (-1) (-1),-1) lo H K
  rw [e]
  exact⟨_,aC2 (L6 X B s rl rh rp l) (e:=-1) (λI=>k) (λx0 I go=>y_step X hl hh hp al ph pl v gr x0 I go) _ _ Yb253 (.mk (W:=l) F D (λn _ _=>⟨rfl,rfl⟩) wl)⟩
end
end
section
variable {C:Cx}
theorem law_ok(X:XX C){H:MH}{rs:Nat}{sc:List Int}{Q:EK}(hl:sc.length<=63)(h:LI H rs sc)(k:∀ {H'},Q (.bool true) H'):c_law X [.ref rs] H Q:=by
 refine⟨rfl,?_⟩
 have F:Fs [("script",.ref rs)] (loB ["script"] [.ref rs] lo0):=Fs.cons (l:=[]) nofun "script" (.ref rs)
 show xK X (loB ["script"] [.ref rs] lo0) H (m6 Q)
 revert F
 generalize loB ["script"] [.ref rs] lo0=lo
 intro F
 unfold xK
 refine aP (law_0 X (F _ _ ⋯) h hl λ{H1 rn ns} x1 hn nl n1=>aW (aP ?_))
 have F:=F.cons "numbers" (.ref rn)
 generalize upd lo "numbers" (.ref rn)=lo at F
 have ll:(lns ns).length=ns.length:=List.length_map ..
 refine law_1 X (F _ _ ⋯) hn nl λ{H2 rl} x2 hl2=>aW (aP ?_)
 have F:=F.cons "lines" (.ref rl)
 generalize upd lo "lines" (.ref rl)=lo at F
 refine law_2 X (F _ _ ⋯) hl2 (Yb269 nl ll) λ{H3 rh} x3 hh=>aW (aP ?_)
 have F:=F.cons "hits" (.ref rh)
 generalize upd lo "hits" (.ref rh)=lo at F
 have hn3:=((x2.trans x3).li hn)
 have hl3:=x3 _ _ hl2
 clear x1 x2 x3 h
 refine law_3 X (aW (aP ?_))
 have F:=(F.cons "others" (.ref H3.length)).cons "places" (.ref (H3++[MO.list []]).length)
 have x4:Hx H3 (H3++[MO.list []]++[MO.list [.int 0]]):=(Hx.app _ _).trans (.app _ _)
 have q1:(H3++[MO.list []]++[MO.list [.int 0]])[H3.length]? =some (MO.list []):=(Hx.app _ _) _ _ (bW _ _)
 have q2:=bW (H3++[MO.list []]) (MO.list [.int 0])
 have f1:=aK H3
 have f2:H3[(H3++[MO.list []]).length]? =none:=(Hx.app H3 [MO.list []]).fresh
 have op:H3.length≠(H3++[MO.list []]).length:=by rw[List.length_append];exact(Nat.succ_ne_self _).symm
 revert F x4 q1 q2 f1 f2 op
 generalize upd (upd lo "others" (.ref H3.length)) "places" (.ref (H3++[MO.list []]).length)=lo2
 generalize (H3++[MO.list []]).length=rp
 generalize H3.length=ro
 show _->_->_->_->_->_->_->mM X lo2 (H3++[MO.list []]++[MO.list [.int 0]]) _
 generalize H3++[MO.list []]++[MO.list [.int 0]]=H4
 intro F x4 q1 q2 f1 f2 op
 refine law_4 X (ns:=ns) (rl:=rl) (rh:=rh) (F.re _ ⋯) f1 f2 op x4 hn3 nl q1 q2 λ{lo5 H5} F x5 h1 h2=>aW (aP ?_)
 have ol:=wQ ns 0
 have hl5:=x5 _ _ hl3
 have hh5:=x5 _ _ hh
 refine jJ (kY (bL (fW (bL (b8 (F _ (.ref rl) ⋯) (bL (b8 (F _ (.ref ro) ⋯) (bL (fW (iD (aGf X (aQ hl5) (aQ h1) (Yb274 nl ll) (Yb273 nl ol) λ{H6 rd rj rq m f} x6 S=>aW (aP ?_))))))))))))
 have F:=F.cons "matcher" (.ref H5.length)
 generalize upd lo5 "matcher" (.ref H5.length)=lo at F
 have P:=aAd (ns:=ns)
 refine xE (Al.ex (·∈hts (lns ns)) (av (pcs ns)) (lns ns).length) λl A=>?_
 have a1:=A.len.1
 have a3:=A.len.2.2
 have D:Rdy X H5 H6 H5.length l:=.new X S ⋯ ⋯ (Yb272 nl ll) (λr hr=>by rw[A.few P hr];exact Yb271 nl ll a1) x6 (aK H5) λl' O=>A.is P O
 refine law_6 X (s:=H5.length) (rl:=rl) (rh:=rh) (rp:=rp) (l:=l) (a:=lns ns) (hits:=hts (lns ns)) (pc:=pcs ns) (F.re _ ⋯) D (Yb270 nl ll a3) hl5 hh5 h2 (Yb269 nl ll) ?_ ?_ (λo e=>?_) (λn n0=>?_) λ{lo' H'}=>aW (aP (u6 (fW k)))
 ·unfold hts
  rw [List.length_map]
  have:=List.length_filter_le (λk:Nat=>decide (av (lns ns) k%4=0)) (List.range (lns ns).length)
  rw [List.length_range]at this
  exact Yb268 nl ll this
 ·have:=wP ns 0
  show((lns ns).length:Int)=(((pls ns 0).length+1:Nat):Int)-1
  exact Yb267 ll this
 ·subst e
  have lt:∀ {m:Int},Al (·∈hts (lns ns)) (av (pcs ns)) (lns ns).length m []->0<m->av (pcs ns) 0<=av (pcs ns) m:=λ{m} t m0=>Int.le_of_lt (P.mono (Int.le_refl 0) m0 t.le)
  cases A.inv with
  |eq h1 h2 h3 t=>exact⟨Int.le_of_lt h1,lt t h1⟩
  |ch h1 h2 h3 t=>exact⟨Int.le_of_lt h1,lt t h1⟩
 ·have cod:=A.cod P (f:=none) (Int.le_refl 0) nofun nofun
  rw [P.p0]at cod
  exact((Gp.of n0 cod).rows n0 P (λx hx=>(w9.mp hx).1) A).symm
theorem yL(w:World):((KL w.params).lookup cStatics).isSome=true:=by rfl'
theorem aBx(w:World){s:Shared}(hk:∀ b o,(H1 w).get? b=some o->s.heap.get? b=some o):s.heap.NoLimit:=
 ⟨_,wV (hk _ _ (wA w _ _ (Option.eq_some_of_isSome (yL w)))) ⋯,by rfl'⟩
theorem sP{ρ:List Lc}{h:Heap}:∀ (ns:List Int) (ts:List Tok),ts.length=ns.length->VRs ρ h ((ns.zip ts).map λx=>Value.int x.1 x.2) (ns.map V.int)
 | [],ts,_=>by cases ts<;>exact VRs.nil
 |n :: ns,[],h=>nomatch h
 |n :: ns,t :: ts,h=>VRs.cons (VR.int _ _) (sP ns ts (Nat.succ.inj h))
theorem walk(w:World)(s₁:Shared)(a:Addr)(ns:List Int)(ts:List Tok)(hk:∀ b o,(H1 w).get? b=some o->s₁.heap.get? b=some o)(hg:s₁.gens= #[])(ht:ts.length=ns.length)(hn:ns.length<=63)
  (hl:s₁.heap.IsList a ((ns.zip ts).map λx=>Value.int x.1 x.2).toArray) (h0:(H1 w).get? a=none):
  wpAny (model pw w) callerA (call (.ref 263) [.ref a]) (λv s'=>v= .bool true/\(∀ b o,s₁.heap.get? b=some o->s'.heap.get? b=some o)/\s'.os=s₁.os/\AllBare s'.gens) (λ_ _=>False) s₁:=by
 have X:XX (mkCx pw w s₁ (aBx w hk) (gsh w.params)):=⟨w,hk,λ_ _ _ _=>rfl⟩
 have S:Sim (mkCx pw w s₁ (aBx w hk) (gsh w.params)) [.ro (ns.map V.int)] [⟨a,a,none⟩] s₁:=by
  refine⟨rfl,λ_ _ e=>e,λi m l hm hl'=>?_,λi l hl'=>?_,λi j li lj hi hj ne=>?_,λi j li lj k hi hj ne=>?_,rfl,.of_eq hg⟩
  ·cases i with
   |zero=>cases hm;cases hl';exact⟨rfl,rfl,_,hl,sP ns ts ht⟩
   |succ i=>cases hm
  ·cases i with
   |zero=>exact .inl ⟨_,rfl⟩
   |succ i=>cases hl'
  ·cases i with
   |zero=>cases j with
    |zero=>exact absurd rfl ne
    |succ j=>cases hj
   |succ i=>cases hi
  ·cases i with
   |zero=>cases j with
    |zero=>exact absurd rfl ne
    |succ j=>cases hj
   |succ i=>cases hi
 refine wmN ((cv_law X).call (A:=callerA) (vs:=[.ref 0]) (Q:=λv _=>v= .bool true) ⟨rfl,by decide+kernel,by decide+kernel⟩ S (.cons (VR.ref (l:=⟨a,a,none⟩) rfl) .nil) (law_ok X (sc:=ns) hn rfl λ{_}=>rfl)) λx s' p=>?_
 cases p with
 |mk S' N r q=>
  subst q
  cases r
  exact⟨rfl,S'.keep,S'.os,S'.bare⟩
theorem holds04:PySem.Challenge.rw_dm0053_04.Holds:=head walk
end
end Mine
theorem PySem.Challenge.cw_dm0053_04_holds : PySem.Challenge.rw_dm0053_04.Holds :=
 Mine.holds04
